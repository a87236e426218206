import Derived.Test.Qxb6613049aFmtR9
namespace Go.Proofs.Qxb6613049aFmt
open Go.RowKit Go.Extern.Stop Go.Stop Go.Extern

theorem Turn.two {b cb B : Nat} {w w' : World} (h : Only b w w') : Turn (fun k => k = b ∨ k = cb) B w w' := h.turn (fun k => k = b ∨ k = cb) (.inl rfl) B
theorem Turn.two1 {b cb B C : Nat} {w w' : World} (h : Turn (fun k => k = b) C w w') (hB : B ≤ C) : Turn (fun k => k = b ∨ k = cb) B w w' := h.mono hB (fun _ _ e => .inl e)
theorem Only.set1 {b : Nat} {w w' : World} (h : Only b w w') (o : Nat) (v : Value) : Only b w (w'.setCell ⟨b, o, none⟩ v) := h.setCell o v
theorem at_eq (bs : List UInt8) (k : Nat) (c : Int) : atB bs k c = decide (k < bs.length ∧ byt bs k = c) := by
  unfold atB
  rw [Bool.eq_iff_iff]
  simp

set_option maxHeartbeats 8000000 in
set_option maxRecDepth 100000 in
theorem params_any (F : Interp) (b cb B : Nat) (bs : List UInt8) (cs : List Chal) (s : List UInt8) (T : Option (List Chal)) (q r : Nat) (w : World) (hF : F.answers w.tape) (h : RD b bs q r w) (hc : CB B cb s [] [] w) (hBw : B = w.heap.size) (hb : b < B) (hcb : cb < B) (hne : cb ≠ b)
    (hi : Inv bs cs s T q q []) (hq : q ≤ bs.length) (hr : r ≤ 2000000000000) (hn : bs.length ≤ 1048576) :
    Calls Tryf.prog 30 #[.pointer (some ⟨b, 0, none⟩), .pointer (some ⟨cb, 0, none⟩)] w (pPost b cb B bs cs s T q r w) := by
  have hz := mk_size bs
  have HBw := hide hBw
  clear hBw
  have hmn := fun (w : World) (r : Option Nat) => run_eql_map_nil (P := Tryf.prog) w 37 9 9 r Tryf.underlying37
  have hmk : ∀ w : World, (Instr.makeMap 37 none).run Tryf.prog w = .ok (.map (some w.heap.size)) (w.alloc (.map #[] 0)) := fun w => rfl
  go_enter Tryf.func30, Tryf.ntmps30
  go_wp2
  go_loopg [5] (bs.length - q) (fun g _ wr => pRel b cb B bs cs s T q r w g wr)
  case atStart => exact ⟨q, r, [], Nat.le_refl _, by omega, h, hc, Turn.refl _ _ _, hi, Nat.zero_le _, by omega, by omega⟩
  case round =>
    obtain ⟨p, r1, ps, hqp, hpg, hrd, hcbr, ht, hinv, hpl, hb1, hb2⟩ := hrel
    have Hg := hide hpg
    have HR := hide hrd
    have HC := hide hcbr
    have HT := hide ht
    have HI := hide hinv
    have X1 := hide hb1
    have X2 := hide hb2
    have hp : p ≤ bs.length := by omega
    have hr1 : r1 ≤ 2500000000000 := by omega
    have hBr : Hid (B ≤ wr.heap.size) := by rw [Hid, HBw.out]; exact HT.out.size
    have hFr : F.answers wr.tape := by rw [HT.out.tape]; exact hF
    clear hpg hrd hcbr ht hinv hb1 hb2 h hc hi
    obtain ⟨a1, a2, a3⟩ := se_facts bs _ p (Nat.le_refl _) hp
    generalize haa : se bs p = a at a1 a2 a3
    generalize hcm : sc bs p = cm
    have Ha := hide haa
    have Hc := hide hcm
    have c25 := empty_to b bs p r1 a cm wr HR.out hp (by omega) hn haa hcm
    have A3 := hide a3
    clear haa hcm a3
    by_cases han : a = bs.length
    · have HN := hide han
      have hbe : ((a : Int) == (bs.length : Int)) = true := by simp [han]
      clear han
      go_wp2_with (go_at_call 25; refine c25.mono ?_; clear c25; rintro e1 w1 ⟨rfl, r2, hrd1, ho1, u1, u2⟩; have H1 := hide hrd1; have O1 := hide ho1; have V2 := hide (show r + a ≤ r2 + q ∧ r2 + 6 * q ≤ r + 4 * p + a + (a + 2) from ⟨(by have := X1.out; omega), (by have := X2.out; omega)⟩); have hr2 : r2 ≤ 2600000000000 := (by omega); clear ho1 u1 u2; obtain ⟨g0, g1, g2, gf1, gf2⟩ := hrd1)
      go_quiet (fail)
      go_wp2
      go_ret
      have x1 := V2.out
      have x2 := stop_ge spI bs (stop tcI bs a)
      have x3 := stop_ge tcI bs a
      obtain ⟨i1, i2⟩ := HI.out.end_ hp (Ha.out.trans HN.out)
      refine .inl ⟨rfl, a, r2, ps, H1.out, ?_, ?_, by rw [HN.out]; exact i2, by omega, a2, ?_, by omega, by omega⟩
      · exact HC.out.only ((O1.out).drewN _) hne hb
      · exact (HT.out.trans (Turn.two O1.out)).drewN _
      · exact Nat.le_trans (t6_before bs q p hq hqp hp i1) a1
    · have hbe : ((a : Int) == (bs.length : Int)) = false := by simp; omega
      have HA : Hid (At bs a) := by
        have := A3.out (by omega)
        exact ⟨by omega, this.1, this.2⟩
      have j1 := stop_ge tcI bs a
      have j2 := stop_le tcI bs a a2
      generalize hjj : stop tcI bs a = j at j1 j2
      have k1 := stop_ge spI bs j
      have k2 := stop_le spI bs j j2
      generalize hkk : stop spI bs j = k at k1 k2
      have Hj := hide hjj
      have Hk := hide hkk
      have han' := hide han
      clear hjj hkk A3 han
      by_cases hja : j = a
      · have hnP : Hid (¬ isP bs a) := fun hP => hP.1 (Hj.out.trans hja)
        have hem := mk_empty (fldOf bs a j) ((fld_nil_iff bs a j j2 j1).2 hja)
        have hja' := hide hja
        clear hja
        have o4 := one_le bs k
        have o3 := one_le bs j
        cases cm with
        | true =>
          go_wp2_with (go_at_call 25; refine c25.mono ?_; clear c25; rintro e1 w1 ⟨rfl, r2, hrd1, ho1, u1, u2⟩; have H1 := hide hrd1; have O1 := hide ho1; have V2 := hide (show r + a ≤ r2 + q ∧ r2 + 6 * q ≤ r + 4 * p + a + (a + 2) from ⟨(by have := X1.out; omega), (by have := X2.out; omega)⟩); have hr2 : r2 ≤ 2600000000000 := (by omega); clear ho1 u1 u2; obtain ⟨g0, g1, g2, gf1, gf2⟩ := hrd1)
          go_quiet (fail)
          go_wp2_with (first
            | (go_at_call 26; refine (token_to b bs a r2 j _ (by exact H1.out) a2 (by omega) hn Hj.out).mono ?_; rintro e2 w2 ⟨rfl, r3, hrd2, ho2, u3⟩; have H2 := hide hrd2; have O2 := hide ho2; have V3 := hide (show r + j ≤ r3 + q ∧ r3 + 6 * q ≤ r + 4 * p + a + (j + 3) from ⟨(by have := V2.out; omega), (by have := V2.out; omega)⟩); have hr3 : r3 ≤ 2600002000000 := (by omega); clear ho2 u3 hrd2)
            | (go_at_call 28; refine (space_to b bs j r3 k _ (by exact H2.out) j2 (by omega) hn Hk.out).mono ?_; rintro e3 w3 ⟨rfl, r4, hrd3, ho3, u4⟩; have H3 := hide hrd3; have O3 := hide (((O1.out.drewN _).trans O2.out).trans ho3); have V4 := hide (show r + k + one bs k ≤ r4 + q ∧ r4 + 6 * q ≤ r + 4 * p + a + (k + 4) from ⟨(by have := V3.out; omega), (by have := V3.out; omega)⟩); have hr4 : r4 ≤ 2600004000000 := (by omega); clear ho3 u4 g0 g1 g2 gf1 gf2; obtain ⟨g0, g1, g2, gf1, gf2⟩ := hrd3))
          go_ret
          obtain ⟨i1, i2⟩ := HI.out.back hp Ha.out HA.out hnP.out Hc.out
          have y0 := V4.out
          have y1 := hja'.out
          refine .inl ⟨rfl, a, r4, ps, (H3.out).move a, ?_, ?_, i2, by omega, a2, Nat.le_trans (t6_before bs q p hq hqp hp i1) a1, by omega, ?_⟩
          · exact HC.out.only ((O3.out).set1 1 _) hne hb
          · exact HT.out.trans (Turn.two ((O3.out).set1 1 _))
          · rw [Hj.out, Hk.out]; omega
        | false =>
          have HTn : Hid (T = none) := HI.out.bad hp Ha.out HA.out hnP.out Hc.out
          go_wp2_with (go_at_call 25; refine c25.mono ?_; clear c25; rintro e1 w1 ⟨rfl, r2, hrd1, ho1, u1, u2⟩; have H1 := hide hrd1; have O1 := hide ho1; have V2 := hide (show r + a ≤ r2 + q ∧ r2 + 6 * q ≤ r + 4 * p + a + (a + 2) from ⟨(by have := X1.out; omega), (by have := X2.out; omega)⟩); have hr2 : r2 ≤ 2600000000000 := (by omega); clear ho1 u1 u2; obtain ⟨g0, g1, g2, gf1, gf2⟩ := hrd1)
          go_quiet (fail)
          go_wp2_with (first
            | (go_at_call 27; refine (errorf_any F b bs a r4 _ _ (by show F.answers w3.tape; rw [(O3.out).tape]; exact hFr) (by exact (H3.out).move a)).mono ?_; rintro e9 w9 ⟨qq, rfl, hb9⟩)
            | (go_at_call 26; refine (token_to b bs a r2 j _ (by exact H1.out) a2 (by omega) hn Hj.out).mono ?_; rintro e2 w2 ⟨rfl, r3, hrd2, ho2, u3⟩; have H2 := hide hrd2; have O2 := hide ho2; have V3 := hide (show r + j ≤ r3 + q ∧ r3 + 6 * q ≤ r + 4 * p + a + (j + 3) from ⟨(by have := V2.out; omega), (by have := V2.out; omega)⟩); have hr3 : r3 ≤ 2600002000000 := (by omega); clear ho2 u3 hrd2)
            | (go_at_call 28; refine (space_to b bs j r3 k _ (by exact H2.out) j2 (by omega) hn Hk.out).mono ?_; rintro e3 w3 ⟨rfl, r4, hrd3, ho3, u4⟩; have H3 := hide hrd3; have O3 := hide (((O1.out.drewN _).trans O2.out).trans ho3); have V4 := hide (show r + k + one bs k ≤ r4 + q ∧ r4 + 6 * q ≤ r + 4 * p + a + (k + 4) from ⟨(by have := V3.out; omega), (by have := V3.out; omega)⟩); have hr4 : r4 ≤ 2600004000000 := (by omega); clear ho3 u4 g0 g1 g2 gf1 gf2; obtain ⟨g0, g1, g2, gf1, gf2⟩ := hrd3))
          go_ret
          have y0 := V4.out
          have y1 := hja'.out
          refine .inr ⟨⟨qq, rfl⟩, HTn.out, a, r4, RD.turn (X := fun _ => False) ((H3.out).move a) (turn_below hb9 _) ((H3.out).move a).lt (fun e => e), ?_, by omega, a2, by omega, by omega⟩
          exact (HT.out.trans (Turn.two ((O3.out).set1 1 _))).trans (turn_below (hb9.mono (by rw [size_setCell, (O3.out).size]; exact hBr.out)) _)
      · have hem := mk_full (fldOf bs a j) (fun e => hja ((fld_nil_iff bs a j j2 j1).1 e))
        generalize hxx : atB bs k 61 = x
        have Hx := hide hxx
        clear hxx
        have o4 := one_le bs k
        have o3 := one_le bs j
        cases x with
        | false =>
          have hnP : Hid (¬ isP bs a) := fun hP => by
            have h1 := Hx.out
            rw [at_eq, decide_eq_false_iff_not] at h1
            have h2 := hP.2
            rw [Hj.out, Hk.out] at h2
            exact h1 h2
          cases cm with
          | true =>
            go_wp2_with (go_at_call 25; refine c25.mono ?_; clear c25; rintro e1 w1 ⟨rfl, r2, hrd1, ho1, u1, u2⟩; have H1 := hide hrd1; have O1 := hide ho1; have V2 := hide (show r + a ≤ r2 + q ∧ r2 + 6 * q ≤ r + 4 * p + a + (a + 2) from ⟨(by have := X1.out; omega), (by have := X2.out; omega)⟩); have hr2 : r2 ≤ 2600000000000 := (by omega); clear ho1 u1 u2; obtain ⟨g0, g1, g2, gf1, gf2⟩ := hrd1)
            go_quiet (fail)
            go_wp2_with (first
              | (go_at_call 34; refine (at_to b bs k r4 61 false _ (by exact H3.out) (by omega) hn Hx.out).mono ?_; rintro e4 w4 ⟨rfl, r5, hrd4, ho4, u5⟩; have H4 := hide hrd4; have O4 := hide (O3.out.trans ho4); have V5 := hide (show r + k + one bs k ≤ r5 + q ∧ r5 + 6 * q ≤ r + 4 * p + a + (k + 5) from ⟨(by have := V4.out; omega), (by have := V4.out; omega)⟩); have hr5 : r5 ≤ 2600004000001 := (by omega); clear ho4 u5 g0 g1 g2 gf1 gf2; obtain ⟨g0, g1, g2, gf1, gf2⟩ := hrd4)
              | (go_at_call 26; refine (token_to b bs a r2 j _ (by exact H1.out) a2 (by omega) hn Hj.out).mono ?_; rintro e2 w2 ⟨rfl, r3, hrd2, ho2, u3⟩; have H2 := hide hrd2; have O2 := hide ho2; have V3 := hide (show r + j ≤ r3 + q ∧ r3 + 6 * q ≤ r + 4 * p + a + (j + 3) from ⟨(by have := V2.out; omega), (by have := V2.out; omega)⟩); have hr3 : r3 ≤ 2600002000000 := (by omega); clear ho2 u3 hrd2)
              | (go_at_call 28; refine (space_to b bs j r3 k _ (by exact H2.out) j2 (by omega) hn Hk.out).mono ?_; rintro e3 w3 ⟨rfl, r4, hrd3, ho3, u4⟩; have H3 := hide hrd3; have O3 := hide (((O1.out.drewN _).trans O2.out).trans ho3); have V4 := hide (show r + k + one bs k ≤ r4 + q ∧ r4 + 6 * q ≤ r + 4 * p + a + (k + 4) from ⟨(by have := V3.out; omega), (by have := V3.out; omega)⟩); have hr4 : r4 ≤ 2600004000000 := (by omega); clear ho3 u4 g0 g1 g2 gf1 gf2; obtain ⟨g0, g1, g2, gf1, gf2⟩ := hrd3))
            go_ret
            obtain ⟨i1, i2⟩ := HI.out.back hp Ha.out HA.out hnP.out Hc.out
            have y0 := V5.out
            refine .inl ⟨rfl, a, r5, ps, (H4.out).move a, ?_, ?_, i2, by omega, a2, Nat.le_trans (t6_before bs q p hq hqp hp i1) a1, by omega, ?_⟩
            · exact HC.out.only ((O4.out).set1 1 _) hne hb
            · exact HT.out.trans (Turn.two ((O4.out).set1 1 _))
            · rw [Hj.out, Hk.out]; omega
          | false =>
            have HTn : Hid (T = none) := HI.out.bad hp Ha.out HA.out hnP.out Hc.out
            go_wp2_with (go_at_call 25; refine c25.mono ?_; clear c25; rintro e1 w1 ⟨rfl, r2, hrd1, ho1, u1, u2⟩; have H1 := hide hrd1; have O1 := hide ho1; have V2 := hide (show r + a ≤ r2 + q ∧ r2 + 6 * q ≤ r + 4 * p + a + (a + 2) from ⟨(by have := X1.out; omega), (by have := X2.out; omega)⟩); have hr2 : r2 ≤ 2600000000000 := (by omega); clear ho1 u1 u2; obtain ⟨g0, g1, g2, gf1, gf2⟩ := hrd1)
            go_quiet (fail)
            go_wp2_with (first
              | (go_at_call 27; refine (errorf_any F b bs a r5 _ _ (by show F.answers w4.tape; rw [(O4.out).tape]; exact hFr) (by exact (H4.out).move a)).mono ?_; rintro e9 w9 ⟨qq, rfl, hb9⟩)
              | (go_at_call 34; refine (at_to b bs k r4 61 false _ (by exact H3.out) (by omega) hn Hx.out).mono ?_; rintro e4 w4 ⟨rfl, r5, hrd4, ho4, u5⟩; have H4 := hide hrd4; have O4 := hide (O3.out.trans ho4); have V5 := hide (show r + k + one bs k ≤ r5 + q ∧ r5 + 6 * q ≤ r + 4 * p + a + (k + 5) from ⟨(by have := V4.out; omega), (by have := V4.out; omega)⟩); have hr5 : r5 ≤ 2600004000001 := (by omega); clear ho4 u5 g0 g1 g2 gf1 gf2; obtain ⟨g0, g1, g2, gf1, gf2⟩ := hrd4)
              | (go_at_call 26; refine (token_to b bs a r2 j _ (by exact H1.out) a2 (by omega) hn Hj.out).mono ?_; rintro e2 w2 ⟨rfl, r3, hrd2, ho2, u3⟩; have H2 := hide hrd2; have O2 := hide ho2; have V3 := hide (show r + j ≤ r3 + q ∧ r3 + 6 * q ≤ r + 4 * p + a + (j + 3) from ⟨(by have := V2.out; omega), (by have := V2.out; omega)⟩); have hr3 : r3 ≤ 2600002000000 := (by omega); clear ho2 u3 hrd2)
              | (go_at_call 28; refine (space_to b bs j r3 k _ (by exact H2.out) j2 (by omega) hn Hk.out).mono ?_; rintro e3 w3 ⟨rfl, r4, hrd3, ho3, u4⟩; have H3 := hide hrd3; have O3 := hide (((O1.out.drewN _).trans O2.out).trans ho3); have V4 := hide (show r + k + one bs k ≤ r4 + q ∧ r4 + 6 * q ≤ r + 4 * p + a + (k + 4) from ⟨(by have := V3.out; omega), (by have := V3.out; omega)⟩); have hr4 : r4 ≤ 2600004000000 := (by omega); clear ho3 u4 g0 g1 g2 gf1 gf2; obtain ⟨g0, g1, g2, gf1, gf2⟩ := hrd3))
            go_ret
            have y0 := V5.out
            refine .inr ⟨⟨qq, rfl⟩, HTn.out, a, r5, RD.turn (X := fun _ => False) ((H4.out).move a) (turn_below hb9 _) ((H4.out).move a).lt (fun e => e), ?_, by omega, a2, by omega, by omega⟩
            exact (HT.out.trans (Turn.two ((O4.out).set1 1 _))).trans (turn_below (hb9.mono (by rw [size_setCell, (O4.out).size]; exact hBr.out)) _)
        | true =>
          have hP : Hid (isP bs a) := by
            have h1 := Hx.out
            rw [at_eq, decide_eq_true_eq] at h1
            refine ⟨by rw [Hj.out]; exact hja, ?_⟩
            rw [Hj.out, Hk.out]
            exact h1
          have hkn : k < bs.length := by
            have h1 := Hx.out
            rw [at_eq, decide_eq_true_eq] at h1
            exact h1.1
          have d1 := stop_ge spI bs (k + 1)
          have d2 := stop_le spI bs (k + 1) (by omega)
          generalize hdd : stop spI bs (k + 1) = d at d1 d2
          have Hd := hide hdd
          clear hdd
          have Ho : Hid (one bs k = 1) := by rw [Hid, one, if_pos hkn]
          have o5 := one_le bs d
          have HM : Hid (Mo bs a true (cs ++ [⟨s, [], ps⟩]) = T) := HI.out.param hp Ha.out hP.out
          have HMo := hide (Mo_param bs a HA.out hP.out cs ⟨s, [], ps⟩)
          rw [Hj.out, Hk.out, Hd.out] at HMo
          have hja' := hide hja
          have hja2 : a < j := by omega
          clear hja
          cases hpv : PV bs d with
          | none =>
            have Hpv := hide hpv
            have HTn : Hid (T = none) := by rw [Hid, ← HM.out, HMo.out, hpv]
            clear hpv HMo
            go_wp2_with (go_at_call 25; refine c25.mono ?_; clear c25; rintro e1 w1 ⟨rfl, r2, hrd1, ho1, u1, u2⟩; have H1 := hide hrd1; have O1 := hide ho1; have V2 := hide (show r + a ≤ r2 + q ∧ r2 + 6 * q ≤ r + 4 * p + a + (a + 2) from ⟨(by have := X1.out; omega), (by have := X2.out; omega)⟩); have hr2 : r2 ≤ 2600000000000 := (by omega); clear ho1 u1 u2; obtain ⟨g0, g1, g2, gf1, gf2⟩ := hrd1)
            go_quiet (fail)
            go_wp2_with (first
              | (go_at_call 40; refine (value_none F b bs d r6 _ (by rw [O5.out.tape]; exact hFr) (by exact H5.out) d2 (by omega) hn Hpv.out).mono ?_; rintro e6 w6 ⟨⟨qq, rfl⟩, p6, r7, hrd6, ht6, u7, u8, u9, u10⟩; have H6 := hide hrd6; have T6 := hide ht6; have V7 := hide (show r ≤ r7 ∧ r7 + 6 * q ≤ r + 4 * p + a + (bs.length + 8) ∧ d ≤ p6 ∧ p6 ≤ bs.length from ⟨(by have := V6.out; omega), (by have := V6.out; omega), u7, u8⟩); clear hrd6 ht6 u7 u8 u9 u10)
              | (go_at_call 28; refine (space_to b bs (k + 1) r5 d _ (by exact H4.out.move (k + 1)) (by omega) (by omega) hn Hd.out).mono ?_; rintro e5 w5 ⟨rfl, r6, hrd5, ho5, u6⟩; have H5 := hide hrd5; have O5 := hide ((O4.out.set1 1 _).trans ho5); have V6 := hide (show r + d ≤ r6 + q ∧ r6 + 6 * q ≤ r + 4 * p + a + (d + 5) from ⟨(by have := V5.out; have := Ho.out; omega), (by have := V5.out; omega)⟩); have hr6 : r6 ≤ 2600008000000 := (by omega); clear ho5 u6 hrd5 g0 g1 g2 gf1 gf2)
              | (go_at_call 34; refine (at_to b bs k r4 61 true _ (by exact H3.out) (by omega) hn Hx.out).mono ?_; rintro e4 w4 ⟨rfl, r5, hrd4, ho4, u5⟩; have H4 := hide hrd4; have O4 := hide (O3.out.trans ho4); have V5 := hide (show r + k + one bs k ≤ r5 + q ∧ r5 + 6 * q ≤ r + 4 * p + a + (k + 5) from ⟨(by have := V4.out; omega), (by have := V4.out; omega)⟩); have hr5 : r5 ≤ 2600004000001 := (by omega); clear ho4 u5 g0 g1 g2 gf1 gf2; obtain ⟨g0, g1, g2, gf1, gf2⟩ := hrd4)
              | (go_at_call 26; refine (token_to b bs a r2 j _ (by exact H1.out) a2 (by omega) hn Hj.out).mono ?_; rintro e2 w2 ⟨rfl, r3, hrd2, ho2, u3⟩; have H2 := hide hrd2; have O2 := hide ho2; have V3 := hide (show r + j ≤ r3 + q ∧ r3 + 6 * q ≤ r + 4 * p + a + (j + 3) from ⟨(by have := V2.out; omega), (by have := V2.out; omega)⟩); have hr3 : r3 ≤ 2600002000000 := (by omega); clear ho2 u3 hrd2)
              | (go_at_call 28; refine (space_to b bs j r3 k _ (by exact H2.out) j2 (by omega) hn Hk.out).mono ?_; rintro e3 w3 ⟨rfl, r4, hrd3, ho3, u4⟩; have H3 := hide hrd3; have O3 := hide (((O1.out.drewN _).trans O2.out).trans ho3); have V4 := hide (show r + k + one bs k ≤ r4 + q ∧ r4 + 6 * q ≤ r + 4 * p + a + (k + 4) from ⟨(by have := V3.out; omega), (by have := V3.out; omega)⟩); have hr4 : r4 ≤ 2600004000000 := (by omega); clear ho3 u4 g0 g1 g2 gf1 gf2; obtain ⟨g0, g1, g2, gf1, gf2⟩ := hrd3))
            go_ret
            have y0 := V7.out
            exact .inr ⟨⟨qq, rfl⟩, HTn.out, p6, r7, H6.out, (HT.out.trans (Turn.two O5.out)).trans (Turn.two1 T6.out (by rw [O5.out.size]; exact hBr.out)), by omega, by omega, by omega, by omega⟩
          | some x =>
            obtain ⟨v, e⟩ := x
            have Hpv := hide hpv
            obtain ⟨e1, e2, hvl0⟩ := PV_len bs d v e hpv
            rw [hpv] at HMo
            clear hpv
            have f1 := stop_ge spI bs e
            have f2 := stop_le spI bs e e2
            generalize hff : stop spI bs e = f at f1 f2
            have Hf := hide hff
            clear hff
            have hnl : (Lib.toLowerA (fldOf bs a j)).length ≤ 4611686018427387904 := by rw [lower_len, fldOf_length bs a j j2]; omega
            have hvl : v.length ≤ 4611686018427387904 := by omega
            have o6 := one_le bs f
            have HMq : Hid (T = if En bs f then (if ps.any (fun x => x.1 == (Lib.toLowerA (fldOf bs a j))) = true then none else Mo bs f true (cs ++ [⟨s, [], ps ++ [((Lib.toLowerA (fldOf bs a j)), v)]⟩])) else none) := by
              rw [Hid, ← HM.out, HMo.out, ← Hf.out]
            clear HMo
            obtain ⟨v2, hv, hpm⟩ := HC.out.2.2.2.2
            cases hdup : ps.any (fun x => x.1 == (Lib.toLowerA (fldOf bs a j))) with
            | true =>
              have Hdup := hide hdup
              have HTn : Hid (T = none) := by
                rw [Hid, HMq.out, if_pos hdup]
                split <;> rfl
              rcases hpm with ⟨hps, -⟩ | ⟨m, rfl, hBm, -, hm⟩
              · rw [hps] at hdup
                cases hdup
              · have hms := hide hm
                clear hdup hm HMq
                go_wp2_with (go_at_call 25; refine c25.mono ?_; clear c25; rintro e1 w1 ⟨rfl, r2, hrd1, ho1, u1, u2⟩; have H1 := hide hrd1; have O1 := hide ho1; have V2 := hide (show r + a ≤ r2 + q ∧ r2 + 6 * q ≤ r + 4 * p + a + (a + 2) from ⟨(by have := X1.out; omega), (by have := X2.out; omega)⟩); have hr2 : r2 ≤ 2600000000000 := (by omega); clear ho1 u1 u2; obtain ⟨g0, g1, g2, gf1, gf2⟩ := hrd1)
                go_quiet (fail)
                go_wp2_with (first
                  | (go_at_call 37; refine (fmtErrorfB_any F _ (by show F.answers w7.tape; rw [T7.out.tape]; exact hFr) _ a (by simp)).mono ?_; rintro e9 w9 ⟨qq, rfl, hb9⟩)
                  | (go_at_call 41; refine (lower_to bs a j Hj.out hn j2 _).mono ?_; rintro e7 w7 ⟨rfl, hb7⟩; have T7 := hide (T6.out.trans (turn_below (hb7.mono T6.out.size) (fun k => k = b))); have H7 := hide (RD.turn (X := fun _ => False) H6.out (turn_below hb7 _) H6.out.lt (fun e => e)); have C7 := hide (HC.out.turn1 (C := B) T7.out hne hb hcb hBr.out); clear hb7; have hv7 := (T7.out.cell (p := ⟨cb, 2, none⟩) (by have := hBr.out; show cb < _; omega) hne).trans hv; have hm7 := hms.out.turn T7.out hms.out.lt (fun e => by have := hBm; omega); obtain ⟨sv, hl7, -⟩ := hm7.look (Lib.toLowerA (fldOf bs a j)) hnl; rw [Hdup.out] at hl7; clear hm7)
                  | (go_at_call 40; refine (value_some F b bs d r6 _ (by rw [O5.out.tape]; exact hFr) (by exact H5.out) d2 (by omega) hn v e Hpv.out).mono ?_; rintro e6 w6 ⟨rfl, r7, hrd6, ht6, u7, u8⟩; have H6 := hide hrd6; have T6 := hide ((O5.out.turn1 wr.heap.size).trans (ht6.mono (by rw [O5.out.size]; exact Nat.le_refl _) (fun _ _ h => h))); have V7 := hide (show r + e ≤ r7 + q ∧ r7 + 6 * q ≤ r + 4 * p + a + (e + 7) from ⟨(by have := V6.out; omega), (by have := V6.out; omega)⟩); have hr7 : r7 ≤ 2600010000000 := (by omega); clear hrd6 ht6 u7 u8)
                  | (go_at_call 28; refine (space_to b bs (k + 1) r5 d _ (by exact H4.out.move (k + 1)) (by omega) (by omega) hn Hd.out).mono ?_; rintro e5 w5 ⟨rfl, r6, hrd5, ho5, u6⟩; have H5 := hide hrd5; have O5 := hide ((O4.out.set1 1 _).trans ho5); have V6 := hide (show r + d ≤ r6 + q ∧ r6 + 6 * q ≤ r + 4 * p + a + (d + 5) from ⟨(by have := V5.out; have := Ho.out; omega), (by have := V5.out; omega)⟩); have hr6 : r6 ≤ 2600008000000 := (by omega); clear ho5 u6 hrd5 g0 g1 g2 gf1 gf2)
                  | (go_at_call 34; refine (at_to b bs k r4 61 true _ (by exact H3.out) (by omega) hn Hx.out).mono ?_; rintro e4 w4 ⟨rfl, r5, hrd4, ho4, u5⟩; have H4 := hide hrd4; have O4 := hide (O3.out.trans ho4); have V5 := hide (show r + k + one bs k ≤ r5 + q ∧ r5 + 6 * q ≤ r + 4 * p + a + (k + 5) from ⟨(by have := V4.out; omega), (by have := V4.out; omega)⟩); have hr5 : r5 ≤ 2600004000001 := (by omega); clear ho4 u5 g0 g1 g2 gf1 gf2; obtain ⟨g0, g1, g2, gf1, gf2⟩ := hrd4)
                  | (go_at_call 26; refine (token_to b bs a r2 j _ (by exact H1.out) a2 (by omega) hn Hj.out).mono ?_; rintro e2 w2 ⟨rfl, r3, hrd2, ho2, u3⟩; have H2 := hide hrd2; have O2 := hide ho2; have V3 := hide (show r + j ≤ r3 + q ∧ r3 + 6 * q ≤ r + 4 * p + a + (j + 3) from ⟨(by have := V2.out; omega), (by have := V2.out; omega)⟩); have hr3 : r3 ≤ 2600002000000 := (by omega); clear ho2 u3 hrd2)
                  | (go_at_call 28; refine (space_to b bs j r3 k _ (by exact H2.out) j2 (by omega) hn Hk.out).mono ?_; rintro e3 w3 ⟨rfl, r4, hrd3, ho3, u4⟩; have H3 := hide hrd3; have O3 := hide (((O1.out.drewN _).trans O2.out).trans ho3); have V4 := hide (show r + k + one bs k ≤ r4 + q ∧ r4 + 6 * q ≤ r + 4 * p + a + (k + 4) from ⟨(by have := V3.out; omega), (by have := V3.out; omega)⟩); have hr4 : r4 ≤ 2600004000000 := (by omega); clear ho3 u4 g0 g1 g2 gf1 gf2; obtain ⟨g0, g1, g2, gf1, gf2⟩ := hrd3))
                go_ret
                have y0 := V7.out
                refine .inr ⟨⟨qq, rfl⟩, HTn.out, e, r7, RD.turn (X := fun _ => False) H7.out (turn_below (((Below.refl w7.heap.size w7).alloc (Nat.le_refl _) _).trans (hb9.mono (by simp))) _) H7.out.lt (fun e => e), ?_, by omega, by omega, by omega, by omega⟩
                exact (HT.out.trans (Turn.two1 T7.out hBr.out)).trans (turn_below ((((Below.refl w7.heap.size w7).alloc (Nat.le_refl _) _).trans (hb9.mono (by simp))).mono (Nat.le_trans hBr.out T7.out.size)) _)
            | false =>
              have Hdup := hide hdup
              have HMr : Hid (T = if En bs f then Mo bs f true (cs ++ [⟨s, [], ps ++ [((Lib.toLowerA (fldOf bs a j)), v)]⟩]) else none) := by
                rw [Hid, HMq.out, hdup]
                rfl
              clear hdup HMq
              rcases hpm with ⟨hps0, rfl⟩ | ⟨m, rfl, hBm, -, hm⟩
              · subst hps0
                by_cases hfn : f < bs.length
                · have hlt : (f : Int) < (bs.length : Int) := by omega
                  generalize hyy : atB bs f 44 = y
                  have Hy := hide hyy
                  clear hyy
                  cases y with
                  | true =>
                    go_wp2_with (go_at_call 25; refine c25.mono ?_; clear c25; rintro e1 w1 ⟨rfl, r2, hrd1, ho1, u1, u2⟩; have H1 := hide hrd1; have O1 := hide ho1; have V2 := hide (show r + a ≤ r2 + q ∧ r2 + 6 * q ≤ r + 4 * p + a + (a + 2) from ⟨(by have := X1.out; omega), (by have := X2.out; omega)⟩); have hr2 : r2 ≤ 2600000000000 := (by omega); clear ho1 u1 u2; obtain ⟨g0, g1, g2, gf1, gf2⟩ := hrd1)
                    go_quiet (fail)
                    go_wp2_with (first
                      | (go_at_call 28; refine (space_to b bs e r7 f _ (by exact H8.out) e2 (by omega) hn Hf.out).mono ?_; rintro e8 w9 ⟨rfl, r8, hrd9, ho9, u9⟩; have H9 := hide hrd9; have O9 := hide ho9; have V8 := hide (show r + f ≤ r8 + q ∧ r8 + 6 * q ≤ r + 4 * p + a + (f + 8) from ⟨(by have := V7.out; omega), (by have := V7.out; omega)⟩); have hr8 : r8 ≤ 2600012000000 := (by omega); clear ho9 u9; obtain ⟨g0, g1, g2, gf1, gf2⟩ := hrd9)
                      | (go_at_call 41; refine (lower_to bs a j Hj.out hn j2 _).mono ?_; rintro e7 w7 ⟨rfl, hb7⟩; have T7 := hide (T6.out.trans (turn_below (hb7.mono T6.out.size) (fun k => k = b))); have H7 := hide (RD.turn (X := fun _ => False) H6.out (turn_below hb7 _) H6.out.lt (fun e => e)); have C7 := hide (HC.out.turn1 (C := B) T7.out hne hb hcb hBr.out); clear hb7; have hv7 := (T7.out.cell (p := ⟨cb, 2, none⟩) (by have := hBr.out; show cb < _; omega) hne).trans hv; have hl7 := nil_look (Lib.toLowerA (fldOf bs a j)) hnl w7; obtain ⟨w8, hu8, hrd8, hc8, ht8⟩ := prep_none b cb B bs e r7 s (Lib.toLowerA (fldOf bs a j)) v w w7 H7.out C7.out hv7 (Nat.le_trans hBr.out T7.out.size) hb hcb hne (HT.out.trans (Turn.two1 T7.out hBr.out)) hnl hvl; have H8 := hide hrd8; have C8 := hide hc8; have T8 := hide ht8; clear hrd8 hc8 ht8; have hcl : cb < w7.heap.size := World.block_lt_of_cell? _ _ hv7; rw [World.setCell_alloc_past (hn := hcl)] at hu8; have ta := turn_below ((Below.refl w7.heap.size w7).alloc (Nat.le_refl _) (.map #[] 0)) (fun _ => False); have hva := (ta.cell (p := ⟨cb, 2, none⟩) hcl (fun e => e)).trans hv7; have hfa := (ta.frozen (p := ⟨cb, 2, none⟩) hcl (fun e => e)).trans C7.out.2.2.2.1; clear ta)
                      | (go_at_call 40; refine (value_some F b bs d r6 _ (by rw [O5.out.tape]; exact hFr) (by exact H5.out) d2 (by omega) hn v e Hpv.out).mono ?_; rintro e6 w6 ⟨rfl, r7, hrd6, ht6, u7, u8⟩; have H6 := hide hrd6; have T6 := hide ((O5.out.turn1 wr.heap.size).trans (ht6.mono (by rw [O5.out.size]; exact Nat.le_refl _) (fun _ _ h => h))); have V7 := hide (show r + e ≤ r7 + q ∧ r7 + 6 * q ≤ r + 4 * p + a + (e + 7) from ⟨(by have := V6.out; omega), (by have := V6.out; omega)⟩); have hr7 : r7 ≤ 2600010000000 := (by omega); clear hrd6 ht6 u7 u8)
                      | (go_at_call 28; refine (space_to b bs (k + 1) r5 d _ (by exact H4.out.move (k + 1)) (by omega) (by omega) hn Hd.out).mono ?_; rintro e5 w5 ⟨rfl, r6, hrd5, ho5, u6⟩; have H5 := hide hrd5; have O5 := hide ((O4.out.set1 1 _).trans ho5); have V6 := hide (show r + d ≤ r6 + q ∧ r6 + 6 * q ≤ r + 4 * p + a + (d + 5) from ⟨(by have := V5.out; have := Ho.out; omega), (by have := V5.out; omega)⟩); have hr6 : r6 ≤ 2600008000000 := (by omega); clear ho5 u6 hrd5 g0 g1 g2 gf1 gf2)
                      | (go_at_call 34; refine (at_to b bs k r4 61 true _ (by exact H3.out) (by omega) hn Hx.out).mono ?_; rintro e4 w4 ⟨rfl, r5, hrd4, ho4, u5⟩; have H4 := hide hrd4; have O4 := hide (O3.out.trans ho4); have V5 := hide (show r + k + one bs k ≤ r5 + q ∧ r5 + 6 * q ≤ r + 4 * p + a + (k + 5) from ⟨(by have := V4.out; omega), (by have := V4.out; omega)⟩); have hr5 : r5 ≤ 2600004000001 := (by omega); clear ho4 u5 g0 g1 g2 gf1 gf2; obtain ⟨g0, g1, g2, gf1, gf2⟩ := hrd4)
                      | (go_at_call 26; refine (token_to b bs a r2 j _ (by exact H1.out) a2 (by omega) hn Hj.out).mono ?_; rintro e2 w2 ⟨rfl, r3, hrd2, ho2, u3⟩; have H2 := hide hrd2; have O2 := hide ho2; have V3 := hide (show r + j ≤ r3 + q ∧ r3 + 6 * q ≤ r + 4 * p + a + (j + 3) from ⟨(by have := V2.out; omega), (by have := V2.out; omega)⟩); have hr3 : r3 ≤ 2600002000000 := (by omega); clear ho2 u3 hrd2)
                      | (go_at_call 28; refine (space_to b bs j r3 k _ (by exact H2.out) j2 (by omega) hn Hk.out).mono ?_; rintro e3 w3 ⟨rfl, r4, hrd3, ho3, u4⟩; have H3 := hide hrd3; have O3 := hide (((O1.out.drewN _).trans O2.out).trans ho3); have V4 := hide (show r + k + one bs k ≤ r4 + q ∧ r4 + 6 * q ≤ r + 4 * p + a + (k + 4) from ⟨(by have := V3.out; omega), (by have := V3.out; omega)⟩); have hr4 : r4 ≤ 2600004000000 := (by omega); clear ho3 u4 g0 g1 g2 gf1 gf2; obtain ⟨g0, g1, g2, gf1, gf2⟩ := hrd3))
                    go_region_held (fun w' => w'.cell? ⟨b, 0, none⟩ = some (.string (mk bs)) ∧ w'.cell? ⟨b, 1, none⟩ = some (.int .i64 f)) (simp [*]) (first | (go_at_call 34; refine (at_to b bs f r8 44 true _ (by exact H9.out) (by omega) hn Hy.out).mono ?_; rintro e10 w10 ⟨rfl, r9, hrd10, ho10, u10⟩; have H10 := hide hrd10; have O10 := hide ho10; have V9 := hide (show r + f ≤ r9 + q ∧ r9 + 6 * q ≤ r + 4 * p + a + (f + 9) from ⟨(by have := V8.out; omega), (by have := V8.out; omega)⟩); clear ho10 u10 g0 g1 g2 gf1 gf2; obtain ⟨g0, g1, g2, gf1, gf2⟩ := hrd10))
                    all_goals
                      go_wp2
                      go_roundg (bs.length - f)
                      case measure => have := Hg.out; omega
                      case rel =>
                        have y0 := V9.out
                        have hE : En bs f := .inr (at_co bs f Hy.out).2
                        refine ⟨f, r9, [((Lib.toLowerA (fldOf bs a j)), v)], by omega, by omega, H10.out, (C8.out.only O9.out hne hb).only ((Only.drew (Only.refl b w9)).trans O10.out) hne hb, (T8.out.trans (Turn.two O9.out)).trans (Turn.two ((Only.drew (Only.refl b w9)).trans O10.out)), .inl ⟨hE, ?_⟩, ?_, by omega, by omega⟩
                        · rw [HMr.out, if_pos hE]; rfl
                        · show 1 ≤ f; omega
                  | false =>
                    have hE : Hid (¬ En bs f) := by
                      rintro (e | e)
                      · omega
                      · exact at_nc bs f Hy.out ⟨hfn, e⟩
                    have HTn : Hid (T = none) := by rw [Hid, HMr.out, if_neg hE.out]
                    go_wp2_with (go_at_call 25; refine c25.mono ?_; clear c25; rintro e1 w1 ⟨rfl, r2, hrd1, ho1, u1, u2⟩; have H1 := hide hrd1; have O1 := hide ho1; have V2 := hide (show r + a ≤ r2 + q ∧ r2 + 6 * q ≤ r + 4 * p + a + (a + 2) from ⟨(by have := X1.out; omega), (by have := X2.out; omega)⟩); have hr2 : r2 ≤ 2600000000000 := (by omega); clear ho1 u1 u2; obtain ⟨g0, g1, g2, gf1, gf2⟩ := hrd1)
                    go_quiet (fail)
                    go_wp2_with (first
                      | (go_at_call 28; refine (space_to b bs e r7 f _ (by exact H8.out) e2 (by omega) hn Hf.out).mono ?_; rintro e8 w9 ⟨rfl, r8, hrd9, ho9, u9⟩; have H9 := hide hrd9; have O9 := hide ho9; have V8 := hide (show r + f ≤ r8 + q ∧ r8 + 6 * q ≤ r + 4 * p + a + (f + 8) from ⟨(by have := V7.out; omega), (by have := V7.out; omega)⟩); have hr8 : r8 ≤ 2600012000000 := (by omega); clear ho9 u9; obtain ⟨g0, g1, g2, gf1, gf2⟩ := hrd9)
                      | (go_at_call 41; refine (lower_to bs a j Hj.out hn j2 _).mono ?_; rintro e7 w7 ⟨rfl, hb7⟩; have T7 := hide (T6.out.trans (turn_below (hb7.mono T6.out.size) (fun k => k = b))); have H7 := hide (RD.turn (X := fun _ => False) H6.out (turn_below hb7 _) H6.out.lt (fun e => e)); have C7 := hide (HC.out.turn1 (C := B) T7.out hne hb hcb hBr.out); clear hb7; have hv7 := (T7.out.cell (p := ⟨cb, 2, none⟩) (by have := hBr.out; show cb < _; omega) hne).trans hv; have hl7 := nil_look (Lib.toLowerA (fldOf bs a j)) hnl w7; obtain ⟨w8, hu8, hrd8, hc8, ht8⟩ := prep_none b cb B bs e r7 s (Lib.toLowerA (fldOf bs a j)) v w w7 H7.out C7.out hv7 (Nat.le_trans hBr.out T7.out.size) hb hcb hne (HT.out.trans (Turn.two1 T7.out hBr.out)) hnl hvl; have H8 := hide hrd8; have C8 := hide hc8; have T8 := hide ht8; clear hrd8 hc8 ht8; have hcl : cb < w7.heap.size := World.block_lt_of_cell? _ _ hv7; rw [World.setCell_alloc_past (hn := hcl)] at hu8; have ta := turn_below ((Below.refl w7.heap.size w7).alloc (Nat.le_refl _) (.map #[] 0)) (fun _ => False); have hva := (ta.cell (p := ⟨cb, 2, none⟩) hcl (fun e => e)).trans hv7; have hfa := (ta.frozen (p := ⟨cb, 2, none⟩) hcl (fun e => e)).trans C7.out.2.2.2.1; clear ta)
                      | (go_at_call 40; refine (value_some F b bs d r6 _ (by rw [O5.out.tape]; exact hFr) (by exact H5.out) d2 (by omega) hn v e Hpv.out).mono ?_; rintro e6 w6 ⟨rfl, r7, hrd6, ht6, u7, u8⟩; have H6 := hide hrd6; have T6 := hide ((O5.out.turn1 wr.heap.size).trans (ht6.mono (by rw [O5.out.size]; exact Nat.le_refl _) (fun _ _ h => h))); have V7 := hide (show r + e ≤ r7 + q ∧ r7 + 6 * q ≤ r + 4 * p + a + (e + 7) from ⟨(by have := V6.out; omega), (by have := V6.out; omega)⟩); have hr7 : r7 ≤ 2600010000000 := (by omega); clear hrd6 ht6 u7 u8)
                      | (go_at_call 28; refine (space_to b bs (k + 1) r5 d _ (by exact H4.out.move (k + 1)) (by omega) (by omega) hn Hd.out).mono ?_; rintro e5 w5 ⟨rfl, r6, hrd5, ho5, u6⟩; have H5 := hide hrd5; have O5 := hide ((O4.out.set1 1 _).trans ho5); have V6 := hide (show r + d ≤ r6 + q ∧ r6 + 6 * q ≤ r + 4 * p + a + (d + 5) from ⟨(by have := V5.out; have := Ho.out; omega), (by have := V5.out; omega)⟩); have hr6 : r6 ≤ 2600008000000 := (by omega); clear ho5 u6 hrd5 g0 g1 g2 gf1 gf2)
                      | (go_at_call 34; refine (at_to b bs k r4 61 true _ (by exact H3.out) (by omega) hn Hx.out).mono ?_; rintro e4 w4 ⟨rfl, r5, hrd4, ho4, u5⟩; have H4 := hide hrd4; have O4 := hide (O3.out.trans ho4); have V5 := hide (show r + k + one bs k ≤ r5 + q ∧ r5 + 6 * q ≤ r + 4 * p + a + (k + 5) from ⟨(by have := V4.out; omega), (by have := V4.out; omega)⟩); have hr5 : r5 ≤ 2600004000001 := (by omega); clear ho4 u5 g0 g1 g2 gf1 gf2; obtain ⟨g0, g1, g2, gf1, gf2⟩ := hrd4)
                      | (go_at_call 26; refine (token_to b bs a r2 j _ (by exact H1.out) a2 (by omega) hn Hj.out).mono ?_; rintro e2 w2 ⟨rfl, r3, hrd2, ho2, u3⟩; have H2 := hide hrd2; have O2 := hide ho2; have V3 := hide (show r + j ≤ r3 + q ∧ r3 + 6 * q ≤ r + 4 * p + a + (j + 3) from ⟨(by have := V2.out; omega), (by have := V2.out; omega)⟩); have hr3 : r3 ≤ 2600002000000 := (by omega); clear ho2 u3 hrd2)
                      | (go_at_call 28; refine (space_to b bs j r3 k _ (by exact H2.out) j2 (by omega) hn Hk.out).mono ?_; rintro e3 w3 ⟨rfl, r4, hrd3, ho3, u4⟩; have H3 := hide hrd3; have O3 := hide (((O1.out.drewN _).trans O2.out).trans ho3); have V4 := hide (show r + k + one bs k ≤ r4 + q ∧ r4 + 6 * q ≤ r + 4 * p + a + (k + 4) from ⟨(by have := V3.out; omega), (by have := V3.out; omega)⟩); have hr4 : r4 ≤ 2600004000000 := (by omega); clear ho3 u4 g0 g1 g2 gf1 gf2; obtain ⟨g0, g1, g2, gf1, gf2⟩ := hrd3))
                    go_region_held (fun w' => w'.cell? ⟨b, 0, none⟩ = some (.string (mk bs)) ∧ w'.cell? ⟨b, 1, none⟩ = some (.int .i64 f)) (simp [*]) (first | (go_at_call 34; refine (at_to b bs f r8 44 false _ (by exact H9.out) (by omega) hn Hy.out).mono ?_; rintro e10 w10 ⟨rfl, r9, hrd10, ho10, u10⟩; have H10 := hide hrd10; have O10 := hide ho10; have V9 := hide (show r + f ≤ r9 + q ∧ r9 + 6 * q ≤ r + 4 * p + a + (f + 9) from ⟨(by have := V8.out; omega), (by have := V8.out; omega)⟩); clear ho10 u10 g0 g1 g2 gf1 gf2; obtain ⟨g0, g1, g2, gf1, gf2⟩ := hrd10))
                    all_goals
                      go_wp2_with (go_at_call 27; refine (errorf_any F b bs f r9 _ _ (by show F.answers w10.tape; rw [O10.out.tape]; show F.answers w9.tape; rw [O9.out.tape, T8.out.tape]; exact hF) (by exact H10.out)).mono ?_; rintro e11 w11 ⟨qq, rfl, hb11⟩)
                      go_ret
                      have y0 := V9.out
                      refine .inr ⟨⟨qq, rfl⟩, HTn.out, f, r9, RD.turn (X := fun _ => False) H10.out (turn_below hb11 _) H10.out.lt (fun e => e), ?_, by omega, by omega, by omega, by omega⟩
                      exact ((T8.out.trans (Turn.two O9.out)).trans (Turn.two ((Only.drew (Only.refl b w9)).trans O10.out))).trans (turn_below (hb11.mono (by rw [O10.out.size]; show B ≤ w9.heap.size; rw [O9.out.size]; rw [HBw.out]; exact T8.out.size)) _)
                · have hlt : decide (f < bs.length) = false := by simp; omega
                  go_wp2_with (go_at_call 25; refine c25.mono ?_; clear c25; rintro e1 w1 ⟨rfl, r2, hrd1, ho1, u1, u2⟩; have H1 := hide hrd1; have O1 := hide ho1; have V2 := hide (show r + a ≤ r2 + q ∧ r2 + 6 * q ≤ r + 4 * p + a + (a + 2) from ⟨(by have := X1.out; omega), (by have := X2.out; omega)⟩); have hr2 : r2 ≤ 2600000000000 := (by omega); clear ho1 u1 u2; obtain ⟨g0, g1, g2, gf1, gf2⟩ := hrd1)
                  go_quiet (fail)
                  go_wp2_with (first
                    | (go_at_call 28; refine (space_to b bs e r7 f _ (by exact H8.out) e2 (by omega) hn Hf.out).mono ?_; rintro e8 w9 ⟨rfl, r8, hrd9, ho9, u9⟩; have H9 := hide hrd9; have O9 := hide ho9; have V8 := hide (show r + f ≤ r8 + q ∧ r8 + 6 * q ≤ r + 4 * p + a + (f + 8) from ⟨(by have := V7.out; omega), (by have := V7.out; omega)⟩); have hr8 : r8 ≤ 2600012000000 := (by omega); clear ho9 u9; obtain ⟨g0, g1, g2, gf1, gf2⟩ := hrd9)
                    | (go_at_call 41; refine (lower_to bs a j Hj.out hn j2 _).mono ?_; rintro e7 w7 ⟨rfl, hb7⟩; have T7 := hide (T6.out.trans (turn_below (hb7.mono T6.out.size) (fun k => k = b))); have H7 := hide (RD.turn (X := fun _ => False) H6.out (turn_below hb7 _) H6.out.lt (fun e => e)); have C7 := hide (HC.out.turn1 (C := B) T7.out hne hb hcb hBr.out); clear hb7; have hv7 := (T7.out.cell (p := ⟨cb, 2, none⟩) (by have := hBr.out; show cb < _; omega) hne).trans hv; have hl7 := nil_look (Lib.toLowerA (fldOf bs a j)) hnl w7; obtain ⟨w8, hu8, hrd8, hc8, ht8⟩ := prep_none b cb B bs e r7 s (Lib.toLowerA (fldOf bs a j)) v w w7 H7.out C7.out hv7 (Nat.le_trans hBr.out T7.out.size) hb hcb hne (HT.out.trans (Turn.two1 T7.out hBr.out)) hnl hvl; have H8 := hide hrd8; have C8 := hide hc8; have T8 := hide ht8; clear hrd8 hc8 ht8; have hcl : cb < w7.heap.size := World.block_lt_of_cell? _ _ hv7; rw [World.setCell_alloc_past (hn := hcl)] at hu8; have ta := turn_below ((Below.refl w7.heap.size w7).alloc (Nat.le_refl _) (.map #[] 0)) (fun _ => False); have hva := (ta.cell (p := ⟨cb, 2, none⟩) hcl (fun e => e)).trans hv7; have hfa := (ta.frozen (p := ⟨cb, 2, none⟩) hcl (fun e => e)).trans C7.out.2.2.2.1; clear ta)
                    | (go_at_call 40; refine (value_some F b bs d r6 _ (by rw [O5.out.tape]; exact hFr) (by exact H5.out) d2 (by omega) hn v e Hpv.out).mono ?_; rintro e6 w6 ⟨rfl, r7, hrd6, ht6, u7, u8⟩; have H6 := hide hrd6; have T6 := hide ((O5.out.turn1 wr.heap.size).trans (ht6.mono (by rw [O5.out.size]; exact Nat.le_refl _) (fun _ _ h => h))); have V7 := hide (show r + e ≤ r7 + q ∧ r7 + 6 * q ≤ r + 4 * p + a + (e + 7) from ⟨(by have := V6.out; omega), (by have := V6.out; omega)⟩); have hr7 : r7 ≤ 2600010000000 := (by omega); clear hrd6 ht6 u7 u8)
                    | (go_at_call 28; refine (space_to b bs (k + 1) r5 d _ (by exact H4.out.move (k + 1)) (by omega) (by omega) hn Hd.out).mono ?_; rintro e5 w5 ⟨rfl, r6, hrd5, ho5, u6⟩; have H5 := hide hrd5; have O5 := hide ((O4.out.set1 1 _).trans ho5); have V6 := hide (show r + d ≤ r6 + q ∧ r6 + 6 * q ≤ r + 4 * p + a + (d + 5) from ⟨(by have := V5.out; have := Ho.out; omega), (by have := V5.out; omega)⟩); have hr6 : r6 ≤ 2600008000000 := (by omega); clear ho5 u6 hrd5 g0 g1 g2 gf1 gf2)
                    | (go_at_call 34; refine (at_to b bs k r4 61 true _ (by exact H3.out) (by omega) hn Hx.out).mono ?_; rintro e4 w4 ⟨rfl, r5, hrd4, ho4, u5⟩; have H4 := hide hrd4; have O4 := hide (O3.out.trans ho4); have V5 := hide (show r + k + one bs k ≤ r5 + q ∧ r5 + 6 * q ≤ r + 4 * p + a + (k + 5) from ⟨(by have := V4.out; omega), (by have := V4.out; omega)⟩); have hr5 : r5 ≤ 2600004000001 := (by omega); clear ho4 u5 g0 g1 g2 gf1 gf2; obtain ⟨g0, g1, g2, gf1, gf2⟩ := hrd4)
                    | (go_at_call 26; refine (token_to b bs a r2 j _ (by exact H1.out) a2 (by omega) hn Hj.out).mono ?_; rintro e2 w2 ⟨rfl, r3, hrd2, ho2, u3⟩; have H2 := hide hrd2; have O2 := hide ho2; have V3 := hide (show r + j ≤ r3 + q ∧ r3 + 6 * q ≤ r + 4 * p + a + (j + 3) from ⟨(by have := V2.out; omega), (by have := V2.out; omega)⟩); have hr3 : r3 ≤ 2600002000000 := (by omega); clear ho2 u3 hrd2)
                    | (go_at_call 28; refine (space_to b bs j r3 k _ (by exact H2.out) j2 (by omega) hn Hk.out).mono ?_; rintro e3 w3 ⟨rfl, r4, hrd3, ho3, u4⟩; have H3 := hide hrd3; have O3 := hide (((O1.out.drewN _).trans O2.out).trans ho3); have V4 := hide (show r + k + one bs k ≤ r4 + q ∧ r4 + 6 * q ≤ r + 4 * p + a + (k + 4) from ⟨(by have := V3.out; omega), (by have := V3.out; omega)⟩); have hr4 : r4 ≤ 2600004000000 := (by omega); clear ho3 u4 g0 g1 g2 gf1 gf2; obtain ⟨g0, g1, g2, gf1, gf2⟩ := hrd3))
                  go_quiet (fail)
                  go_wp2
                  go_roundg (bs.length - f)
                  case measure => have := Hg.out; omega
                  case rel =>
                    have y0 := V8.out
                    have hE : En bs f := .inl (by omega)
                    refine ⟨f, r8, [((Lib.toLowerA (fldOf bs a j)), v)], by omega, by omega, H9.out, (C8.out.only O9.out hne hb).only ((Only.refl b w9).drewN _) hne hb, (T8.out.trans (Turn.two O9.out)).drewN _, .inl ⟨hE, ?_⟩, ?_, by omega, by omega⟩
                    · rw [HMr.out, if_pos hE]; rfl
                    · show 1 ≤ f; omega
              · have hms := hide hm
                clear hm
                by_cases hfn : f < bs.length
                · have hlt : (f : Int) < (bs.length : Int) := by omega
                  generalize hyy : atB bs f 44 = y
                  have Hy := hide hyy
                  clear hyy
                  cases y with
                  | true =>
                    go_wp2_with (go_at_call 25; refine c25.mono ?_; clear c25; rintro e1 w1 ⟨rfl, r2, hrd1, ho1, u1, u2⟩; have H1 := hide hrd1; have O1 := hide ho1; have V2 := hide (show r + a ≤ r2 + q ∧ r2 + 6 * q ≤ r + 4 * p + a + (a + 2) from ⟨(by have := X1.out; omega), (by have := X2.out; omega)⟩); have hr2 : r2 ≤ 2600000000000 := (by omega); clear ho1 u1 u2; obtain ⟨g0, g1, g2, gf1, gf2⟩ := hrd1)
                    go_quiet (fail)
                    go_wp2_with (first
                      | (go_at_call 28; refine (space_to b bs e r7 f _ (by exact H8.out) e2 (by omega) hn Hf.out).mono ?_; rintro e8 w9 ⟨rfl, r8, hrd9, ho9, u9⟩; have H9 := hide hrd9; have O9 := hide ho9; have V8 := hide (show r + f ≤ r8 + q ∧ r8 + 6 * q ≤ r + 4 * p + a + (f + 8) from ⟨(by have := V7.out; omega), (by have := V7.out; omega)⟩); have hr8 : r8 ≤ 2600012000000 := (by omega); clear ho9 u9; obtain ⟨g0, g1, g2, gf1, gf2⟩ := hrd9)
                      | (go_at_call 41; refine (lower_to bs a j Hj.out hn j2 _).mono ?_; rintro e7 w7 ⟨rfl, hb7⟩; have T7 := hide (T6.out.trans (turn_below (hb7.mono T6.out.size) (fun k => k = b))); have H7 := hide (RD.turn (X := fun _ => False) H6.out (turn_below hb7 _) H6.out.lt (fun e => e)); have C7 := hide (HC.out.turn1 (C := B) T7.out hne hb hcb hBr.out); clear hb7; have hv7 := (T7.out.cell (p := ⟨cb, 2, none⟩) (by have := hBr.out; show cb < _; omega) hne).trans hv; have hm7 := hms.out.turn T7.out hms.out.lt (fun e => by have := hBm; omega); obtain ⟨sv, hl7, -⟩ := hm7.look (Lib.toLowerA (fldOf bs a j)) hnl; rw [Hdup.out] at hl7; obtain ⟨w8, hu8, hrd8, hc8, ht8⟩ := prep_some b cb B m bs e r7 s ps (Lib.toLowerA (fldOf bs a j)) v w w7 H7.out C7.out.1 C7.out.2.1 C7.out.2.2.1 C7.out.2.2.2.1 hv7 hm7 hBm hb hcb (HT.out.trans (Turn.two1 T7.out hBr.out)) hnl hvl (by omega) Hdup.out; clear hm7; have H8 := hide hrd8; have C8 := hide hc8; have T8 := hide ht8; clear hrd8 hc8 ht8)
                      | (go_at_call 40; refine (value_some F b bs d r6 _ (by rw [O5.out.tape]; exact hFr) (by exact H5.out) d2 (by omega) hn v e Hpv.out).mono ?_; rintro e6 w6 ⟨rfl, r7, hrd6, ht6, u7, u8⟩; have H6 := hide hrd6; have T6 := hide ((O5.out.turn1 wr.heap.size).trans (ht6.mono (by rw [O5.out.size]; exact Nat.le_refl _) (fun _ _ h => h))); have V7 := hide (show r + e ≤ r7 + q ∧ r7 + 6 * q ≤ r + 4 * p + a + (e + 7) from ⟨(by have := V6.out; omega), (by have := V6.out; omega)⟩); have hr7 : r7 ≤ 2600010000000 := (by omega); clear hrd6 ht6 u7 u8)
                      | (go_at_call 28; refine (space_to b bs (k + 1) r5 d _ (by exact H4.out.move (k + 1)) (by omega) (by omega) hn Hd.out).mono ?_; rintro e5 w5 ⟨rfl, r6, hrd5, ho5, u6⟩; have H5 := hide hrd5; have O5 := hide ((O4.out.set1 1 _).trans ho5); have V6 := hide (show r + d ≤ r6 + q ∧ r6 + 6 * q ≤ r + 4 * p + a + (d + 5) from ⟨(by have := V5.out; have := Ho.out; omega), (by have := V5.out; omega)⟩); have hr6 : r6 ≤ 2600008000000 := (by omega); clear ho5 u6 hrd5 g0 g1 g2 gf1 gf2)
                      | (go_at_call 34; refine (at_to b bs k r4 61 true _ (by exact H3.out) (by omega) hn Hx.out).mono ?_; rintro e4 w4 ⟨rfl, r5, hrd4, ho4, u5⟩; have H4 := hide hrd4; have O4 := hide (O3.out.trans ho4); have V5 := hide (show r + k + one bs k ≤ r5 + q ∧ r5 + 6 * q ≤ r + 4 * p + a + (k + 5) from ⟨(by have := V4.out; omega), (by have := V4.out; omega)⟩); have hr5 : r5 ≤ 2600004000001 := (by omega); clear ho4 u5 g0 g1 g2 gf1 gf2; obtain ⟨g0, g1, g2, gf1, gf2⟩ := hrd4)
                      | (go_at_call 26; refine (token_to b bs a r2 j _ (by exact H1.out) a2 (by omega) hn Hj.out).mono ?_; rintro e2 w2 ⟨rfl, r3, hrd2, ho2, u3⟩; have H2 := hide hrd2; have O2 := hide ho2; have V3 := hide (show r + j ≤ r3 + q ∧ r3 + 6 * q ≤ r + 4 * p + a + (j + 3) from ⟨(by have := V2.out; omega), (by have := V2.out; omega)⟩); have hr3 : r3 ≤ 2600002000000 := (by omega); clear ho2 u3 hrd2)
                      | (go_at_call 28; refine (space_to b bs j r3 k _ (by exact H2.out) j2 (by omega) hn Hk.out).mono ?_; rintro e3 w3 ⟨rfl, r4, hrd3, ho3, u4⟩; have H3 := hide hrd3; have O3 := hide (((O1.out.drewN _).trans O2.out).trans ho3); have V4 := hide (show r + k + one bs k ≤ r4 + q ∧ r4 + 6 * q ≤ r + 4 * p + a + (k + 4) from ⟨(by have := V3.out; omega), (by have := V3.out; omega)⟩); have hr4 : r4 ≤ 2600004000000 := (by omega); clear ho3 u4 g0 g1 g2 gf1 gf2; obtain ⟨g0, g1, g2, gf1, gf2⟩ := hrd3))
                    go_region_held (fun w' => w'.cell? ⟨b, 0, none⟩ = some (.string (mk bs)) ∧ w'.cell? ⟨b, 1, none⟩ = some (.int .i64 f)) (simp [*]) (first | (go_at_call 34; refine (at_to b bs f r8 44 true _ (by exact H9.out) (by omega) hn Hy.out).mono ?_; rintro e10 w10 ⟨rfl, r9, hrd10, ho10, u10⟩; have H10 := hide hrd10; have O10 := hide ho10; have V9 := hide (show r + f ≤ r9 + q ∧ r9 + 6 * q ≤ r + 4 * p + a + (f + 9) from ⟨(by have := V8.out; omega), (by have := V8.out; omega)⟩); clear ho10 u10 g0 g1 g2 gf1 gf2; obtain ⟨g0, g1, g2, gf1, gf2⟩ := hrd10))
                    all_goals
                      go_wp2
                      go_roundg (bs.length - f)
                      case measure => have := Hg.out; omega
                      case rel =>
                        have y0 := V9.out
                        have hE : En bs f := .inr (at_co bs f Hy.out).2
                        refine ⟨f, r9, ps ++ [((Lib.toLowerA (fldOf bs a j)), v)], by omega, by omega, H10.out, (C8.out.only O9.out hne hb).only ((Only.drew (Only.refl b w9)).trans O10.out) hne hb, (T8.out.trans (Turn.two O9.out)).trans (Turn.two ((Only.drew (Only.refl b w9)).trans O10.out)), .inl ⟨hE, ?_⟩, ?_, by omega, by omega⟩
                        · rw [HMr.out, if_pos hE]
                        · rw [List.length_append, List.length_singleton]; omega
                  | false =>
                    have hE : Hid (¬ En bs f) := by
                      rintro (e | e)
                      · omega
                      · exact at_nc bs f Hy.out ⟨hfn, e⟩
                    have HTn : Hid (T = none) := by rw [Hid, HMr.out, if_neg hE.out]
                    go_wp2_with (go_at_call 25; refine c25.mono ?_; clear c25; rintro e1 w1 ⟨rfl, r2, hrd1, ho1, u1, u2⟩; have H1 := hide hrd1; have O1 := hide ho1; have V2 := hide (show r + a ≤ r2 + q ∧ r2 + 6 * q ≤ r + 4 * p + a + (a + 2) from ⟨(by have := X1.out; omega), (by have := X2.out; omega)⟩); have hr2 : r2 ≤ 2600000000000 := (by omega); clear ho1 u1 u2; obtain ⟨g0, g1, g2, gf1, gf2⟩ := hrd1)
                    go_quiet (fail)
                    go_wp2_with (first
                      | (go_at_call 28; refine (space_to b bs e r7 f _ (by exact H8.out) e2 (by omega) hn Hf.out).mono ?_; rintro e8 w9 ⟨rfl, r8, hrd9, ho9, u9⟩; have H9 := hide hrd9; have O9 := hide ho9; have V8 := hide (show r + f ≤ r8 + q ∧ r8 + 6 * q ≤ r + 4 * p + a + (f + 8) from ⟨(by have := V7.out; omega), (by have := V7.out; omega)⟩); have hr8 : r8 ≤ 2600012000000 := (by omega); clear ho9 u9; obtain ⟨g0, g1, g2, gf1, gf2⟩ := hrd9)
                      | (go_at_call 41; refine (lower_to bs a j Hj.out hn j2 _).mono ?_; rintro e7 w7 ⟨rfl, hb7⟩; have T7 := hide (T6.out.trans (turn_below (hb7.mono T6.out.size) (fun k => k = b))); have H7 := hide (RD.turn (X := fun _ => False) H6.out (turn_below hb7 _) H6.out.lt (fun e => e)); have C7 := hide (HC.out.turn1 (C := B) T7.out hne hb hcb hBr.out); clear hb7; have hv7 := (T7.out.cell (p := ⟨cb, 2, none⟩) (by have := hBr.out; show cb < _; omega) hne).trans hv; have hm7 := hms.out.turn T7.out hms.out.lt (fun e => by have := hBm; omega); obtain ⟨sv, hl7, -⟩ := hm7.look (Lib.toLowerA (fldOf bs a j)) hnl; rw [Hdup.out] at hl7; obtain ⟨w8, hu8, hrd8, hc8, ht8⟩ := prep_some b cb B m bs e r7 s ps (Lib.toLowerA (fldOf bs a j)) v w w7 H7.out C7.out.1 C7.out.2.1 C7.out.2.2.1 C7.out.2.2.2.1 hv7 hm7 hBm hb hcb (HT.out.trans (Turn.two1 T7.out hBr.out)) hnl hvl (by omega) Hdup.out; clear hm7; have H8 := hide hrd8; have C8 := hide hc8; have T8 := hide ht8; clear hrd8 hc8 ht8)
                      | (go_at_call 40; refine (value_some F b bs d r6 _ (by rw [O5.out.tape]; exact hFr) (by exact H5.out) d2 (by omega) hn v e Hpv.out).mono ?_; rintro e6 w6 ⟨rfl, r7, hrd6, ht6, u7, u8⟩; have H6 := hide hrd6; have T6 := hide ((O5.out.turn1 wr.heap.size).trans (ht6.mono (by rw [O5.out.size]; exact Nat.le_refl _) (fun _ _ h => h))); have V7 := hide (show r + e ≤ r7 + q ∧ r7 + 6 * q ≤ r + 4 * p + a + (e + 7) from ⟨(by have := V6.out; omega), (by have := V6.out; omega)⟩); have hr7 : r7 ≤ 2600010000000 := (by omega); clear hrd6 ht6 u7 u8)
                      | (go_at_call 28; refine (space_to b bs (k + 1) r5 d _ (by exact H4.out.move (k + 1)) (by omega) (by omega) hn Hd.out).mono ?_; rintro e5 w5 ⟨rfl, r6, hrd5, ho5, u6⟩; have H5 := hide hrd5; have O5 := hide ((O4.out.set1 1 _).trans ho5); have V6 := hide (show r + d ≤ r6 + q ∧ r6 + 6 * q ≤ r + 4 * p + a + (d + 5) from ⟨(by have := V5.out; have := Ho.out; omega), (by have := V5.out; omega)⟩); have hr6 : r6 ≤ 2600008000000 := (by omega); clear ho5 u6 hrd5 g0 g1 g2 gf1 gf2)
                      | (go_at_call 34; refine (at_to b bs k r4 61 true _ (by exact H3.out) (by omega) hn Hx.out).mono ?_; rintro e4 w4 ⟨rfl, r5, hrd4, ho4, u5⟩; have H4 := hide hrd4; have O4 := hide (O3.out.trans ho4); have V5 := hide (show r + k + one bs k ≤ r5 + q ∧ r5 + 6 * q ≤ r + 4 * p + a + (k + 5) from ⟨(by have := V4.out; omega), (by have := V4.out; omega)⟩); have hr5 : r5 ≤ 2600004000001 := (by omega); clear ho4 u5 g0 g1 g2 gf1 gf2; obtain ⟨g0, g1, g2, gf1, gf2⟩ := hrd4)
                      | (go_at_call 26; refine (token_to b bs a r2 j _ (by exact H1.out) a2 (by omega) hn Hj.out).mono ?_; rintro e2 w2 ⟨rfl, r3, hrd2, ho2, u3⟩; have H2 := hide hrd2; have O2 := hide ho2; have V3 := hide (show r + j ≤ r3 + q ∧ r3 + 6 * q ≤ r + 4 * p + a + (j + 3) from ⟨(by have := V2.out; omega), (by have := V2.out; omega)⟩); have hr3 : r3 ≤ 2600002000000 := (by omega); clear ho2 u3 hrd2)
                      | (go_at_call 28; refine (space_to b bs j r3 k _ (by exact H2.out) j2 (by omega) hn Hk.out).mono ?_; rintro e3 w3 ⟨rfl, r4, hrd3, ho3, u4⟩; have H3 := hide hrd3; have O3 := hide (((O1.out.drewN _).trans O2.out).trans ho3); have V4 := hide (show r + k + one bs k ≤ r4 + q ∧ r4 + 6 * q ≤ r + 4 * p + a + (k + 4) from ⟨(by have := V3.out; omega), (by have := V3.out; omega)⟩); have hr4 : r4 ≤ 2600004000000 := (by omega); clear ho3 u4 g0 g1 g2 gf1 gf2; obtain ⟨g0, g1, g2, gf1, gf2⟩ := hrd3))
                    go_region_held (fun w' => w'.cell? ⟨b, 0, none⟩ = some (.string (mk bs)) ∧ w'.cell? ⟨b, 1, none⟩ = some (.int .i64 f)) (simp [*]) (first | (go_at_call 34; refine (at_to b bs f r8 44 false _ (by exact H9.out) (by omega) hn Hy.out).mono ?_; rintro e10 w10 ⟨rfl, r9, hrd10, ho10, u10⟩; have H10 := hide hrd10; have O10 := hide ho10; have V9 := hide (show r + f ≤ r9 + q ∧ r9 + 6 * q ≤ r + 4 * p + a + (f + 9) from ⟨(by have := V8.out; omega), (by have := V8.out; omega)⟩); clear ho10 u10 g0 g1 g2 gf1 gf2; obtain ⟨g0, g1, g2, gf1, gf2⟩ := hrd10))
                    all_goals
                      go_wp2_with (go_at_call 27; refine (errorf_any F b bs f r9 _ _ (by show F.answers w10.tape; rw [O10.out.tape]; show F.answers w9.tape; rw [O9.out.tape, T8.out.tape]; exact hF) (by exact H10.out)).mono ?_; rintro e11 w11 ⟨qq, rfl, hb11⟩)
                      go_ret
                      have y0 := V9.out
                      refine .inr ⟨⟨qq, rfl⟩, HTn.out, f, r9, RD.turn (X := fun _ => False) H10.out (turn_below hb11 _) H10.out.lt (fun e => e), ?_, by omega, by omega, by omega, by omega⟩
                      exact ((T8.out.trans (Turn.two O9.out)).trans (Turn.two ((Only.drew (Only.refl b w9)).trans O10.out))).trans (turn_below (hb11.mono (by rw [O10.out.size]; show B ≤ w9.heap.size; rw [O9.out.size]; rw [HBw.out]; exact T8.out.size)) _)
                · have hlt : decide (f < bs.length) = false := by simp; omega
                  go_wp2_with (go_at_call 25; refine c25.mono ?_; clear c25; rintro e1 w1 ⟨rfl, r2, hrd1, ho1, u1, u2⟩; have H1 := hide hrd1; have O1 := hide ho1; have V2 := hide (show r + a ≤ r2 + q ∧ r2 + 6 * q ≤ r + 4 * p + a + (a + 2) from ⟨(by have := X1.out; omega), (by have := X2.out; omega)⟩); have hr2 : r2 ≤ 2600000000000 := (by omega); clear ho1 u1 u2; obtain ⟨g0, g1, g2, gf1, gf2⟩ := hrd1)
                  go_quiet (fail)
                  go_wp2_with (first
                    | (go_at_call 28; refine (space_to b bs e r7 f _ (by exact H8.out) e2 (by omega) hn Hf.out).mono ?_; rintro e8 w9 ⟨rfl, r8, hrd9, ho9, u9⟩; have H9 := hide hrd9; have O9 := hide ho9; have V8 := hide (show r + f ≤ r8 + q ∧ r8 + 6 * q ≤ r + 4 * p + a + (f + 8) from ⟨(by have := V7.out; omega), (by have := V7.out; omega)⟩); have hr8 : r8 ≤ 2600012000000 := (by omega); clear ho9 u9; obtain ⟨g0, g1, g2, gf1, gf2⟩ := hrd9)
                    | (go_at_call 41; refine (lower_to bs a j Hj.out hn j2 _).mono ?_; rintro e7 w7 ⟨rfl, hb7⟩; have T7 := hide (T6.out.trans (turn_below (hb7.mono T6.out.size) (fun k => k = b))); have H7 := hide (RD.turn (X := fun _ => False) H6.out (turn_below hb7 _) H6.out.lt (fun e => e)); have C7 := hide (HC.out.turn1 (C := B) T7.out hne hb hcb hBr.out); clear hb7; have hv7 := (T7.out.cell (p := ⟨cb, 2, none⟩) (by have := hBr.out; show cb < _; omega) hne).trans hv; have hm7 := hms.out.turn T7.out hms.out.lt (fun e => by have := hBm; omega); obtain ⟨sv, hl7, -⟩ := hm7.look (Lib.toLowerA (fldOf bs a j)) hnl; rw [Hdup.out] at hl7; obtain ⟨w8, hu8, hrd8, hc8, ht8⟩ := prep_some b cb B m bs e r7 s ps (Lib.toLowerA (fldOf bs a j)) v w w7 H7.out C7.out.1 C7.out.2.1 C7.out.2.2.1 C7.out.2.2.2.1 hv7 hm7 hBm hb hcb (HT.out.trans (Turn.two1 T7.out hBr.out)) hnl hvl (by omega) Hdup.out; clear hm7; have H8 := hide hrd8; have C8 := hide hc8; have T8 := hide ht8; clear hrd8 hc8 ht8)
                    | (go_at_call 40; refine (value_some F b bs d r6 _ (by rw [O5.out.tape]; exact hFr) (by exact H5.out) d2 (by omega) hn v e Hpv.out).mono ?_; rintro e6 w6 ⟨rfl, r7, hrd6, ht6, u7, u8⟩; have H6 := hide hrd6; have T6 := hide ((O5.out.turn1 wr.heap.size).trans (ht6.mono (by rw [O5.out.size]; exact Nat.le_refl _) (fun _ _ h => h))); have V7 := hide (show r + e ≤ r7 + q ∧ r7 + 6 * q ≤ r + 4 * p + a + (e + 7) from ⟨(by have := V6.out; omega), (by have := V6.out; omega)⟩); have hr7 : r7 ≤ 2600010000000 := (by omega); clear hrd6 ht6 u7 u8)
                    | (go_at_call 28; refine (space_to b bs (k + 1) r5 d _ (by exact H4.out.move (k + 1)) (by omega) (by omega) hn Hd.out).mono ?_; rintro e5 w5 ⟨rfl, r6, hrd5, ho5, u6⟩; have H5 := hide hrd5; have O5 := hide ((O4.out.set1 1 _).trans ho5); have V6 := hide (show r + d ≤ r6 + q ∧ r6 + 6 * q ≤ r + 4 * p + a + (d + 5) from ⟨(by have := V5.out; have := Ho.out; omega), (by have := V5.out; omega)⟩); have hr6 : r6 ≤ 2600008000000 := (by omega); clear ho5 u6 hrd5 g0 g1 g2 gf1 gf2)
                    | (go_at_call 34; refine (at_to b bs k r4 61 true _ (by exact H3.out) (by omega) hn Hx.out).mono ?_; rintro e4 w4 ⟨rfl, r5, hrd4, ho4, u5⟩; have H4 := hide hrd4; have O4 := hide (O3.out.trans ho4); have V5 := hide (show r + k + one bs k ≤ r5 + q ∧ r5 + 6 * q ≤ r + 4 * p + a + (k + 5) from ⟨(by have := V4.out; omega), (by have := V4.out; omega)⟩); have hr5 : r5 ≤ 2600004000001 := (by omega); clear ho4 u5 g0 g1 g2 gf1 gf2; obtain ⟨g0, g1, g2, gf1, gf2⟩ := hrd4)
                    | (go_at_call 26; refine (token_to b bs a r2 j _ (by exact H1.out) a2 (by omega) hn Hj.out).mono ?_; rintro e2 w2 ⟨rfl, r3, hrd2, ho2, u3⟩; have H2 := hide hrd2; have O2 := hide ho2; have V3 := hide (show r + j ≤ r3 + q ∧ r3 + 6 * q ≤ r + 4 * p + a + (j + 3) from ⟨(by have := V2.out; omega), (by have := V2.out; omega)⟩); have hr3 : r3 ≤ 2600002000000 := (by omega); clear ho2 u3 hrd2)
                    | (go_at_call 28; refine (space_to b bs j r3 k _ (by exact H2.out) j2 (by omega) hn Hk.out).mono ?_; rintro e3 w3 ⟨rfl, r4, hrd3, ho3, u4⟩; have H3 := hide hrd3; have O3 := hide (((O1.out.drewN _).trans O2.out).trans ho3); have V4 := hide (show r + k + one bs k ≤ r4 + q ∧ r4 + 6 * q ≤ r + 4 * p + a + (k + 4) from ⟨(by have := V3.out; omega), (by have := V3.out; omega)⟩); have hr4 : r4 ≤ 2600004000000 := (by omega); clear ho3 u4 g0 g1 g2 gf1 gf2; obtain ⟨g0, g1, g2, gf1, gf2⟩ := hrd3))
                  go_quiet (fail)
                  go_wp2
                  go_roundg (bs.length - f)
                  case measure => have := Hg.out; omega
                  case rel =>
                    have y0 := V8.out
                    have hE : En bs f := .inl (by omega)
                    refine ⟨f, r8, ps ++ [((Lib.toLowerA (fldOf bs a j)), v)], by omega, by omega, H9.out, (C8.out.only O9.out hne hb).only ((Only.refl b w9).drewN _) hne hb, (T8.out.trans (Turn.two O9.out)).drewN _, .inl ⟨hE, ?_⟩, ?_, by omega, by omega⟩
                    · rw [HMr.out, if_pos hE]
                    · rw [List.length_append, List.length_singleton]; omega

end Go.Proofs.Qxb6613049aFmt
