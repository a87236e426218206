import Derived.Test.Qxb6613049aFmtR10
import Derived.Test.Qxb6613049aFmtG2
import Derived.Test.Qxb6613049aFmtPlain5
namespace Go.Proofs.Qxb6613049aFmt
open Go.RowKit Go.Extern.Stop Go.Stop Go.Extern

/-- The loop of challenges. -/
def cRel (b : Nat) (bs : List UInt8) (pn : Bool) (pr : List ByteArray) (T : Option (List Chal)) (p0 r0 : Nat) (w : World) (g : Nat) (t : Value) (wr : World) : Prop :=
  ∃ p r1 out, p0 ≤ p ∧ p + g = bs.length ∧ RD b bs p r1 wr ∧ GL (b + 1) t pn pr out wr ∧ Turn (fun k => k = b) (b + 1) w wr ∧ Mo bs p false out = T ∧ out.length ≤ p ∧
    r0 + p ≤ r1 + p0 ∧ r1 + 16 * p0 ≤ r0 + 15 * p + stop spI bs (stop tcI bs p) + 4
def cPost (b : Nat) (bs : List UInt8) (pn : Bool) (pr : List ByteArray) (T : Option (List Chal)) (p0 r0 : Nat) (w : World) (e : Ending) (w' : World) : Prop :=
  Turn (fun k => k = b) (b + 1) w w' ∧
  ((∃ v out r', e = .returned (.tuple #[v, .nilIface]) ∧ T = some out ∧ GL (b + 1) v pn pr out w' ∧ RD b bs bs.length r' w' ∧ r0 + bs.length ≤ r' + p0 ∧ r' + 32 * p0 ≤ r0 + 32 * bs.length + 32) ∨
   (∃ qq p' r', e = .returned (.tuple #[.slice none 0 0, .iface 80 (.pointer (some qq))]) ∧ T = none ∧ RD b bs p' r' w' ∧ p0 ≤ p' ∧ p' ≤ bs.length ∧ r0 ≤ r' ∧ r' + 32 * p0 ≤ r0 + 32 * bs.length + 32))

theorem cr_err {r0 p0 p L a r2 r3 j oj r4 k ok r5 fm n r' : Nat} (x1 : r2 + 16 * p0 + 2 * p ≤ r0 + 15 * p + L + 2 * a + 6) (x3 : r3 + a = r2 + j + oj) (x4 : r4 + j = r3 + k + ok) (x5 : r5 + k ≤ r4 + fm + 4) (x6 : r' + 8 * k ≤ r5 + 8 * n + 16)
    (hoj : oj ≤ 1) (hok : ok ≤ 1) (hL : L ≤ k) (hp0 : p0 ≤ p) (hpa : p ≤ a) (haj : a < j) (hjk : j < k) (hkn : k ≤ n) (hf : fm ≤ n) : r' + 32 * p0 ≤ r0 + 32 * n + 32 := by omega
theorem cr_low {r0 p0 a r2 r3 j oj r4 k ok r5 r' : Nat} (x1 : r0 + a ≤ r2 + p0) (x3 : r3 + a = r2 + j + oj) (x4 : r4 + j = r3 + k + ok) (x5 : r4 ≤ r5) (x6 : r5 ≤ r') (hp0 : p0 ≤ a) (haj : a < j) (hjk : j < k) : r0 ≤ r' := by omega
theorem cr_ok {r0 p0 p L a r2 r3 j oj r4 k ok r5 fm p' st r' : Nat} (x1 : r2 + 16 * p0 + 2 * p ≤ r0 + 15 * p + L + 2 * a + 6) (x3 : r3 + a = r2 + j + oj) (x4 : r4 + j = r3 + k + ok) (x5 : r5 + k ≤ r4 + fm + 4) (x6 : r' + 6 * k ≤ r5 + 5 * p' + 5 + st)
    (hoj : oj ≤ 1) (hok : ok ≤ 1) (hL : L ≤ k) (hpa : p ≤ a) (haj : a < j) (hjk : j < k) (hkp : k ≤ p') (hf : fm ≤ p') : r' + 16 * p0 ≤ r0 + 15 * p' + st + 4 := by omega
theorem cr_okl {r0 p0 a r2 r3 j oj r4 k ok r5 p' r' : Nat} (x1 : r0 + a ≤ r2 + p0) (x3 : r3 + a = r2 + j + oj) (x4 : r4 + j = r3 + k + ok) (x5 : r4 ≤ r5) (x6 : r5 + p' ≤ r' + k) : r0 + p' ≤ r' + p0 := by omega

set_option maxHeartbeats 8000000 in
set_option maxRecDepth 100000 in
theorem challenges_any (F : Interp) (b : Nat) (bs : List UInt8) (pn : Bool) (pr : List ByteArray) (T : Option (List Chal)) (p0 r0 : Nat) (v0 : Value) (w : World) (hF : F.answers w.tape) (h : RD b bs p0 r0 w) (hg : GL (b + 1) v0 pn pr [] w) (hT : Mo bs p0 false [] = T)
    (hp0 : p0 ≤ bs.length) (hr : r0 ≤ 500000000000) (hn : bs.length ≤ 1048576) (hpr : pr.length ≤ 1048576) :
    Calls Tryf.prog 20 #[.pointer (some ⟨b, 0, none⟩), v0] w (cPost b bs pn pr T p0 r0 w) := by
  have hz := mk_size bs
  have hi39 : Tryf.prog.info? 39 = some Tryf.t39 := by kernel_rfl
  go_enter Tryf.func20, Tryf.ntmps20
  go_wp2
  go_loopg [1] (bs.length - p0) (fun g t wr => cRel b bs pn pr T p0 r0 w g t wr)
  case atStart =>
    have h1 := stop_ge tcI bs p0
    have h2 := stop_ge spI bs (stop tcI bs p0)
    exact ⟨p0, r0, [], Nat.le_refl _, by omega, h, hg, Turn.refl _ _ _, hT, Nat.zero_le _, by omega, by omega⟩
  case round =>
    obtain ⟨p, r1, out, hqp, hpg, hrd, hgl, ht, hmo, hol, hb1, hb2⟩ := hrel
    have Hg := hide hpg
    have HR := hide hrd
    have HG := hide hgl
    have HT := hide ht
    have HM := hide hmo
    have X1 := hide hb1
    have hp : p ≤ bs.length := by omega
    have L1 := stop_ge tcI bs p
    have L2 := stop_ge spI bs (stop tcI bs p)
    have L3 := stop_le spI bs (stop tcI bs p) (stop_le tcI bs p hp)
    generalize hLL : stop spI bs (stop tcI bs p) = L at *
    have HL := hide hLL
    have X2 := hide hb2
    have hr1 : r1 ≤ 600000000000 := by omega
    have hFr : F.answers wr.tape := by rw [HT.out.tape]; exact hF
    clear hpg hrd hgl ht hmo hb1 hb2 h hg hT hLL
    obtain ⟨a1, a2, a3⟩ := se_facts bs _ p (Nat.le_refl _) hp
    generalize haa : se bs p = a at a1 a2 a3
    have Ha := hide haa
    have c25 := empty_to b bs p r1 a _ wr HR.out hp (by omega) hn haa rfl
    generalize sc bs p = cm at c25
    have A3 := hide a3
    clear haa a3
    by_cases han : a = bs.length
    · have HN := hide han
      have hbe : ((a : Int) == (bs.length : Int)) = true := by simp [han]
      clear han
      go_wp2_with (go_at_call 25; refine c25.mono ?_; clear c25; rintro e1 w1 ⟨rfl, r2, hrd1, ho1, u1, u2⟩; have H1 := hide hrd1; have O1 := hide ho1; have V2 := hide (show r0 + a ≤ r2 + p0 ∧ r2 + 16 * p0 + 2 * p ≤ r0 + 15 * p + L + 2 * a + 6 from ⟨(by have := X1.out; omega), (by have := X2.out; omega)⟩); have hr2 : r2 ≤ 1000000000000 := (by omega); clear ho1 u1 u2; obtain ⟨g0, g1, g2, gf1, gf2⟩ := hrd1)
      go_quiet (fail)
      go_wp2
      go_ret2
      have x1 := V2.out
      have hn2 := HN.out
      refine ⟨(HT.out.trans (O1.out.turn1 _)).drewN _, .inl ⟨_, out, r2, rfl, ?_, HG.out.same (fun k hk _ => O1.out.block k (by omega)), by rw [← hn2]; exact H1.out, by omega, by omega⟩⟩
      rw [← HM.out, ← Mo_se bs false out _ p (Nat.le_refl _) hp, Ha.out, hn2, Mo_n]
    · have hbe : ((a : Int) == (bs.length : Int)) = false := by simp; omega
      have HA : Hid (At bs a) := by
        have := A3.out (by omega)
        exact ⟨by omega, this.1, this.2⟩
      have j1 := stop_ge tcI bs a
      have j2 := stop_le tcI bs a a2
      generalize hjj : stop tcI bs a = j at j1 j2
      have k1 := stop_ge spI bs j
      have k2 := stop_le spI bs j j2
      generalize hkk : stop spI bs j = k at k1 k2
      have Hj := hide hjj
      have Hk := hide hkk
      have HLk : L ≤ k := by
        have := look_le bs p hp
        rw [HL.out, Ha.out, Hj.out, Hk.out] at this
        exact this
      have HMa : Hid (Mo bs a false out = T) := by
        rw [Hid, ← HM.out, ← Ha.out]
        exact Mo_se bs false out _ p (Nat.le_refl _) hp
      have o3 := one_le bs j
      have o4 := one_le bs k
      clear hjj hkk A3 han
      by_cases hja : j = a
      · have HTn : Hid (T = none) := by
          rw [Hid, ← HMa.out]
          exact Mo_bad bs a HA.out (Hj.out.trans hja) false out
        have hem := mk_empty (fldOf bs a j) ((fld_nil_iff bs a j j2 j1).2 hja)
        have hja' := hide hja
        clear hja
        go_wp2_with (go_at_call 25; refine c25.mono ?_; clear c25; rintro e1 w1 ⟨rfl, r2, hrd1, ho1, u1, u2⟩; have H1 := hide hrd1; have O1 := hide ho1; have V2 := hide (show r0 + a ≤ r2 + p0 ∧ r2 + 16 * p0 + 2 * p ≤ r0 + 15 * p + L + 2 * a + 6 from ⟨(by have := X1.out; omega), (by have := X2.out; omega)⟩); have hr2 : r2 ≤ 1000000000000 := (by omega); clear ho1 u1 u2; obtain ⟨g0, g1, g2, gf1, gf2⟩ := hrd1)
        go_quiet (fail)
        go_wp2_with (first
          | (go_at_call 26; refine (token_to b bs a r2 j _ (by exact H1.out) a2 (by omega) hn Hj.out).mono ?_; rintro e2 w2 ⟨rfl, r3, hrd2, ho2, u3⟩; have H2 := hide hrd2; have O2 := hide ((O1.out.drewN _).trans ho2); have V3 := hide u3; have hr3 : r3 ≤ 1000002000000 := (by omega); clear ho2 u3 hrd2)
          | (go_at_call 27; refine (errorf_any F b bs j r3 _ _ (by show F.answers w2.tape; rw [O2.out.tape]; exact hFr) (by exact RD.turn (X := fun _ => False) H2.out (turn_below ((Below.refl w2.heap.size w2).alloc (Nat.le_refl _) _) _) H2.out.lt (fun e => e))).mono ?_; rintro e9 w9 ⟨qq, rfl, hb9⟩))
        go_ret2
        have x1 := V2.out
        have x3 := V3.out
        have x4 := hja'.out
        have bl : b < w2.heap.size := H2.out.lt
        have hbe9 := ((Below.refl w2.heap.size w2).alloc (Nat.le_refl _) (.cells #[.string (mk (fldOf bs a j)), .string ⟨#[]⟩, .map none] 39)).trans (hb9.mono (by simp))
        refine ⟨(HT.out.trans (O2.out.turn1 _)).trans (turn_below (hbe9.mono (by omega)) _), .inr ⟨qq, j, r3, rfl, HTn.out, RD.turn (X := fun _ => False) H2.out (turn_below hbe9 _) bl (fun e => e), by omega, j2, by omega, by omega⟩⟩
      · have hem := mk_full (fldOf bs a j) (fun e => hja ((fld_nil_iff bs a j j2 j1).1 e))
        have ha_j : a < j := by omega
        have htk : Hid (stop tcI bs a ≠ a) := by rw [Hid, Hj.out]; exact hja
        clear hja
        by_cases hkj : k = j
        · have hdk : decide (j < k) = false := by simp; omega
          have hkj' := hide hkj
          clear hkj
          go_wp2_with (go_at_call 25; refine c25.mono ?_; clear c25; rintro e1 w1 ⟨rfl, r2, hrd1, ho1, u1, u2⟩; have H1 := hide hrd1; have O1 := hide ho1; have V2 := hide (show r0 + a ≤ r2 + p0 ∧ r2 + 16 * p0 + 2 * p ≤ r0 + 15 * p + L + 2 * a + 6 from ⟨(by have := X1.out; omega), (by have := X2.out; omega)⟩); have hr2 : r2 ≤ 1000000000000 := (by omega); clear ho1 u1 u2; obtain ⟨g0, g1, g2, gf1, gf2⟩ := hrd1)
          go_quiet (fail)
          go_wp2_with (first
            | (go_at_call 26; refine (token_to b bs a r2 j _ (by exact H1.out) a2 (by omega) hn Hj.out).mono ?_; rintro e2 w2 ⟨rfl, r3, hrd2, ho2, u3⟩; have H2 := hide hrd2; have O2 := hide ((O1.out.drewN _).trans ho2); have V3 := hide u3; have hr3 : r3 ≤ 1000002000000 := (by omega); clear ho2 u3 hrd2)
            | (go_at_call 28; refine (space_to b bs j r3 k _ (by exact RD.turn (X := fun _ => False) H2.out (turn_below ((Below.refl w2.heap.size w2).alloc (Nat.le_refl _) _) _) H2.out.lt (fun e => e)) j2 (by omega) hn Hk.out).mono ?_; rintro e3 w3 ⟨rfl, r4, hrd3, ho3, u4⟩; have H3 := hide hrd3; have O3 := hide ho3; have V4 := hide u4; have hr4 : r4 ≤ 1000004000000 := (by omega); clear hrd3 ho3 u4; have C3 := hide ((newC (fldOf bs a j) w2).only O3.out (by have := H2.out.lt; omega) (by have := H2.out.lt; omega)); have C3b := C3.out; obtain ⟨i0, i1, if1, if2, vv, i2, ipm⟩ := C3b; rcases ipm with ⟨-, rfl⟩ | ⟨m, -, -, hne0, -⟩; rotate_left; exact absurd rfl hne0; have hgl3 := HG.out.same (w' := w3) (fun kk hk hl => (O3.out.block kk (by omega)).trans ((Below.heap_alloc _ _ _ (by have := O2.out.size; omega)).trans (O2.out.block kk (by omega)))); obtain ⟨zs, z1, z2, z3, z4⟩ := hgl3; have Z1 := hide z1; have Z2 := hide z2; have Z3 := hide z3; have Z4 := hide z4; clear z1 z2 z3 z4)
            | (at_builtin; refine wpList_append_own _ rfl _ _ 30 rfl (b + 1) 39 Tryf.t39 _ 3 40 Tryf.underlying30 hi39 rfl rfl rfl rfl (by decide) _ _ _ rfl (Z2.out.alloc _) ⟨w3.heap.size, 0, none⟩ 1 1 [.string (mk (fldOf bs a j)), .string (mk []), .map none] rfl rfl ?c1 ?c2 ?c3 ?c4 ?c5 ?_))
          case c1 =>
            intro jj u hj
            match jj, hj with
            | 0, hj => simp at hj; subst hj; simp [Addr.add]
            | 1, hj => simp at hj; subst hj; simp [Addr.add]
            | 2, hj => simp at hj; subst hj; simp [Addr.add]
          case c2 => intro u hu; simp at hu; rcases hu with rfl | rfl | rfl <;> rfl
          case c3 => unfold maxLen; omega
          case c4 => omega
          case c5 => have := H3.out.lt; simp; omega
          intro v' w5 hown' hgrow hnil
          have N' := hide hnil
          have W5 := hide hown'
          have G5 := hide hgrow
          clear hnil hown' hgrow
          go_wp2
          go_roundg (bs.length - k)
          case measure => have := Hg.out; omega
          case rel =>
            have bl : b < w2.heap.size := H2.out.lt
            have tt : Turn (fun k => k = b) (b + 1) w w3 := ((HT.out.trans (O2.out.turn1 _)).alloc (by omega) _).trans (O3.out.turn1 _)
            obtain ⟨q1, q2, q3⟩ := append_done b (w2.heap.size + 1) bs pn pr out zs w w3 w5 _ v' ⟨fldOf bs a j, [], []⟩ (.map none) _ k r4 H3.out (.inl ⟨rfl, rfl⟩) (by omega) tt Z1.out Z2.out Z4.out W5.out G5.out N'.out
            have x1 := V2.out
            have x3 := V3.out
            have x4 := V4.out
            have s1 := stop_ge tcI bs k
            have s2 := stop_ge spI bs (stop tcI bs k)
            refine ⟨k, r4, out ++ [⟨fldOf bs a j, [], []⟩], by omega, by omega, q1, q2, q3, ?_, ?_, by omega, by omega⟩
            · rw [hkj'.out, ← HMa.out, Mo_alone bs a HA.out htk.out (by rw [Hj.out, Hk.out, hkj'.out]), Hj.out]
            · rw [List.length_append, List.length_singleton]; omega
        · have hdk : decide (j < k) = true := by simp; omega
          have hkj' := hide hkj
          clear hkj
          generalize hee : t6e bs k = em
          generalize hff : stop spI bs em = fm
          obtain ⟨t1, t2, t3, t4⟩ := t6_order bs k em fm k2 hee hff
          have He := hide hee
          have Hf := hide hff
          clear hee hff
          by_cases ht6 : t6m bs k = k ∨ ¬ En bs fm
          · have HI : Hid (Inv bs out (fldOf bs a j) T k k []) := start_inv bs a j k out T HA.out Hj.out Hk.out (by omega) hkj'.out j2 HMa.out (by rw [He.out, Hf.out]; exact ht6)
            have ht6' := hide ht6
            clear ht6 t4
            go_wp2_with (go_at_call 25; refine c25.mono ?_; clear c25; rintro e1 w1 ⟨rfl, r2, hrd1, ho1, u1, u2⟩; have H1 := hide hrd1; have O1 := hide ho1; have V2 := hide (show r0 + a ≤ r2 + p0 ∧ r2 + 16 * p0 + 2 * p ≤ r0 + 15 * p + L + 2 * a + 6 from ⟨(by have := X1.out; omega), (by have := X2.out; omega)⟩); have hr2 : r2 ≤ 1000000000000 := (by omega); clear ho1 u1 u2; obtain ⟨g0, g1, g2, gf1, gf2⟩ := hrd1)
            go_quiet (fail)
            go_wp2_with (first
              | (go_at_call 26; refine (token_to b bs a r2 j _ (by exact H1.out) a2 (by omega) hn Hj.out).mono ?_; rintro e2 w2 ⟨rfl, r3, hrd2, ho2, u3⟩; have H2 := hide hrd2; have O2 := hide ((O1.out.drewN _).trans ho2); have V3 := hide u3; have hr3 : r3 ≤ 1000002000000 := (by omega); clear ho2 u3 hrd2)
              | (go_at_call 28; refine (space_to b bs j r3 k _ (by exact RD.turn (X := fun _ => False) H2.out (turn_below ((Below.refl w2.heap.size w2).alloc (Nat.le_refl _) _) _) H2.out.lt (fun e => e)) j2 (by omega) hn Hk.out).mono ?_; rintro e3 w3 ⟨rfl, r4, hrd3, ho3, u4⟩; have H3 := hide hrd3; have O3 := hide ho3; have V4 := hide u4; have hr4 : r4 ≤ 1000004000000 := (by omega); clear hrd3 ho3 u4; have C3 := hide ((newC (fldOf bs a j) w2).only O3.out (by have := H2.out.lt; omega) (by have := H2.out.lt; omega)); have C3b := C3.out; obtain ⟨i0, i1, if1, if2, vv, i2, ipm⟩ := C3b; rcases ipm with ⟨-, rfl⟩ | ⟨m, -, -, hne0, -⟩; rotate_left; exact absurd rfl hne0; have hgl3 := HG.out.same (w' := w3) (fun kk hk hl => (O3.out.block kk (by omega)).trans ((Below.heap_alloc _ _ _ (by have := O2.out.size; omega)).trans (O2.out.block kk (by omega)))); obtain ⟨zs, z1, z2, z3, z4⟩ := hgl3; have Z1 := hide z1; have Z2 := hide z2; have Z3 := hide z3; have Z4 := hide z4; clear z1 z2 z3 z4)
              | (go_at_call 29; refine (t68_no b w2.heap.size bs k r4 em fm _ _ (by exact H3.out) k2 (by omega) hn (by have := H2.out.lt; omega) (by exact i1) (by exact if1) He.out Hf.out ht6'.out (by omega)).mono ?_; rintro e4 w4 ⟨rfl, r5, hrd4, ho4, u5, u6⟩; have H4 := hide hrd4; have O4 := hide ho4; have V5 := hide (And.intro u5 u6); have hr5 : r5 ≤ 1000006000000 := (by omega); clear hrd4 ho4 u5 u6; have C4 := hide (C3.out.only O4.out (by have := H2.out.lt; omega) (by have := H2.out.lt; omega))))
            go_at_call 30
            refine (params_any F b w2.heap.size (w2.heap.size + 1) bs out (fldOf bs a j) T k r5 _ (by show F.answers w4.tape; rw [O4.out.tape, O3.out.tape]; show F.answers w2.tape; rw [O2.out.tape]; exact hFr) (by exact H4.out) (by exact C4.out) (by have := O4.out.size; have := O3.out.size; simp at this; omega) (by have := H2.out.lt; omega) (by omega) (by have := H2.out.lt; omega) HI.out k2 (by omega) hn).mono ?_
            rintro e5 w5 (⟨rfl, hok⟩ | ⟨⟨qq, rfl⟩, herr⟩)
            · obtain ⟨p', r', ps, hrd5, hcb5, htu5, hmo5, hq5, hp5, hf5, hs5, hs6⟩ := hok
              have H5 := hide hrd5
              have T5 := hide htu5
              have M5 := hide hmo5
              have C5 := hide hcb5
              have V6 := hide (And.intro hs5 hs6)
              rw [He.out, Hf.out] at hf5
              clear hrd5 htu5 hmo5 hs5 hs6
              obtain ⟨y0, y1, yf1, yf2, v3, y2, ypm⟩ := hcb5
              have YP := hide ypm
              have hgl5 := HG.out.same (w' := w5) (fun kk hk hl => (T5.out.block kk (by have := O2.out.size; omega) (by have := O2.out.size; omega)).trans ((O4.out.block kk (by omega)).trans ((O3.out.block kk (by omega)).trans ((Below.heap_alloc _ _ _ (by have := O2.out.size; omega)).trans (O2.out.block kk (by omega))))))
              obtain ⟨zs5, z1, z2, z3, z4⟩ := hgl5
              have Y1 := hide z1
              have Y2 := hide z2
              have Y4 := hide z4
              clear z1 z2 z3 z4 ypm
              have hol5 : zs5.length = out.length := by rw [← Y1.out, List.length_map]
              go_wp2_with (first
                | (at_builtin; refine wpList_append_own _ rfl _ _ 30 rfl (b + 1) 39 Tryf.t39 _ 3 40 Tryf.underlying30 hi39 rfl rfl rfl rfl (by decide) _ _ _ rfl (Y2.out.alloc _) ⟨w5.heap.size, 0, none⟩ 1 1 [.string (mk (fldOf bs a j)), .string (mk []), v3] rfl rfl ?c1 ?c2 ?c3 ?c4 ?c5 ?_))
              case c1 =>
                intro jj u hj
                match jj, hj with
                | 0, hj => simp at hj; subst hj; simp [Addr.add]
                | 1, hj => simp at hj; subst hj; simp [Addr.add]
                | 2, hj => simp at hj; subst hj; simp [Addr.add]
              case c2 => intro u hu; simp at hu; rcases hu with rfl | rfl | rfl <;> first | rfl | (rcases YP.out with ⟨-, rfl⟩ | ⟨m, rfl, -⟩ <;> rfl)
              case c3 => unfold maxLen; omega
              case c4 => omega
              case c5 => have := H5.out.lt; simp; omega
              intro v' w6 hown' hgrow hnil
              have N' := hide hnil
              have W5 := hide hown'
              have G5 := hide hgrow
              clear hnil hown' hgrow
              go_wp2
              go_roundg (bs.length - p')
              case measure => have := Hg.out; omega
              case rel =>
                have bl : b < w2.heap.size := H2.out.lt
                have tt : Turn (fun k => k = b) (b + 1) w w5 := (((HT.out.trans (O2.out.turn1 _)).alloc (by omega) _).trans ((O3.out.trans O4.out).turn1 _)).trans (T5.out.one (by omega) (by omega))
                obtain ⟨q1, q2, q3⟩ := append_done b (w2.heap.size + 1) bs pn pr out zs5 w w5 w6 _ v' ⟨fldOf bs a j, [], ps⟩ v3 _ p' r' H5.out YP.out (by omega) tt Y1.out Y2.out Y4.out W5.out G5.out N'.out
                have x1 := V2.out
                have x3 := V3.out
                have x4 := V4.out
                have x5 := V5.out
                have x6 := V6.out
                have hjk : j < k := by have := hkj'.out; omega
                have e1 := cr_ok x1.2 x3 x4 x5.2 x6.2 o3 o4 HLk a1 ha_j hjk hq5 hf5
                have e2 := cr_okl x1.1 x3 x4 x5.1 x6.1
                refine ⟨p', r', out ++ [⟨fldOf bs a j, [], ps⟩], by omega, by omega, q1, q2, q3, M5.out, ?_, e2, e1⟩
                rw [List.length_append, List.length_singleton]; omega
            · obtain ⟨hTn, p', r', hrd5, htu5, hq5, hp5, hs5, hs6⟩ := herr
              have HTn := hide hTn
              have H5 := hide hrd5
              have T5 := hide htu5
              have V6 := hide (And.intro hs5 hs6)
              have Q5 := hide (And.intro hq5 hp5)
              clear hTn hrd5 htu5 hs5 hs6 hq5 hp5
              go_wp2
              go_ret2
              have bl : b < w2.heap.size := H2.out.lt
              have tt : Turn (fun k => k = b) (b + 1) w w5 := (((HT.out.trans (O2.out.turn1 _)).alloc (by omega) _).trans ((O3.out.trans O4.out).turn1 _)).trans (T5.out.one (by omega) (by omega))
              have x1 := V2.out
              have x3 := V3.out
              have x4 := V4.out
              have x5 := V5.out
              have hjk : j < k := by have := hkj'.out; omega
              have e1 := cr_err x1.2 x3 x4 x5.2 V6.out.2 o3 o4 HLk hqp a1 ha_j hjk k2 t3
              have e2 := cr_low x1.1 x3 x4 x5.1 V6.out.1 (Nat.le_trans hqp a1) ha_j hjk
              have e3 : p0 ≤ p' := Nat.le_trans (Nat.le_trans hqp a1) (Nat.le_trans (Nat.le_trans (Nat.le_of_lt ha_j) (Nat.le_of_lt hjk)) Q5.out.1)
              exact ⟨tt, .inr ⟨qq, p', r', rfl, HTn.out, H5.out, e3, Q5.out.2, e2, e1⟩⟩
          · have ht6' := hide ht6
            have t5 := t4 (fun e => ht6 (.inl e))
            have HMt : Hid (Mo bs fm false (out ++ [⟨fldOf bs a j, fldOf bs k em, []⟩]) = T) := by
              have hE : En bs fm := Decidable.not_not.1 (fun e => ht6 (.inr e))
              have := Mo_tok bs a k HA.out htk.out (by rw [Hj.out]; exact Hk.out) (by rw [Hj.out]; exact hkj'.out) (fun e => ht6 (.inl e)) (by rw [He.out, Hf.out]; exact hE) false out
              rw [Hid, ← HMa.out, this, He.out, Hf.out, Hj.out]
            clear ht6 t4
            go_wp2_with (go_at_call 25; refine c25.mono ?_; clear c25; rintro e1 w1 ⟨rfl, r2, hrd1, ho1, u1, u2⟩; have H1 := hide hrd1; have O1 := hide ho1; have V2 := hide (show r0 + a ≤ r2 + p0 ∧ r2 + 16 * p0 + 2 * p ≤ r0 + 15 * p + L + 2 * a + 6 from ⟨(by have := X1.out; omega), (by have := X2.out; omega)⟩); have hr2 : r2 ≤ 1000000000000 := (by omega); clear ho1 u1 u2; obtain ⟨g0, g1, g2, gf1, gf2⟩ := hrd1)
            go_quiet (fail)
            go_wp2_with (first
              | (go_at_call 26; refine (token_to b bs a r2 j _ (by exact H1.out) a2 (by omega) hn Hj.out).mono ?_; rintro e2 w2 ⟨rfl, r3, hrd2, ho2, u3⟩; have H2 := hide hrd2; have O2 := hide ((O1.out.drewN _).trans ho2); have V3 := hide u3; have hr3 : r3 ≤ 1000002000000 := (by omega); clear ho2 u3 hrd2)
              | (go_at_call 28; refine (space_to b bs j r3 k _ (by exact RD.turn (X := fun _ => False) H2.out (turn_below ((Below.refl w2.heap.size w2).alloc (Nat.le_refl _) _) _) H2.out.lt (fun e => e)) j2 (by omega) hn Hk.out).mono ?_; rintro e3 w3 ⟨rfl, r4, hrd3, ho3, u4⟩; have H3 := hide hrd3; have O3 := hide ho3; have V4 := hide u4; have hr4 : r4 ≤ 1000004000000 := (by omega); clear hrd3 ho3 u4; have C3 := hide ((newC (fldOf bs a j) w2).only O3.out (by have := H2.out.lt; omega) (by have := H2.out.lt; omega)); have C3b := C3.out; obtain ⟨i0, i1, if1, if2, vv, i2, ipm⟩ := C3b; rcases ipm with ⟨-, rfl⟩ | ⟨m, -, -, hne0, -⟩; rotate_left; exact absurd rfl hne0; have hgl3 := HG.out.same (w' := w3) (fun kk hk hl => (O3.out.block kk (by omega)).trans ((Below.heap_alloc _ _ _ (by have := O2.out.size; omega)).trans (O2.out.block kk (by omega)))); obtain ⟨zs, z1, z2, z3, z4⟩ := hgl3; have Z1 := hide z1; have Z2 := hide z2; have Z3 := hide z3; have Z4 := hide z4; clear z1 z2 z3 z4)
              | (go_at_call 29; refine (t68_yes b w2.heap.size bs k r4 em fm _ _ (by exact H3.out) k2 (by omega) hn (by have := H2.out.lt; omega) (by exact i1) (by exact if1) He.out Hf.out ht6'.out (by omega)).mono ?_; rintro e4 w4 ⟨rfl, r5, hrd4, ho4, hsz4, d0, d1, d2, u5, u6⟩; have H4 := hide hrd4; have T4 := hide ho4; have S4 := hide hsz4; have V5 := hide (And.intro u5 u6); have hr5 : r5 ≤ 1000006000000 := (by omega); clear hrd4 ho4 u5 u6 hsz4; rw [i0] at d0; rw [i2] at d2; clear i0 i1 i2; have hs3 : w3.heap.size = w2.heap.size + 1 := (by have := O3.out.size; simp at this; omega); have hgl4 := HG.out.same (w' := w4) (fun kk hk hl => (T4.out.block kk (by have := O2.out.size; omega) (by have := O2.out.size; omega)).trans ((O3.out.block kk (by omega)).trans ((Below.heap_alloc _ _ _ (by have := O2.out.size; omega)).trans (O2.out.block kk (by omega))))); obtain ⟨zs4, z1, z2, z3, z4⟩ := hgl4; have Y1 := hide z1; have Y2 := hide z2; have Y4 := hide z4; clear z1 z2 z3 z4 hs3)
              | (at_builtin; refine wpList_append_own _ rfl _ _ 30 rfl (b + 1) 39 Tryf.t39 _ 3 40 Tryf.underlying30 hi39 rfl rfl rfl rfl (by decide) _ _ _ rfl (Y2.out.alloc _) ⟨w4.heap.size, 0, none⟩ 1 1 [.string (mk (fldOf bs a j)), .string (mk (fldOf bs k em)), .map none] rfl rfl ?c1 ?c2 ?c3 ?c4 ?c5 ?_))
            case c1 =>
              intro jj u hj
              match jj, hj with
              | 0, hj => simp at hj; subst hj; simp [Addr.add]
              | 1, hj => simp at hj; subst hj; simp [Addr.add]
              | 2, hj => simp at hj; subst hj; simp [Addr.add]
            case c2 => intro u hu; simp at hu; rcases hu with rfl | rfl | rfl <;> rfl
            case c3 => unfold maxLen; omega
            case c4 => omega
            case c5 => have := H4.out.lt; simp; omega
            intro v' w6 hown' hgrow hnil
            have N' := hide hnil
            have W5 := hide hown'
            have G5 := hide hgrow
            clear hnil hown' hgrow
            go_wp2
            go_roundg (bs.length - fm)
            case measure => have := Hg.out; omega
            case rel =>
              have bl : b < w2.heap.size := H2.out.lt
              have hs3 : w3.heap.size = w2.heap.size + 1 := by have := O3.out.size; simp at this; omega
              have tt : Turn (fun k => k = b) (b + 1) w w4 := (((HT.out.trans (O2.out.turn1 _)).alloc (by omega) _).trans (O3.out.turn1 _)).trans (T4.out.one (by omega) (by omega))
              obtain ⟨q1, q2, q3⟩ := append_done b (w2.heap.size + 1) bs pn pr out zs4 w w4 w6 _ v' ⟨fldOf bs a j, fldOf bs k em, []⟩ (.map none) _ fm r5 H4.out (.inl ⟨rfl, rfl⟩) (by omega) tt Y1.out Y2.out Y4.out W5.out G5.out N'.out
              have x1 := V2.out
              have x3 := V3.out
              have x4 := V4.out
              have x5 := V5.out
              have s1 := stop_ge tcI bs fm
              have s2 := stop_ge spI bs (stop tcI bs fm)
              refine ⟨fm, r5, out ++ [⟨fldOf bs a j, fldOf bs k em, []⟩], by omega, by omega, q1, q2, q3, HMt.out, ?_, by omega, by omega⟩
              rw [List.length_append, List.length_singleton]; omega

end Go.Proofs.Qxb6613049aFmt
