import Derived.Test.Qxb6613049aFmtL3
import Derived.Test.Qxb6613049aFmtR11
import Derived.Test.Qxb6613049aFmtZ8
import Derived.Stop.IfaceNil
namespace Go.Proofs.Qxb6613049aFmt
open Go.RowKit Go.Extern.Stop Go.Stop Go.Extern

theorem fld_end (bs : List UInt8) (p : Nat) : fldOf bs p bs.length = bs.drop p := by
  unfold fldOf
  rw [List.take_of_length_le]
  rw [List.length_drop]
  omega
theorem Mo_drop (bs : List UInt8) (p : Nat) (hp : p ≤ bs.length) : Mo (bs.drop p) 0 false [] = Mo bs p false [] := by
  rw [← Mo_text bs p hp false [], ← Mo_text (bs.drop p) 0 (Nat.zero_le _) false [], List.drop_zero]

set_option maxRecDepth 100000 in
theorem zzChallenges_any (F : Interp) (b : Nat) (bs : List UInt8) (pn : Bool) (pr : List ByteArray) (T : Option (List Chal)) (p0 r0 : Nat) (v0 : Value) (w : World) (hF : F.answers w.tape) (h : RD b bs p0 r0 w) (hg : GL (b + 1) v0 pn pr [] w) (hT : Mo bs p0 false [] = T)
    (hp0 : p0 ≤ bs.length) (hr : r0 ≤ 500000000000) (hn : bs.length ≤ 1048576) (hpr : pr.length ≤ 1048576) :
    Calls Tryf.prog 9 #[.pointer (some ⟨b, 0, none⟩), v0] w (cPost b bs pn pr T p0 r0 w) := by
  have c20 := challenges_any F b bs pn pr T p0 r0 v0 w hF h hg hT hp0 hr hn hpr
  clear h hg hT
  go_enter Tryf.func9, Tryf.ntmps9
  go_wp2_with fail
  go_at_call 20
  refine c20.mono ?_
  rintro e w' ⟨ht, ⟨v, out, r', rfl, h1⟩ | ⟨qq, p', r', rfl, h1⟩⟩
  · have H := hide h1
    clear h1
    go_wp2
    go_ret2
    exact ⟨ht, .inl ⟨v, out, r', rfl, H.out⟩⟩
  · have H := hide h1
    clear h1
    go_wp2
    go_ret2
    exact ⟨ht, .inr ⟨qq, p', r', rfl, H.out⟩⟩

/-- An owned row's value, and whether it is nil. -/
theorem own_slice {w : World} {B : Nat} {e : TypeId} {k n : Nat} {v : Value} {xs : List Value} (h : w.ownsRow B e k v n xs) : ∃ a cap, v = .slice a n cap ∧ (a.isNone = true ↔ v = .slice none 0 0) ∧ (0 < n → ∃ g, a = some ⟨g, 0, none⟩) := by
  rcases h.2 with ⟨rfl, rfl⟩ | ⟨g, cap, cur, rfl, _⟩
  · exact ⟨none, 0, rfl, by simp, fun h => by omega⟩
  · exact ⟨some ⟨g, 0, none⟩, cap, rfl, by simp, fun _ => ⟨g, rfl⟩⟩

theorem gl_start {B : Nat} {v : Value} {pn : Bool} {xs : List ByteArray} {w : World} (ho : w.ownsRow B 39 3 v xs.length (prCells xs)) (hn : v = .slice none 0 0 ↔ pn = true) : GL B v pn xs [] w := by
  refine ⟨[], rfl, ?_, ?_, fun z hz => by simp at hz⟩
  · rw [show zsCells [] = [] from rfl, List.append_nil]
    exact ho
  · rw [hn]
    simp
theorem rd_new (bs : List UInt8) (p r : Nat) (w : World) : RD w.heap.size bs p r (w.alloc (.cells #[.string (mk bs), .int .i64 p, .int .i64 r] 53)) := by
  refine ⟨by simp, by simp, by simp, by simp, by simp⟩
theorem rd_later {b : Nat} {bs : List UInt8} {p r : Nat} {w w' : World} (h : RD b bs p r w) (hb : Below w.heap.size w w') : RD b bs p r w' := RD.turn (X := fun _ => False) h (turn_below hb _) h.lt (fun e => e)
theorem below_turn {b B : Nat} {w w' : World} (h : Turn (fun k => k = b) (b + 1) w w') (hB : B ≤ b) : Below B w w' :=
  ⟨h.os, h.tape, h.output, h.size, fun k hk => h.block k (by omega) (by omega)⟩
theorem below_all {w w2 w3 w5 w6 : World} {o : Obj} (h2 : Below w.heap.size w w2) (h3 : Below w2.heap.size w2 w3) (h5 : Below (w3.alloc o).heap.size (w3.alloc o) w5) (h6 : Turn (fun k => k = w3.heap.size) (w3.heap.size + 1) w5 w6) : Below w.heap.size w w6 := by
  have s2 := h2.size
  have s3 := h3.size
  exact ((((h2.trans (h3.mono s2)).alloc (by omega) o).trans (h5.mono (by rw [World.size_alloc]; omega))).trans (below_turn h6 (by omega)))

theorem own_max {w : World} {B : Nat} {e : TypeId} {k n : Nat} {v : Value} {xs : List Value} (h : w.ownsRow B e k v n xs) : n ≤ 9223372036854775807 := by
  rcases h.2 with ⟨_, h0⟩ | ⟨g, cap, cur, _, _, _, h1, h2, _⟩
  · omega
  · unfold maxLen at h2
    omega

def lawPost (w : World) (e : Ending) (w' : World) : Prop := e = .returned (.bool true) ∧ Below w.heap.size w w'

set_option maxHeartbeats 16000000 in
set_option maxRecDepth 100000 in
theorem law_any (F : Interp) (bs : List UInt8) (p r : Int) (a0 : Option Addr) (n cap b off : Nat) (xs : List ByteArray) (w : World) (hF : F.answers w.tape) (h : SS w a0 n cap b off xs) (hb : 0 < n → b < w.heap.size) :
    Calls Tryf.prog 3 #[.string (mk bs), .int .i64 p, .int .i64 r, .slice a0 n cap] w (lawPost w) := by
  have hz := mk_size bs
  have c5 := zzBytes_any (mk bs) (.int .i64 p) (.int .i64 r) a0 n cap b off xs w h
  have H := hide h
  clear h
  have hsn22 := fun (w : World) (a : Option Addr) (n c : Nat) => Lib.run_eql_slice_nil (P := Tryf.prog) w 22 9 a n c 0 0 Tryf.underlying22
  have hsn30 := fun (w : World) (a : Option Addr) (n c : Nat) => Lib.run_eql_slice_nil (P := Tryf.prog) w 30 39 a n c 0 0 Tryf.underlying30
  have hmn37 := fun (w : World) (r : Option Nat) => run_eql_map_nil (P := Tryf.prog) w 37 9 9 r Tryf.underlying37
  have hmq37 := fun (w : World) (r : Option Nat) => Go.run_neq_map_nil (P := Tryf.prog) w 37 9 9 r Tryf.underlying37
  go_enter Tryf.func3, Tryf.ntmps3
  go_wp2_with fail
  go_at_call 5
  refine c5.mono ?_
  clear c5
  rintro e1 w1 ⟨⟨r1, rfl⟩, hw1⟩
  subst w1
  cases r1 with
  | false =>
    go_wp2
    go_ret
    exact ⟨rfl, Below.refl _ _⟩
  | true =>
    by_cases c1 : 1048576 < bs.length
    · have d1 : (1048576 : Int) < (bs.length : Int) := by omega
      go_wp2
      go_ret
      exact ⟨rfl, Below.refl _ _⟩
    · have d1 : ¬ ((1048576 : Int) < (bs.length : Int)) := by omega
      have hn : bs.length ≤ 1048576 := by omega
      clear c1
      by_cases c2 : 65536 < n
      · have d2 : (65536 : Int) < (n : Int) := by omega
        go_wp2
        go_ret
        exact ⟨rfl, Below.refl _ _⟩
      · have d2 : ¬ ((65536 : Int) < (n : Int)) := by omega
        have n2 : n ≤ 65536 := by omega
        clear c2
        go_wp2
        go_loopg [9, 10] n (fun g t9 t10 wr => lnRel n 1048576 g t9 t10 w wr)
        case atStart => exact ⟨0, bs.length, by omega, rfl, by go_num, by omega, rfl⟩
        case round =>
          obtain ⟨k, z, hkg, rfl, rfl, hzz, hwr⟩ := hrel
          subst wr
          have Hg := hide hkg
          have hkn : k ≤ n := by omega
          clear hkg
          by_cases hk : k < n
          · have hlt : (k : Int) < (n : Int) := by omega
            have hA := H.out.at k hk
            have hc := H.out.cell k hk
            subst hA
            generalize xs.getD k ⟨#[]⟩ = x at hc
            by_cases e1 : 1048576 < x.size
            · have e1' : (1048576 : Int) < (x.size : Int) := by omega
              go_wp2
              go_ret
              exact ⟨rfl, Below.refl _ _⟩
            · have e1' : ¬ ((1048576 : Int) < (x.size : Int)) := by omega
              by_cases e2 : 1048576 < z + (16 + x.size)
              · have e2' : (1048576 : Int) < (z : Int) + (16 + (x.size : Int)) := by omega
                go_wp2
                go_ret
                exact ⟨rfl, Below.refl _ _⟩
              · have e2' : ¬ ((1048576 : Int) < (z : Int) + (16 + (x.size : Int))) := by omega
                go_wp2
                go_roundg (n - (k + 1))
                case measure => have := Hg.out; omega
                case rel => exact ⟨k + 1, z + (16 + x.size), by omega, by go_num, by go_num, by omega, rfl⟩
          · have hlt : ¬ ((k : Int) < (n : Int)) := by omega
            by_cases p1 : p < 0
            · go_wp2
              go_ret
              exact ⟨rfl, Below.refl _ _⟩
            · obtain ⟨pn, rfl⟩ := Int.eq_ofNat_of_zero_le (Int.not_lt.1 p1)
              by_cases p2 : (bs.length : Int) < (pn : Int)
              · go_wp2
                go_ret
                exact ⟨rfl, Below.refl _ _⟩
              · have hp : pn ≤ bs.length := by omega
                by_cases r1 : r < 0
                · go_wp2
                  go_ret
                  exact ⟨rfl, Below.refl _ _⟩
                · obtain ⟨rn, rfl⟩ := Int.eq_ofNat_of_zero_le (Int.not_lt.1 r1)
                  by_cases r2 : (1073741824 : Int) < (rn : Int)
                  · go_wp2
                    go_ret
                    exact ⟨rfl, Below.refl _ _⟩
                  · have hr : rn ≤ 1073741824 := by omega
                    have hex : (mk bs).extract pn bs.length = mk (bs.drop pn) := by rw [mk_extract, fld_end]
                    have hdl : (bs.drop pn).length ≤ 1048576 := by rw [List.length_drop]; omega
                    have hMo := hide (Mo_drop bs pn hp)
                    generalize hts : bs.drop pn = ts at hex hdl hMo
                    clear hts
                    go_wp2_with (go_at_call 6; refine (clone_any a0 n cap b off xs w H.out n2 hb).mono ?_; rintro e2 w2 ⟨v2, rfl, hown2, hnil2, hb2⟩; have O2 := hide hown2; have B2 := hide hb2; have N2 := hide hnil2; clear hown2 hb2 hnil2)
                    go_at_call 7
                    refine (zzModel_any ts w2 hdl).mono ?_
                    rintro e3 w3 ⟨hb3, ⟨vw, out, C, ms, rfl, hMoS, hwm, hmcs, hol, hyl⟩ | ⟨rfl, hMoN⟩⟩
                    · have MSo := hide (hMo.out.symm.trans hMoS)
                      have NM := hide (nm_text ts out hMoS)
                      have WMh := hide hwm
                      have MCSh := hide hmcs
                      have hlm : ms.length = out.length := by have := congrArg List.length hmcs; rw [List.length_map, List.length_map] at this; exact this
                      clear hMoS hwm hmcs hyl
                      have B3 := hide hb3
                      have XL := hide H.out.len
                      clear hb3
                      obtain ⟨d, hd⟩ : ∃ d, bs.length = pn + d := ⟨bs.length - pn, by omega⟩
                      have hdi : (bs.length : Int) - (pn : Int) = (d : Int) := by omega
                      have HD := hide hd
                      clear hd
                      go_wp2_with (first | (go_at_call 8; refine (reader_new bs pn rn w3).mono ?_; rintro e4 w4 ⟨rfl, rfl⟩) | (go_at_call 10; refine (prior_any v2 xs w.heap.size _ (by rw [XL.out]; exact (owns_same O2.out (fun k _ hl => B3.out.block k hl)).alloc _) (by rw [XL.out]; exact n2)).mono ?_; rintro e5 w5 ⟨v5, rfl, hown5, hnil5, hb5⟩; have O5 := hide hown5; have N5 := hide hnil5; have B5 := hide hb5; clear hown5 hnil5 hb5))
                      go_at_call 9
                      refine (zzChallenges_any F w3.heap.size bs a0.isNone xs (Mo bs pn false []) pn rn v5 w5 (by rw [B5.out.tape]; show F.answers w3.tape; rw [B3.out.tape, B2.out.tape]; exact hF) (rd_later (rd_new bs pn rn w3) B5.out) (gl_start (by have h := O5.out; rw [World.size_alloc] at h; exact h) (by rw [N5.out, N2.out]; simp)) rfl hp (by omega) hn (by rw [XL.out]; omega)).mono ?_
                      rintro e6 w6 ⟨ht6, ⟨vg, out', r', rfl, hTs, hgl6, hrd6, hrl, hrh⟩ | ⟨qq, p', r', rfl, hTn, -⟩⟩
                      rotate_left
                      · rw [MSo.out] at hTn
                        cases hTn
                      · rw [MSo.out] at hTs
                        injection hTs with hTs
                        subst hTs
                        have T6 := hide ht6
                        have R6 := hide hrd6
                        have g1 : ¬ ((r' : Int) < (rn : Int)) := by omega
                        have g2 : ¬ ((rn : Int) + 32 * ((d : Int) + 1) < (r' : Int)) := by have := HD.out; omega
                        have g3 : ¬ ((r' : Int) < (rn : Int) + (d : Int)) := by have := HD.out; omega
                        have hd2 : d ≤ 1048576 := by have := HD.out; omega
                        have hr6 : r' ≤ 2000000000 := by have := HD.out; omega
                        clear ht6 hrd6 hrl hrh
                        have B36 : Below w3.heap.size w3 w6 := (((Below.refl _ _).alloc (Nat.le_refl _) _).trans (B5.out.mono (by rw [World.size_alloc]; omega))).trans (below_turn T6.out (Nat.le_refl _))
                        have WM6 := hide (WMh.out.later B36)
                        have P6 := hide (own_later O2.out (B3.out.trans (B36.mono B3.out.size)))
                        clear B36
                        have hxl := H.out.len
                        subst hxl
                        obtain ⟨a2, c2, rfl, ha2, hs2⟩ := own_slice P6.out
                        obtain ⟨aw, cw, hvw, -, hsw⟩ := own_slice WM6.out.row
                        have hvw2 : vw = .slice aw out.length cw := by rw [hvw, hlm]
                        rw [hlm] at hsw
                        have hgn : (vg = .slice none 0 0 ↔ a0.isNone = true ∧ out = []) := by obtain ⟨zs, _, _, h3, _⟩ := hgl6; exact h3
                        obtain ⟨ag, cg, rfl, hag, hsg⟩ : ∃ a cap, vg = .slice a (xs.length + out.length) cap ∧ (a.isNone = true ↔ vg = .slice none 0 0) ∧ (0 < xs.length + out.length → ∃ g, a = some ⟨g, 0, none⟩) := by obtain ⟨zs, _, h2, _, _⟩ := hgl6; exact own_slice h2
                        have h02 : a2.isNone = a0.isNone := by
                          rw [Bool.eq_iff_iff, ha2, N2.out]
                          simp
                        have hagi : ag.isNone = (a2.isNone && decide (out.length = 0)) := by
                          rw [Bool.eq_iff_iff, hag, hgn, h02]
                          simp
                        have GL6 := hide hgl6
                        rw [hvw2] at WM6
                        have WM6' : Hid (WM w2.heap.size C (.slice aw ms.length cw) ms w6) := by rw [hlm]; exact WM6.out
                        clear WM6
                        have WM6 := WM6'
                        clear WM6' hvw hgn hgl6 hag ha2 WMh
                        subst hvw2
                        have HLM := hide hlm
                        clear hlm
                        cases a2 with
                        | none =>
                          have hs0 : xs.length = 0 := by
                            by_cases hh : 0 < xs.length
                            · obtain ⟨g, hg⟩ := hs2 hh
                              cases hg
                            · omega
                          have HS0 := hide hs0
                          clear hs0
                          by_cases m0 : out.length = 0
                          · have hagn : ag.isNone = true := by rw [hagi]; simp [m0]
                            cases ag with
                            | some _ => cases hagn
                            | none =>
                              have m0' : ((out.length : Int) == 0) = true := by simp [m0]
                              clear hagi hagn h02
                              go_wp2_with (first | (go_at_call 11; refine (reader_pos w3.heap.size bs bs.length r' w6 R6.out).mono ?_; rintro e7 w7 ⟨rfl, hw7⟩; have hw8 := hw7.symm; subst hw8) | (go_at_call 12; refine (reader_reads w3.heap.size bs bs.length r' w6 R6.out).mono ?_; rintro e8 w8 ⟨rfl, hw9⟩; have hw10 := hw9.symm; subst hw10))
                              go_loopg [19] xs.length (fun g t wr => l2Rel xs.length g t w6 wr)
                              case atStart => exact ⟨0, by omega, rfl, Below.refl _ _⟩
                              case round =>
                                obtain ⟨k2, hkg2, rfl, hbl2⟩ := hrel
                                have LB := hide hbl2
                                have Lg := hide hkg2
                                have hkn2 : k2 ≤ xs.length := by omega
                                clear hbl2 hkg2
                                by_cases hk2 : k2 < xs.length
                                · have := HS0.out
                                  omega
                                · have hlt2 : ¬ ((k2 : Int) < (xs.length : Int)) := by omega
                                  go_wp2
                                  go_loopg [21] out.length (fun g t wr => l2Rel out.length g t w6 wr)
                                  case atStart => exact ⟨0, by omega, rfl, LB.out⟩
                                  case round =>
                                    obtain ⟨i, hig, rfl, hbl3⟩ := hrel
                                    have L3 := hide hbl3
                                    have Lg3 := hide hig
                                    have hin : i ≤ out.length := by omega
                                    clear hbl3 hig
                                    by_cases hi : i < out.length
                                    · exfalso
                                      omega
                                    · have hlt3 : ¬ ((i : Int) < (out.length : Int)) := by omega
                                      go_wp2
                                      go_ret
                                      exact ⟨rfl, (below_all B2.out B3.out B5.out T6.out).trans (L3.out.mono (below_all B2.out B3.out B5.out T6.out).size)⟩

                          · have hagn : ag.isNone = false := by rw [hagi]; simp [m0]
                            cases ag with
                            | none => cases hagn
                            | some agx =>
                              have m0' : ((out.length : Int) == 0) = false := by rw [beq_eq_false_iff_ne]; omega
                              clear hagi hagn h02
                              go_wp2_with (first | (go_at_call 11; refine (reader_pos w3.heap.size bs bs.length r' w6 R6.out).mono ?_; rintro e7 w7 ⟨rfl, hw7⟩; have hw8 := hw7.symm; subst hw8) | (go_at_call 12; refine (reader_reads w3.heap.size bs bs.length r' w6 R6.out).mono ?_; rintro e8 w8 ⟨rfl, hw9⟩; have hw10 := hw9.symm; subst hw10))
                              go_loopg [19] xs.length (fun g t wr => l2Rel xs.length g t w6 wr)
                              case atStart => exact ⟨0, by omega, rfl, Below.refl _ _⟩
                              case round =>
                                obtain ⟨k2, hkg2, rfl, hbl2⟩ := hrel
                                have LB := hide hbl2
                                have Lg := hide hkg2
                                have hkn2 : k2 ≤ xs.length := by omega
                                clear hbl2 hkg2
                                by_cases hk2 : k2 < xs.length
                                · have := HS0.out
                                  omega
                                · have hlt2 : ¬ ((k2 : Int) < (xs.length : Int)) := by omega
                                  go_wp2
                                  go_loopg [21] out.length (fun g t wr => l2Rel out.length g t w6 wr)
                                  case atStart => exact ⟨0, by omega, rfl, LB.out⟩
                                  case round =>
                                    obtain ⟨i, hig, rfl, hbl3⟩ := hrel
                                    have L3 := hide hbl3
                                    have Lg3 := hide hig
                                    have hin : i ≤ out.length := by omega
                                    clear hbl3 hig
                                    by_cases hi : i < out.length
                                    · obtain ⟨gw, hgw⟩ := hsw (by omega)
                                      obtain ⟨gg, hgg⟩ := hsg (by omega)
                                      injection hgg with hgg
                                      subst hgw hgg
                                      have hlt3 : (i : Int) < (out.length : Int) := by omega
                                      have hlt4 : (xs.length : Int) + (i : Int) < (xs.length : Int) + (out.length : Int) := by omega
                                      have hlt5 : xs.length + i < xs.length + out.length := by omega
                                      obtain ⟨c, u, vn, vv, hci, hel⟩ := el_at (GL6.out.later L3.out) (WM6.out.later L3.out) MCSh.out i hi
                                      have hcm : Hid (∀ x ∈ c.ps, x.1.length ≤ ts.length) := NM.out c (List.mem_of_getElem? hci)
                                      obtain ⟨eg0, eg1, eg2, ew0, ew1, ew2, ew3, hpm, hrn, hrv⟩ := hel
                                      have hgwl : gw < wr.heap.size := World.block_lt_of_cell? _ _ ew0
                                      have HRN := hide hrn
                                      have HRV := hide hrv
                                      clear hci
                                      rcases hpm with ⟨hps, rfl⟩ | ⟨mm, rfl, -, hne, hms⟩
                                      · rw [hps] at hrn hrv
                                        obtain ⟨avn, cvn, rfl, -⟩ := own_slice hrn
                                        obtain ⟨avv, cvv, rfl, -⟩ := own_slice hrv
                                        clear hrn hrv hps HRN HRV
                                        go_wp2
                                        go_loopg [24] 0 (fun g t wq => t = .int .i64 0 ∧ wq = (wr.alloc (.cells #[.string (mk c.scheme), .string (mk c.tok), .map none] 39)).alloc (.cells #[.string (mk c.scheme), .string (mk c.tok), .slice avn 0 cvn, .slice avv 0 cvv] 41))
                                        case atStart => exact ⟨rfl, rfl⟩
                                        case round =>
                                          obtain ⟨rfl, hwq⟩ := hrel
                                          subst hwq
                                          go_wp2
                                          go_roundg (out.length - (i + 1))
                                          case measure => have := Lg3.out; omega
                                          case rel => exact ⟨i + 1, by omega, by go_num, (L3.out.alloc L3.out.size _).alloc (by have := L3.out.size; rw [World.size_alloc]; omega) _⟩
                                      · obtain ⟨avn, cvn, rfl, -, hsvn⟩ := own_slice hrn
                                        obtain ⟨avv, cvv, rfl, -, hsvv⟩ := own_slice hrv
                                        have hpl : 0 < c.ps.length := by cases hq : c.ps with
                                          | nil => exact absurd hq hne
                                          | cons => simp
                                        obtain ⟨gn, rfl⟩ := hsvn hpl
                                        obtain ⟨gv, rfl⟩ := hsvv hpl
                                        have hpl0 : ((c.ps.length : Int) == 0) = false := by rw [beq_eq_false_iff_ne]; omega
                                        have hpmax := own_max hrn
                                        have HMS := hide hms
                                        have hml := fun ty => (HMS.out.later (((Below.refl _ _).alloc (Nat.le_refl _) (.cells #[.string (mk c.scheme), .string (mk c.tok), .map (some mm)] 39)).alloc (by rw [World.size_alloc]; omega) (.cells #[.string (mk c.scheme), .string (mk c.tok), .slice (some ⟨gn, 0, none⟩) c.ps.length cvn, .slice (some ⟨gv, 0, none⟩) c.ps.length cvv] 41))).len ty
                                        clear hrn hrv hms hsvn hsvv hne
                                        go_wp2
                                        have eb1 : ((wr.alloc (.cells #[.string (mk c.scheme), .string (mk c.tok), .map (some mm)] 39)).alloc (.cells #[.string (mk c.scheme), .string (mk c.tok), .slice (some ⟨gn, 0, none⟩) c.ps.length cvn, .slice (some ⟨gv, 0, none⟩) c.ps.length cvv] 41)).heap[wr.heap.size]? = some (.cells #[.string (mk c.scheme), .string (mk c.tok), .map (some mm)] 39 (0, 0)) := (Below.heap_alloc _ _ _ (by rw [World.size_alloc]; omega)).trans (heap_alloc_new wr _)
                                        have eb2 : ((wr.alloc (.cells #[.string (mk c.scheme), .string (mk c.tok), .map (some mm)] 39)).alloc (.cells #[.string (mk c.scheme), .string (mk c.tok), .slice (some ⟨gn, 0, none⟩) c.ps.length cvn, .slice (some ⟨gv, 0, none⟩) c.ps.length cvv] 41)).heap[wr.heap.size + 1]? = some (.cells #[.string (mk c.scheme), .string (mk c.tok), .slice (some ⟨gn, 0, none⟩) c.ps.length cvn, .slice (some ⟨gv, 0, none⟩) c.ps.length cvv] 41 (0, 0)) := alloc_at _ _ _ (by rw [World.size_alloc])
                                        have ebb : Below wr.heap.size wr ((wr.alloc (.cells #[.string (mk c.scheme), .string (mk c.tok), .map (some mm)] 39)).alloc (.cells #[.string (mk c.scheme), .string (mk c.tok), .slice (some ⟨gn, 0, none⟩) c.ps.length cvn, .slice (some ⟨gv, 0, none⟩) c.ps.length cvv] 41)) := ((Below.refl _ _).alloc (Nat.le_refl _) _).alloc (by rw [World.size_alloc]; omega) _
                                        have ER := hide (own_later HRN.out ebb)
                                        have EV := hide (own_later HRV.out ebb)
                                        have EM := hide (HMS.out.later ebb)
                                        have EB := hide (L3.out.trans (ebb.mono L3.out.size))
                                        generalize (wr.alloc (.cells #[.string (mk c.scheme), .string (mk c.tok), .map (some mm)] 39)).alloc (.cells #[.string (mk c.scheme), .string (mk c.tok), .slice (some ⟨gn, 0, none⟩) c.ps.length cvn, .slice (some ⟨gv, 0, none⟩) c.ps.length cvv] 41) = W at eb1 eb2 ER EV EM EB ⊢
                                        generalize wr.heap.size = gb at eb1 eb2 ⊢
                                        have E1 := hide eb1
                                        have E2 := hide eb2
                                        clear eb1 eb2 ebb hml eg0 eg1 eg2 ew0 ew1 ew2 ew3 HRN HRV HMS
                                        go_loopg [24] c.ps.length (fun g t wr => l2Rel c.ps.length g t W wr)
                                        case atStart => exact ⟨0, by omega, rfl, Below.refl _ _⟩
                                        case round =>
                                          obtain ⟨k4, hkg4, rfl, hbl4⟩ := hrel
                                          have L4 := hide hbl4
                                          have Lg4 := hide hkg4
                                          have hkn4 : k4 ≤ c.ps.length := by omega
                                          clear hkg4
                                          have f1 := (hbl4.block gb (cells_lt E1.out)).trans E1.out
                                          have f2 := (hbl4.block (gb + 1) (cells_lt E2.out)).trans E2.out
                                          obtain ⟨u2, -⟩ := block_cells f1 2 _ rfl
                                          obtain ⟨x2, -⟩ := block_cells f2 2 _ rfl
                                          obtain ⟨x3, -⟩ := block_cells f2 3 _ rfl
                                          clear f1 f2 hbl4
                                          by_cases hk4 : k4 < c.ps.length
                                          · have hlt4 : (k4 : Int) < (c.ps.length : Int) := by omega
                                            obtain ⟨pr4, hpr4⟩ : ∃ y, c.ps[k4]? = some y := ⟨_, List.getElem?_eq_getElem hk4⟩
                                            obtain ⟨nm, va⟩ := pr4
                                            have hnl4 : nm.length ≤ 4611686018427387904 := by have : nm.length ≤ ts.length := hcm.out _ (List.mem_of_getElem? hpr4); omega
                                            have yn := st_at (own_later ER.out L4.out) k4 nm (by rw [List.getElem?_map, hpr4]; rfl) hk4
                                            have yv := st_at (own_later EV.out L4.out) k4 va (by rw [List.getElem?_map, hpr4]; rfl) hk4
                                            have hlk := fun j => ((EM.out.later L4.out).same (w' := wr.drewN j) rfl).hit k4 nm va hpr4 hnl4
                                            have hlk0 := (EM.out.later L4.out).hit k4 nm va hpr4 hnl4
                                            clear hpr4
                                            go_wp2
                                            go_quiet (fail)
                                            go_wp2
                                            go_roundg (c.ps.length - (k4 + 1))
                                            case measure => have := Lg4.out; omega
                                            case rel => exact ⟨k4 + 1, by omega, by go_num, below_drewN L4.out _⟩
                                          · have hlt4 : ¬ ((k4 : Int) < (c.ps.length : Int)) := by omega
                                            go_wp2
                                            go_roundg (out.length - (i + 1))
                                            case measure => have := Lg3.out; omega
                                            case rel => exact ⟨i + 1, by omega, by go_num, EB.out.trans (L4.out.mono EB.out.size)⟩
                                    · have hlt3 : ¬ ((i : Int) < (out.length : Int)) := by omega
                                      go_wp2
                                      go_ret
                                      exact ⟨rfl, (below_all B2.out B3.out B5.out T6.out).trans (L3.out.mono (below_all B2.out B3.out B5.out T6.out).size)⟩

                        | some a2x =>
                          have hagn : ag.isNone = false := by rw [hagi]; rfl
                          cases ag with
                          | none => cases hagn
                          | some agx =>
                            clear hagi hagn h02
                            go_wp2_with (first | (go_at_call 11; refine (reader_pos w3.heap.size bs bs.length r' w6 R6.out).mono ?_; rintro e7 w7 ⟨rfl, hw7⟩; have hw8 := hw7.symm; subst hw8) | (go_at_call 12; refine (reader_reads w3.heap.size bs bs.length r' w6 R6.out).mono ?_; rintro e8 w8 ⟨rfl, hw9⟩; have hw10 := hw9.symm; subst hw10))
                            go_loopg [19] xs.length (fun g t wr => l2Rel xs.length g t w6 wr)
                            case atStart => exact ⟨0, by omega, rfl, Below.refl _ _⟩
                            case round =>
                              obtain ⟨k2, hkg2, rfl, hbl2⟩ := hrel
                              have LB := hide hbl2
                              have Lg := hide hkg2
                              have hkn2 : k2 ≤ xs.length := by omega
                              clear hbl2 hkg2
                              by_cases hk2 : k2 < xs.length
                              · obtain ⟨g2, hg2⟩ := hs2 (by omega)
                                obtain ⟨gg, hgg⟩ := hsg (by omega)
                                injection hg2 with hg2
                                injection hgg with hgg
                                subst hg2 hgg
                                have hlt2 : (k2 : Int) < (xs.length : Int) := by omega
                                have hlt3 : (k2 : Int) < (xs.length : Int) + (out.length : Int) := by omega
                                have hlt4 : k2 < xs.length + out.length := by omega
                                obtain ⟨q0, q1, q2⟩ := pr_at (GL6.out.later LB.out) k2 hk2
                                have hpc := ba_at (own_later P6.out LB.out) k2 hk2
                                generalize xs.getD k2 ⟨#[]⟩ = x at q0 hpc
                                have hg2l : g2 < wr.heap.size := World.block_lt_of_cell? _ _ hpc
                                go_wp2
                                go_quiet (fail)
                                go_wp2
                                go_roundg (xs.length - (k2 + 1))
                                case measure => have := Lg.out; omega
                                case rel => exact ⟨k2 + 1, by omega, by go_num, below_drewN (LB.out.alloc LB.out.size _) _⟩
                              · have hlt2 : ¬ ((k2 : Int) < (xs.length : Int)) := by omega
                                go_wp2
                                go_loopg [21] out.length (fun g t wr => l2Rel out.length g t w6 wr)
                                case atStart => exact ⟨0, by omega, rfl, LB.out⟩
                                case round =>
                                  obtain ⟨i, hig, rfl, hbl3⟩ := hrel
                                  have L3 := hide hbl3
                                  have Lg3 := hide hig
                                  have hin : i ≤ out.length := by omega
                                  clear hbl3 hig
                                  by_cases hi : i < out.length
                                  · obtain ⟨gw, hgw⟩ := hsw (by omega)
                                    obtain ⟨gg, hgg⟩ := hsg (by omega)
                                    injection hgg with hgg
                                    subst hgw hgg
                                    have hlt3 : (i : Int) < (out.length : Int) := by omega
                                    have hlt4 : (xs.length : Int) + (i : Int) < (xs.length : Int) + (out.length : Int) := by omega
                                    have hlt5 : xs.length + i < xs.length + out.length := by omega
                                    obtain ⟨c, u, vn, vv, hci, hel⟩ := el_at (GL6.out.later L3.out) (WM6.out.later L3.out) MCSh.out i hi
                                    have hcm : Hid (∀ x ∈ c.ps, x.1.length ≤ ts.length) := NM.out c (List.mem_of_getElem? hci)
                                    obtain ⟨eg0, eg1, eg2, ew0, ew1, ew2, ew3, hpm, hrn, hrv⟩ := hel
                                    have hgwl : gw < wr.heap.size := World.block_lt_of_cell? _ _ ew0
                                    have HRN := hide hrn
                                    have HRV := hide hrv
                                    clear hci
                                    rcases hpm with ⟨hps, rfl⟩ | ⟨mm, rfl, -, hne, hms⟩
                                    · rw [hps] at hrn hrv
                                      obtain ⟨avn, cvn, rfl, -⟩ := own_slice hrn
                                      obtain ⟨avv, cvv, rfl, -⟩ := own_slice hrv
                                      clear hrn hrv hps HRN HRV
                                      go_wp2
                                      go_loopg [24] 0 (fun g t wq => t = .int .i64 0 ∧ wq = (wr.alloc (.cells #[.string (mk c.scheme), .string (mk c.tok), .map none] 39)).alloc (.cells #[.string (mk c.scheme), .string (mk c.tok), .slice avn 0 cvn, .slice avv 0 cvv] 41))
                                      case atStart => exact ⟨rfl, rfl⟩
                                      case round =>
                                        obtain ⟨rfl, hwq⟩ := hrel
                                        subst hwq
                                        go_wp2
                                        go_roundg (out.length - (i + 1))
                                        case measure => have := Lg3.out; omega
                                        case rel => exact ⟨i + 1, by omega, by go_num, (L3.out.alloc L3.out.size _).alloc (by have := L3.out.size; rw [World.size_alloc]; omega) _⟩
                                    · obtain ⟨avn, cvn, rfl, -, hsvn⟩ := own_slice hrn
                                      obtain ⟨avv, cvv, rfl, -, hsvv⟩ := own_slice hrv
                                      have hpl : 0 < c.ps.length := by cases hq : c.ps with
                                        | nil => exact absurd hq hne
                                        | cons => simp
                                      obtain ⟨gn, rfl⟩ := hsvn hpl
                                      obtain ⟨gv, rfl⟩ := hsvv hpl
                                      have hpl0 : ((c.ps.length : Int) == 0) = false := by rw [beq_eq_false_iff_ne]; omega
                                      have hpmax := own_max hrn
                                      have HMS := hide hms
                                      have hml := fun ty => (HMS.out.later (((Below.refl _ _).alloc (Nat.le_refl _) (.cells #[.string (mk c.scheme), .string (mk c.tok), .map (some mm)] 39)).alloc (by rw [World.size_alloc]; omega) (.cells #[.string (mk c.scheme), .string (mk c.tok), .slice (some ⟨gn, 0, none⟩) c.ps.length cvn, .slice (some ⟨gv, 0, none⟩) c.ps.length cvv] 41))).len ty
                                      clear hrn hrv hms hsvn hsvv hne
                                      go_wp2
                                      have eb1 : ((wr.alloc (.cells #[.string (mk c.scheme), .string (mk c.tok), .map (some mm)] 39)).alloc (.cells #[.string (mk c.scheme), .string (mk c.tok), .slice (some ⟨gn, 0, none⟩) c.ps.length cvn, .slice (some ⟨gv, 0, none⟩) c.ps.length cvv] 41)).heap[wr.heap.size]? = some (.cells #[.string (mk c.scheme), .string (mk c.tok), .map (some mm)] 39 (0, 0)) := (Below.heap_alloc _ _ _ (by rw [World.size_alloc]; omega)).trans (heap_alloc_new wr _)
                                      have eb2 : ((wr.alloc (.cells #[.string (mk c.scheme), .string (mk c.tok), .map (some mm)] 39)).alloc (.cells #[.string (mk c.scheme), .string (mk c.tok), .slice (some ⟨gn, 0, none⟩) c.ps.length cvn, .slice (some ⟨gv, 0, none⟩) c.ps.length cvv] 41)).heap[wr.heap.size + 1]? = some (.cells #[.string (mk c.scheme), .string (mk c.tok), .slice (some ⟨gn, 0, none⟩) c.ps.length cvn, .slice (some ⟨gv, 0, none⟩) c.ps.length cvv] 41 (0, 0)) := alloc_at _ _ _ (by rw [World.size_alloc])
                                      have ebb : Below wr.heap.size wr ((wr.alloc (.cells #[.string (mk c.scheme), .string (mk c.tok), .map (some mm)] 39)).alloc (.cells #[.string (mk c.scheme), .string (mk c.tok), .slice (some ⟨gn, 0, none⟩) c.ps.length cvn, .slice (some ⟨gv, 0, none⟩) c.ps.length cvv] 41)) := ((Below.refl _ _).alloc (Nat.le_refl _) _).alloc (by rw [World.size_alloc]; omega) _
                                      have ER := hide (own_later HRN.out ebb)
                                      have EV := hide (own_later HRV.out ebb)
                                      have EM := hide (HMS.out.later ebb)
                                      have EB := hide (L3.out.trans (ebb.mono L3.out.size))
                                      generalize (wr.alloc (.cells #[.string (mk c.scheme), .string (mk c.tok), .map (some mm)] 39)).alloc (.cells #[.string (mk c.scheme), .string (mk c.tok), .slice (some ⟨gn, 0, none⟩) c.ps.length cvn, .slice (some ⟨gv, 0, none⟩) c.ps.length cvv] 41) = W at eb1 eb2 ER EV EM EB ⊢
                                      generalize wr.heap.size = gb at eb1 eb2 ⊢
                                      have E1 := hide eb1
                                      have E2 := hide eb2
                                      clear eb1 eb2 ebb hml eg0 eg1 eg2 ew0 ew1 ew2 ew3 HRN HRV HMS
                                      go_loopg [24] c.ps.length (fun g t wr => l2Rel c.ps.length g t W wr)
                                      case atStart => exact ⟨0, by omega, rfl, Below.refl _ _⟩
                                      case round =>
                                        obtain ⟨k4, hkg4, rfl, hbl4⟩ := hrel
                                        have L4 := hide hbl4
                                        have Lg4 := hide hkg4
                                        have hkn4 : k4 ≤ c.ps.length := by omega
                                        clear hkg4
                                        have f1 := (hbl4.block gb (cells_lt E1.out)).trans E1.out
                                        have f2 := (hbl4.block (gb + 1) (cells_lt E2.out)).trans E2.out
                                        obtain ⟨u2, -⟩ := block_cells f1 2 _ rfl
                                        obtain ⟨x2, -⟩ := block_cells f2 2 _ rfl
                                        obtain ⟨x3, -⟩ := block_cells f2 3 _ rfl
                                        clear f1 f2 hbl4
                                        by_cases hk4 : k4 < c.ps.length
                                        · have hlt4 : (k4 : Int) < (c.ps.length : Int) := by omega
                                          obtain ⟨pr4, hpr4⟩ : ∃ y, c.ps[k4]? = some y := ⟨_, List.getElem?_eq_getElem hk4⟩
                                          obtain ⟨nm, va⟩ := pr4
                                          have hnl4 : nm.length ≤ 4611686018427387904 := by have : nm.length ≤ ts.length := hcm.out _ (List.mem_of_getElem? hpr4); omega
                                          have yn := st_at (own_later ER.out L4.out) k4 nm (by rw [List.getElem?_map, hpr4]; rfl) hk4
                                          have yv := st_at (own_later EV.out L4.out) k4 va (by rw [List.getElem?_map, hpr4]; rfl) hk4
                                          have hlk := fun j => ((EM.out.later L4.out).same (w' := wr.drewN j) rfl).hit k4 nm va hpr4 hnl4
                                          have hlk0 := (EM.out.later L4.out).hit k4 nm va hpr4 hnl4
                                          clear hpr4
                                          go_wp2
                                          go_quiet (fail)
                                          go_wp2
                                          go_roundg (c.ps.length - (k4 + 1))
                                          case measure => have := Lg4.out; omega
                                          case rel => exact ⟨k4 + 1, by omega, by go_num, below_drewN L4.out _⟩
                                        · have hlt4 : ¬ ((k4 : Int) < (c.ps.length : Int)) := by omega
                                          go_wp2
                                          go_roundg (out.length - (i + 1))
                                          case measure => have := Lg3.out; omega
                                          case rel => exact ⟨i + 1, by omega, by go_num, EB.out.trans (L4.out.mono EB.out.size)⟩
                                  · have hlt3 : ¬ ((i : Int) < (out.length : Int)) := by omega
                                    go_wp2
                                    go_ret
                                    exact ⟨rfl, (below_all B2.out B3.out B5.out T6.out).trans (L3.out.mono (below_all B2.out B3.out B5.out T6.out).size)⟩

                    · have MN := hide (hMo.out.symm.trans hMoN)
                      clear hMoN
                      have B3 := hide hb3
                      have XL := hide H.out.len
                      clear hb3
                      obtain ⟨d, hd⟩ : ∃ d, bs.length = pn + d := ⟨bs.length - pn, by omega⟩
                      have hdi : (bs.length : Int) - (pn : Int) = (d : Int) := by omega
                      have HD := hide hd
                      clear hd
                      go_wp2_with (first | (go_at_call 8; refine (reader_new bs pn rn w3).mono ?_; rintro e4 w4 ⟨rfl, rfl⟩) | (go_at_call 10; refine (prior_any v2 xs w.heap.size _ (by rw [XL.out]; exact (owns_same O2.out (fun k _ hl => B3.out.block k hl)).alloc _) (by rw [XL.out]; exact n2)).mono ?_; rintro e5 w5 ⟨v5, rfl, hown5, hnil5, hb5⟩; have O5 := hide hown5; have N5 := hide hnil5; have B5 := hide hb5; clear hown5 hnil5 hb5))
                      go_at_call 9
                      refine (zzChallenges_any F w3.heap.size bs a0.isNone xs (Mo bs pn false []) pn rn v5 w5 (by rw [B5.out.tape]; show F.answers w3.tape; rw [B3.out.tape, B2.out.tape]; exact hF) (rd_later (rd_new bs pn rn w3) B5.out) (gl_start (by have h := O5.out; rw [World.size_alloc] at h; exact h) (by rw [N5.out, N2.out]; simp)) rfl hp (by omega) hn (by rw [XL.out]; omega)).mono ?_
                      rintro e6 w6 ⟨ht6, ⟨vg, out, r', rfl, hTs, -⟩ | ⟨qq, p', r', rfl, -, hrd6, hpp, hpl, hrl, hrh⟩⟩
                      · rw [MN.out] at hTs
                        cases hTs
                      · have T6 := hide ht6
                        have R6 := hide hrd6
                        have g1 : ¬ ((r' : Int) < (rn : Int)) := by omega
                        have g2 : ¬ ((rn : Int) + 32 * ((d : Int) + 1) < (r' : Int)) := by have := HD.out; omega
                        have g3 : (pn : Int) ≤ (p' : Int) := by omega
                        have g4 : (p' : Int) ≤ (bs.length : Int) := by omega
                        have hd2 : d ≤ 1048576 := by have := HD.out; omega
                        have hr6 : r' ≤ 2000000000 := by have := HD.out; omega
                        clear ht6 hrd6 hpp hpl hrl hrh
                        go_wp2_with (first | (go_at_call 11; refine (reader_pos w3.heap.size bs p' r' w6 R6.out).mono ?_; rintro e7 w7 ⟨rfl, hw7⟩; have hw8 := hw7.symm; subst hw8) | (go_at_call 12; refine (reader_reads w3.heap.size bs p' r' w6 R6.out).mono ?_; rintro e8 w8 ⟨rfl, hw9⟩; have hw10 := hw9.symm; subst hw10))
                        go_ret
                        exact ⟨rfl, below_all B2.out B3.out B5.out T6.out⟩

end Go.Proofs.Qxb6613049aFmt
