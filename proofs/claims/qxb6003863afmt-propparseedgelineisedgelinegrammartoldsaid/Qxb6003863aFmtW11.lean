import Derived.Test.Qxb6003863aFmtW10
import Derived.Handy
namespace Go.Proofs.Qxb6003863aFmt
open Go.RowKit Go.Extern.Stop Go.Stop Go.Extern

theorem par_good {b off n cap : Nat} {bs : List UInt8} {w : World} (h : Calls Tryf.prog 7 #[.slice (some ⟨b, off, none⟩) n cap] w fun e w' => parsePost bs w e w') (nn : Int) (y : Int → Int → Prop)
    (hw : ∀ x0 x1 m ok, Want bs x0 x1 m ok → ok = true ∧ m = nn ∧ y x0 x1) : PGood b off n cap w nn y := by
  refine Calls.mono h ?_
  rintro e w' ⟨x0, x1, m, ok, ev, rfl, hev, hW, hB⟩
  obtain ⟨rfl, rfl, hy⟩ := hw _ _ _ _ hW
  have hev' : ev = .nilIface := hev
  subst hev'
  exact ⟨x0, x1, rfl, hy, hB⟩

theorem par_bad {b off n cap : Nat} {bs : List UInt8} {w : World} (h : Calls Tryf.prog 7 #[.slice (some ⟨b, off, none⟩) n cap] w fun e w' => parsePost bs w e w')
    (hw : ∀ x0 x1 m ok, Want bs x0 x1 m ok → ok = false) : PBad b off n cap w := by
  refine Calls.mono h ?_
  rintro e w' ⟨x0, x1, m, ok, ev, rfl, hev, hW, hB⟩
  obtain rfl := hw _ _ _ _ hW
  obtain ⟨q, rfl⟩ : ∃ q, ev = .iface 90 (.pointer (some q)) := hev
  exact ⟨x0, x1, m, q, rfl, hB⟩

theorem law_some (F : Interp) (b off n cap : Nat) (bs : List UInt8) (w : World) (hF : F.answers w.tape) (hn : bs.length = n) (h0 : 0 < n) (hmax : n ≤ 1048576) (hcap : n ≤ cap) (hbig : cap ≤ 9223372036854775807)
    (hlt : b < w.heap.size) (h : Lies b off n bs w) :
    Calls Tryf.prog 3 #[.slice (some ⟨b, off, none⟩) n cap] w fun e w' => e = .returned (.bool true) ∧ Below w.heap.size w w' := by
  have hpar := zzParse_any F b off n cap bs w hF hn h0 hmax hcap hbig hlt h
  have l0 : S0 bs ≤ n := by have := S0_le bs; omega
  have l1 : S1 bs ≤ n := by have := S1_le bs; omega
  have l2 : S2 bs ≤ n := by have := S2_le bs; omega
  have m0 : E0 bs ≤ n := by have := E0_le bs; omega
  have m1 : E1 bs ≤ n := by have := E1_le bs; omega
  have hN0 : CN b off n cap bs 0 (S0 bs) (E0 bs) := fun wx hl => next0 b off n cap bs wx hn hmax hl
  have hN1 : CN b off n cap bs (E0 bs : Nat) (S1 bs) (E1 bs) := fun wx hl => next1 b off n cap bs wx hn hmax hl
  have hN2 : CN b off n cap bs (E1 bs : Nat) (S2 bs) (stop nblankI bs (S2 bs)) := fun wx hl => next2 b off n cap bs wx hn hmax hl
  by_cases hg : Go0 bs
  · have hs0 : S0 bs < n := by have := hg.1; omega
    have k0 := S0_lt bs hg.1
    have h35 : (byt bs (S0 bs) == 35) = false := by simpa using hg.2
    have hI0 : CI b off n cap bs (S0 bs) (E0 bs) (idV (IdA bs)) := fun wx hl => id0 b off n cap bs wx hn hmax hl k0
    by_cases hs1 : S1 bs = n
    · rw [hs1] at hN1
      cases hA : IdA bs with
      | some a =>
        rw [hA, idV_some] at hI0
        refine law_c3 b off n cap bs w hmax hcap hlt h (S0 bs) (E0 bs) hs0 k0 m0 h35 hN0 a (E1 bs) hI0 hN1 (par_good hpar 1 _ fun x0 x1 m ok hW => ?_)
        obtain ⟨e1, e2⟩ := hW.2.1 hg (by omega)
        rw [hA] at e1 e2
        exact ⟨e1, (e2 rfl).1, (e2 rfl).2⟩
      | none =>
        rw [hA, idV_none] at hI0
        refine law_c4 b off n cap bs w hmax hcap hlt h (S0 bs) (E0 bs) hs0 k0 m0 h35 hN0 (E1 bs) hI0 hN1 (par_bad hpar fun x0 x1 m ok hW => ?_)
        obtain ⟨e1, e2⟩ := hW.2.1 hg (by omega)
        rw [hA] at e1
        exact e1
    · have hs1' : S1 bs < n := by omega
      have k1 := S1_lt bs (by omega)
      have hI1 : CI b off n cap bs (S1 bs) (E1 bs) (idV (IdB bs)) := fun wx hl => id1 b off n cap bs wx hn hmax hl k1
      have hW3 : ∀ x0 x1 m ok, Want bs x0 x1 m ok → _ := fun x0 x1 m ok hW => hW.2.2 hg (by omega)
      cases hA : IdA bs with
      | some a =>
        rw [hA, idV_some] at hI0
        cases hB : IdB bs with
        | some c =>
          rw [hB, idV_some] at hI1
          rw [hA, hB] at hW3
          by_cases hs2 : S2 bs = n
          · have hd : decide (S2 bs = bs.length) = true := by rw [decide_eq_true_iff]; omega
            rw [hd] at hW3
            rw [hs2] at hN2
            refine law_c5 b off n cap bs w hmax hcap hlt h (S0 bs) (E0 bs) hs0 k0 m0 h35 hN0 (S1 bs) (E1 bs) hs1' k1 m1 hN1 a c _ hI0 hI1 hN2 (par_good hpar 2 _ fun x0 x1 m ok hW => ?_)
            obtain ⟨e1, e2⟩ := hW3 _ _ _ _ hW
            exact ⟨e1, e2 e1⟩
          · have hd : decide (S2 bs = bs.length) = false := by rw [decide_eq_false_iff_not]; omega
            rw [hd] at hW3
            have hAt : CA b off n cap bs (S2 bs) (Att bs) := fun wx hl => att2 b off n cap bs wx hn hmax hl (by omega)
            cases ha : Att bs with
            | true =>
              rw [ha] at hAt hW3
              refine law_c6 b off n cap bs w hmax hcap hlt h (S0 bs) (E0 bs) hs0 k0 m0 h35 hN0 (S1 bs) (E1 bs) hs1' k1 m1 hN1 a c (S2 bs) _ hI0 hI1 (by omega) hN2 hAt (par_good hpar 2 _ fun x0 x1 m ok hW => ?_)
              obtain ⟨e1, e2⟩ := hW3 _ _ _ _ hW
              exact ⟨e1, e2 e1⟩
            | false =>
              rw [ha] at hAt hW3
              refine law_c7 b off n cap bs w hmax hcap hlt h (S0 bs) (E0 bs) hs0 k0 m0 h35 hN0 (S1 bs) (E1 bs) hs1' k1 m1 hN1 a c (S2 bs) _ hI0 hI1 (by omega) hN2 hAt (par_bad hpar fun x0 x1 m ok hW => ?_)
              exact (hW3 _ _ _ _ hW).1
        | none =>
          rw [hB, idV_none] at hI1
          rw [hA, hB] at hW3
          refine law_c10 b off n cap bs w hmax hcap hlt h (S0 bs) (E0 bs) hs0 k0 m0 h35 hN0 (S1 bs) (E1 bs) hs1' k1 m1 hN1 a (S2 bs) _ hI0 hI1 hN2 (par_bad hpar fun x0 x1 m ok hW => ?_)
          have := (hW3 _ _ _ _ hW).1
          rw [this]; simp
      | none =>
        rw [hA, idV_none] at hI0
        rw [hA] at hW3
        cases hB : IdB bs with
        | some c =>
          rw [hB, idV_some] at hI1
          refine law_c8 b off n cap bs w hmax hcap hlt h (S0 bs) (E0 bs) hs0 k0 m0 h35 hN0 (S1 bs) (E1 bs) hs1' k1 m1 hN1 c (S2 bs) _ hI0 hI1 hN2 (par_bad hpar fun x0 x1 m ok hW => ?_)
          have := (hW3 _ _ _ _ hW).1
          rw [this]; simp
        | none =>
          rw [hB, idV_none] at hI1
          refine law_c9 b off n cap bs w hmax hcap hlt h (S0 bs) (E0 bs) hs0 k0 m0 h35 hN0 (S1 bs) (E1 bs) hs1' k1 m1 hN1 (S2 bs) _ hI0 hI1 hN2 (par_bad hpar fun x0 x1 m ok hW => ?_)
          have := (hW3 _ _ _ _ hW).1
          rw [this]; simp
  · by_cases hs : S0 bs = n
    · rw [hs] at hN0
      exact law_c1 b off n cap bs w hmax hcap hlt h (E0 bs) hN0 (par_good hpar 0 _ fun x0 x1 m ok hW => ⟨(hW.1 hg).1, (hW.1 hg).2, trivial⟩)
    · refine law_c2 b off n cap bs w hmax hcap hlt h (S0 bs) (E0 bs) (by omega) ?_ hN0 (par_good hpar 0 _ fun x0 x1 m ok hW => ⟨(hW.1 hg).1, (hW.1 hg).2, trivial⟩)
      rw [beq_iff_eq]
      exact Classical.byContradiction fun hne => hg ⟨by omega, hne⟩

set_option maxHeartbeats 400000 in
theorem parse_empty (p : Option Addr) (cap : Nat) (w : World) :
    Calls Tryf.prog 24 #[.slice p 0 cap] w fun e w' => e = .returned (.tuple #[.agg #[.int .i64 0, .int .i64 0], .int .i64 0, .nilIface]) ∧ Below w.heap.size w w' := by
  go_enter Tryf.func24, Tryf.ntmps24
  go_wp2
  refine wp_loop_rounds 1 ?_
  rw [rounds_succ]
  go_wp2
  exact bodyPost_ret (v := .tuple #[.agg #[.int .i64 0, .int .i64 0], .int .i64 0, .nilIface]) (by simp [results, Tryf.results24, go_sem]) rfl ⟨rfl, by go_grown⟩

set_option maxHeartbeats 400000 in
theorem zzParse_empty (p : Option Addr) (cap : Nat) (w : World) :
    Calls Tryf.prog 7 #[.slice p 0 cap] w fun e w' => e = .returned (.tuple #[.agg #[.int .i64 0, .int .i64 0], .int .i64 0, .nilIface]) ∧ Below w.heap.size w w' := by
  go_enter Tryf.func7, Tryf.ntmps7
  go_wp2_with fail
  refine (parse_empty p cap _).mono ?_
  rintro e w1 ⟨rfl, hB⟩
  have gi0 := hB.cell (p := ⟨w.heap.size, 0, none⟩) (by simp)
  have gi1 := hB.cell (p := ⟨w.heap.size, 1, none⟩) (by simp)
  have gf0 := hB.frozen (p := ⟨w.heap.size, 0, none⟩) (by simp)
  have gf1 := hB.frozen (p := ⟨w.heap.size, 1, none⟩) (by simp)
  simp at gi0 gi1 gf0 gf1
  go_wp2
  exact bodyPost_ret (v := .tuple #[.agg #[.int .i64 0, .int .i64 0], .int .i64 0, .nilIface]) (by simp [results, Tryf.results7, go_sem, gi0, gi1]) rfl ⟨rfl, ((((Below.refl _ w).alloc (Nat.le_refl _) _).trans (hB.mono (by simp))).setCell (Nat.le_refl _) _).setCell (Nat.le_refl _) _⟩

set_option maxHeartbeats 400000 in
theorem next_empty (p : Option Addr) (cap : Nat) (w : World) :
    Calls Tryf.prog 8 #[.slice p 0 cap, .int .i64 0] w fun e w' => e = .returned (.tuple #[.int .i64 0, .int .i64 0]) ∧ w' = w := by
  go_enter Tryf.func8, Tryf.ntmps8
  go_wp2
  refine wp_loop_rounds 1 ?_
  rw [rounds_succ]
  go_wp2
  refine wp_loop_rounds 1 ?_
  rw [rounds_succ]
  go_wp2
  go_ret2
  exact ⟨rfl, rfl⟩

set_option maxHeartbeats 400000 in
theorem law_empty (p : Option Addr) (cap : Nat) (w : World) :
    Calls Tryf.prog 3 #[.slice p 0 cap] w fun e w' => e = .returned (.bool true) ∧ Below w.heap.size w w' := by
  go_enter Tryf.func3, Tryf.ntmps3
  go_wp2_with fail
  refine (zzParse_empty p cap w).mono ?_
  rintro e w1 ⟨rfl, hB⟩
  go_wp2_with fail
  refine (next_empty p cap _).mono ?_
  rintro e w2 ⟨rfl, rfl⟩
  go_wp2
  go_ret
  exact ⟨rfl, hB.alloc hB.size _⟩

/-- A line of more than 1048576 bytes. -/
theorem law_long (p : Option Addr) (n cap : Nat) (w : World) (hn : 1048576 < n) :
    Calls Tryf.prog 3 #[.slice p n cap] w fun e w' => e = .returned (.bool true) ∧ Below w.heap.size w w' := by
  have hn' : (1048576 : Int) < (n : Int) := by omega
  go_enter Tryf.func3, Tryf.ntmps3
  go_wp2
  go_ret
  exact ⟨rfl, Below.refl _ _⟩

end Go.Proofs.Qxb6003863aFmt
