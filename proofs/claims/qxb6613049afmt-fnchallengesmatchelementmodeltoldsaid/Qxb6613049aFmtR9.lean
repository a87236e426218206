import Derived.Test.Qxb6613049aFmtR8
namespace Go.Proofs.Qxb6613049aFmt
open Go.RowKit Go.Extern.Stop Go.Stop Go.Extern

theorem PV_len (bs : List UInt8) (d : Nat) (v : List UInt8) (e : Nat) (h : PV bs d = some (v, e)) : d < e ∧ e ≤ bs.length ∧ v.length ≤ bs.length := by
  unfold PV at h
  by_cases c : d < bs.length ∧ byt bs d = 34
  · rw [if_pos c] at h
    have := qs_ge bs _ (d + 1) [] v e (Nat.le_refl _) h
    simp at this
    omega
  · rw [if_neg c] at h
    by_cases c2 : stop tcI bs d = d
    · rw [if_pos c2] at h
      cases h
    · rw [if_neg c2] at h
      injection h with h
      injection h with h1 h2
      have h3 := stop_ge tcI bs d
      by_cases c3 : d ≤ bs.length
      · have h4 := stop_le tcI bs d c3
        subst h2
        rw [← h1, fldOf_length bs d _ h4]
        omega
      · exact absurd (stop_end tcI bs d (by omega)) c2

theorem value_some (F : Interp) (b : Nat) (bs : List UInt8) (d r : Nat) (w : World) (hF : F.answers w.tape) (h : RD b bs d r w) (hd : d ≤ bs.length) (hr : r ≤ 3000000000000) (hn : bs.length ≤ 1048576) (v : List UInt8) (j : Nat) (hp : PV bs d = some (v, j)) :
    Calls Tryf.prog 40 #[.pointer (some ⟨b, 0, none⟩)] w fun e w' => e = .returned (.tuple #[.string (mk v), .nilIface]) ∧ ∃ r', RD b bs j r' w' ∧ Turn (fun k => k = b) w.heap.size w w' ∧ r + j ≤ r' + d ∧ r' + d ≤ r + j + 2 := by
  have hl := (PV_len bs d v j hp).1
  refine (value_any F b bs d r w hF h hd hr hn).mono ?_
  intro e w' hv
  unfold valPost at hv
  rw [hp] at hv
  obtain ⟨h1, r', h2, h3, h4, h5⟩ := hv
  exact ⟨h1, r', h2, h3, by omega, by omega⟩
theorem value_none (F : Interp) (b : Nat) (bs : List UInt8) (d r : Nat) (w : World) (hF : F.answers w.tape) (h : RD b bs d r w) (hd : d ≤ bs.length) (hr : r ≤ 3000000000000) (hn : bs.length ≤ 1048576) (hp : PV bs d = none) :
    Calls Tryf.prog 40 #[.pointer (some ⟨b, 0, none⟩)] w fun e w' => (∃ q, e = .returned (.tuple #[.string (mk []), .iface 80 (.pointer (some q))])) ∧ ∃ p' r', RD b bs p' r' w' ∧ Turn (fun k => k = b) w.heap.size w w' ∧ d ≤ p' ∧ p' ≤ bs.length ∧ r ≤ r' ∧ r' + d ≤ r + bs.length + 3 := by
  refine (value_any F b bs d r w hF h hd hr hn).mono ?_
  intro e w' hv
  unfold valPost at hv
  rw [hp] at hv
  obtain ⟨h1, p', r', h2, h3, h4, h5, h6, h7⟩ := hv
  exact ⟨h1, p', r', h2, h3, h4, h5, h6, by omega⟩
theorem lower_to (bs : List UInt8) (a j : Nat) (hj : stop tcI bs a = j) (hn : bs.length ≤ 1048576) (hjn : j ≤ bs.length) (w : World) :
    Calls Tryf.prog 41 #[.string (mk (fldOf bs a j))] w fun e w' => e = .returned (.string (mk (Lib.toLowerA (fldOf bs a j)))) ∧ Below w.heap.size w w' := by
  subst hj
  exact Tryf.strings_ToLower_ascii (mk (fldOf bs a _)) w (by rw [mk_size, fldOf_length _ _ _ hjn]; omega) (tok_ascii bs a)

theorem lower_len (l : List UInt8) : (Lib.toLowerA l).length = l.length := by unfold Lib.toLowerA; rw [List.length_map]

/-- A map turned: of the blocks only m. -/
theorem turned_turn {w w' : World} {m : Nat} (h : w.mapTurned w' m) (X : Nat → Prop) (B : Nat) (hm : B ≤ m ∨ X m) : Turn X B w w' := by
  have hg := h.grown
  have hs : w'.heap.size = w.heap.size := by
    obtain ⟨es, clock, es', clock', hb, rfl⟩ := h
    simp [ChangeMaps.setBlock]
  refine ⟨hg.os, hg.tape, hg.output, hg.size, fun k hk hx => ?_⟩
  by_cases hl : k < w.heap.size
  · refine hg.block k hl (fun e => ?_)
    injection e with e
    subst e
    rcases hm with hm | hm
    · omega
    · exact hx hm
  · rw [Array.getElem?_eq_none (by omega), Array.getElem?_eq_none (by omega)]

theorem prep_some (b cb B m : Nat) (bs : List UInt8) (e r : Nat) (s : List UInt8) (ps : List (List UInt8 × List UInt8)) (nm v : List UInt8) (w w7 : World) (hR : RD b bs e r w7) (h0 : w7.cell? ⟨cb, 0, none⟩ = some (.string (mk s))) (h1 : w7.cell? ⟨cb, 1, none⟩ = some (.string (mk []))) (f1 : w7.frozen? ⟨cb, 1, none⟩ = false) (f2 : w7.frozen? ⟨cb, 2, none⟩ = false) (hv : w7.cell? ⟨cb, 2, none⟩ = some (.map (some m))) (hm : MS m ps w7) (hB : B ≤ m) (hb : b < B) (hcb : cb < B)
    (ht : Turn (fun k => k = b ∨ k = cb) B w w7) (hnm : nm.length ≤ 4611686018427387904) (hvl : v.length ≤ 4611686018427387904) (hpl : ps.length < 4611686018427387904) (hno : ps.any (fun x => x.1 == nm) = false) :
    ∃ w8, (Instr.mapUpdate 37 (.map (some m)) (.string (mk nm)) (.string (mk v))).run Tryf.prog w7 = .ok () w8 ∧ RD b bs e r w8 ∧ CB B cb s [] (ps ++ [(nm, v)]) w8 ∧ Turn (fun k => k = b ∨ k = cb) B w w8 := by
  obtain ⟨w8, hr, hms, htn⟩ := hm.store nm v hnm hvl hpl hno
  have t := turned_turn htn (fun _ => False) B (.inl hB)
  refine ⟨w8, hr, hR.turn t hb (fun e => e), ?_, ht.trans (turned_turn htn _ B (.inl hB))⟩
  exact ⟨(t.cell (p := ⟨cb, 0, none⟩) hcb (fun e => e)).trans h0, (t.cell (p := ⟨cb, 1, none⟩) hcb (fun e => e)).trans h1, (t.frozen (p := ⟨cb, 1, none⟩) hcb (fun e => e)).trans f1, (t.frozen (p := ⟨cb, 2, none⟩) hcb (fun e => e)).trans f2,
    _, (t.cell (p := ⟨cb, 2, none⟩) hcb (fun e => e)).trans hv, .inr ⟨m, rfl, hB, by simp, hms⟩⟩

theorem prep_none (b cb B : Nat) (bs : List UInt8) (e r : Nat) (s : List UInt8) (nm v : List UInt8) (w w7 : World) (hR : RD b bs e r w7) (hC : CB B cb s [] [] w7) (hv : w7.cell? ⟨cb, 2, none⟩ = some (.map none)) (hBw : B ≤ w7.heap.size) (hb : b < B) (hcb : cb < B) (hne : cb ≠ b)
    (ht : Turn (fun k => k = b ∨ k = cb) B w w7) (hnm : nm.length ≤ 4611686018427387904) (hvl : v.length ≤ 4611686018427387904) :
    ∃ w8, (Instr.mapUpdate 37 (.map (some w7.heap.size)) (.string (mk nm)) (.string (mk v))).run Tryf.prog ((w7.alloc (.map #[] 0)).setCell ⟨cb, 2, none⟩ (.map (some w7.heap.size))) = .ok () w8 ∧ RD b bs e r w8 ∧ CB B cb s [] [(nm, v)] w8 ∧ Turn (fun k => k = b ∨ k = cb) B w w8 := by
  have ta : Turn (fun _ => False) B w7 (w7.alloc (.map #[] 0)) := (Turn.refl _ _ _).alloc hBw _
  have hm0 : MS w7.heap.size [] ((w7.alloc (.map #[] 0)).setCell ⟨cb, 2, none⟩ (.map (some w7.heap.size))) := (MS.made w7).same (Below.heap_setCell _ _ _ _ (by show w7.heap.size ≠ cb; omega))
  have hv1 : (w7.alloc (.map #[] 0)).cell? ⟨cb, 2, none⟩ = some (.map none) := (ta.cell (p := ⟨cb, 2, none⟩) hcb (fun e => e)).trans hv
  have ts : Turn (fun k => k = cb) B w7 ((w7.alloc (.map #[] 0)).setCell ⟨cb, 2, none⟩ (.map (some w7.heap.size))) := (ta.mono (Nat.le_refl _) (fun _ _ h => h.elim)).setCell _ _ (.inr rfl)
  have ts2 : Turn (fun k => k = b ∨ k = cb) B w7 ((w7.alloc (.map #[] 0)).setCell ⟨cb, 2, none⟩ (.map (some w7.heap.size))) := ts.mono (Nat.le_refl _) (fun _ _ h => .inr h)
  obtain ⟨h0, h1, f1, f2, v', h2, hp⟩ := hC
  refine prep_some b cb B w7.heap.size bs e r s [] nm v w _ (hR.turn ts hb (fun e => hne e.symm)) ?_ ?_ ?_ ?_ (World.cell?_setCell_same _ _ _ hv1) hm0 hBw hb hcb (ht.trans ts2) hnm hvl (by simp) rfl
  · rw [World.cell?_setCell_other _ _ _ _ (by simp)]
    exact (ta.cell (p := ⟨cb, 0, none⟩) hcb (fun e => e)).trans h0
  · rw [World.cell?_setCell_other _ _ _ _ (by simp)]
    exact (ta.cell (p := ⟨cb, 1, none⟩) hcb (fun e => e)).trans h1
  · rw [World.frozen?_setCell]
    exact (ta.frozen (p := ⟨cb, 1, none⟩) hcb (fun e => e)).trans f1
  · rw [World.frozen?_setCell]
    exact (ta.frozen (p := ⟨cb, 2, none⟩) hcb (fun e => e)).trans f2

end Go.Proofs.Qxb6613049aFmt
