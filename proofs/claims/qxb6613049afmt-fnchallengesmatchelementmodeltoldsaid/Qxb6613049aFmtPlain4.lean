import Derived.Test.Qxb6613049aFmtPlain3
namespace Go.Proofs.Qxb6613049aFmt

/-- The elements as texts. -/
def elsOf (bs : List UInt8) (q : Bool) (s i : Nat) : List (List UInt8) := (S bs q s i).map fun x => fldOf bs x.1 x.2

theorem byt_drop (bs : List UInt8) (m i : Nat) : byt (bs.drop m) i = byt bs (m + i) := by
  unfold byt
  rw [List.getD_eq_getElem?_getD, List.getD_eq_getElem?_getD, List.getElem?_drop]
theorem fld_drop (bs : List UInt8) (m a b : Nat) : fldOf (bs.drop m) a b = fldOf bs (m + a) (m + b) := by
  unfold fldOf
  rw [List.drop_drop, show m + b - (m + a) = b - a from by omega]

theorem els_shift (bs : List UInt8) (m : Nat) (hm : m ≤ bs.length) : ∀ (d i s : Nat) (q : Bool), bs.length - (m + i) ≤ d → elsOf (bs.drop m) q s i = elsOf bs q (m + s) (m + i)
  | 0, i, s, q, hd => by
    unfold elsOf
    rw [S_end _ _ _ _ (by rw [List.length_drop]; omega), S_end _ _ _ _ (by omega)]
    simp only [List.map_cons, List.map_nil]
    rw [fld_drop, List.length_drop, show m + (bs.length - m) = bs.length from by omega]
  | d + 1, i, s, q, hd => by
    by_cases h : m + i < bs.length
    · have hl : i < (bs.drop m).length := by rw [List.length_drop]; omega
      cases q with
      | true =>
        unfold elsOf
        rw [S_t _ _ _ hl, S_t _ _ _ h, byt_drop]
        by_cases h1 : byt bs (m + i) = 92 ∧ m + i + 1 < bs.length
        · rw [if_pos h1, if_pos ⟨h1.1, by rw [List.length_drop]; omega⟩]
          exact els_shift bs m hm d (i + 2) s true (by omega)
        · rw [if_neg h1, if_neg (by rw [List.length_drop]; intro e; exact h1 ⟨e.1, by omega⟩)]
          by_cases h2 : byt bs (m + i) = 34
          · rw [if_pos h2, if_pos h2]
            exact els_shift bs m hm d (i + 1) s false (by omega)
          · rw [if_neg h2, if_neg h2]
            exact els_shift bs m hm d (i + 1) s true (by omega)
      | false =>
        unfold elsOf
        rw [S_f _ _ _ hl, S_f _ _ _ h, byt_drop]
        by_cases h1 : byt bs (m + i) = 34
        · rw [if_pos h1, if_pos h1]
          exact els_shift bs m hm d (i + 1) s true (by omega)
        · rw [if_neg h1, if_neg h1]
          by_cases h2 : byt bs (m + i) = 44
          · rw [if_pos h2, if_pos h2, List.map_cons, List.map_cons]
            have := els_shift bs m hm d (i + 1) (i + 1) false (by omega)
            unfold elsOf at this
            rw [this, fld_drop]
            rfl
          · rw [if_neg h2, if_neg h2]
            exact els_shift bs m hm d (i + 1) s false (by omega)
    · exact els_shift bs m hm 0 i s q (by omega)

theorem Mo_els (bs : List UInt8) (o : Bool) (out : List Chal) : ∀ (d a : Nat), bs.length - a ≤ d → a ≤ bs.length → (S bs false a a).map (fun x => cls bs x.1 x.2) = (elsOf bs false a a).map (fun e => cls e 0 e.length)
  | 0, a, hd, ha => by
    have hE := E_end bs false a (by omega)
    unfold elsOf
    rw [S_E bs a _ a false (Nat.le_refl _), hE, if_neg (by omega)]
    simp only [List.map_cons, List.map_nil]
    rw [← cls_w bs a _ ha hE, fldOf_length bs a _ (Nat.le_refl _)]
  | d + 1, a, hd, ha => by
    have h1 := E_ge bs a false ha
    have h2 := E_le bs a false
    unfold elsOf
    rw [S_E bs a _ a false (Nat.le_refl _)]
    simp only [List.map_cons]
    rw [← cls_w bs a _ ha rfl, fldOf_length bs a _ h2]
    by_cases c : E bs false a < bs.length
    · rw [if_pos c]
      have := Mo_els bs o out d (E bs false a + 1) (by omega) (by omega)
      unfold elsOf at this
      rw [this]
    · rw [if_neg c]
      rfl

/-- The model over the text from m on. -/
theorem Mo_text (bs : List UInt8) (m : Nat) (hm : m ≤ bs.length) (o : Bool) (out : List Chal) : run ((elsOf (bs.drop m) false 0 0).map (fun e => cls e 0 e.length)) o out = Mo bs m o out := by
  unfold Mo
  rw [els_shift bs m hm _ 0 0 false (Nat.le_refl _), Mo_els bs o out _ m (Nat.le_refl _) hm]
  rfl

end Go.Proofs.Qxb6613049aFmt
