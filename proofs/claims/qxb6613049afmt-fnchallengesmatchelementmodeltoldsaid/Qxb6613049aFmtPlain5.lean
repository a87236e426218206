import Derived.Test.Qxb6613049aFmtPlain4
namespace Go.Proofs.Qxb6613049aFmt

/-- What was looked at ahead of a scheme lies within that scheme and its white space. -/
theorem look_le (bs : List UInt8) (p : Nat) (hp : p ≤ bs.length) : stop spI bs (stop tcI bs p) ≤ stop spI bs (stop tcI bs (se bs p)) := by
  obtain ⟨a1, a2, a3⟩ := se_facts bs _ p (Nat.le_refl _) hp
  have g1 := stop_ge tcI bs (se bs p)
  have g2 := stop_ge spI bs (stop tcI bs (se bs p))
  have hsp : stop spI bs p ≤ se bs p := by
    by_cases c : stop spI bs p < bs.length ∧ byt bs (stop spI bs p) = 44
    · rw [se_yes bs p c]
      have := (se_facts bs _ (stop spI bs p + 1) (Nat.le_refl _) (by omega)).1
      omega
    · rw [se_no bs p c]
      exact Nat.le_refl _
  by_cases h : p < bs.length
  · cases ht : tcI (byt bs p) with
    | false =>
      rw [stop_no tcI bs p h ht]
      omega
    | true =>
      have hs : spI (byt bs p) = false := by
        cases e : spI (byt bs p) with
        | false => rfl
        | true =>
          exfalso
          unfold spI at e
          rw [Bool.or_eq_true] at e
          rcases e with e | e
          · rw [eq_of_beq e] at ht; cases ht
          · rw [eq_of_beq e] at ht; cases ht
      have hst := stop_no spI bs p h hs
      have hno : ¬ (stop spI bs p < bs.length ∧ byt bs (stop spI bs p) = 44) := by
        rw [hst]
        rintro ⟨_, e⟩
        rw [e] at ht
        cases ht
      rw [se_no bs p hno, hst]
      exact Nat.le_refl _
  · rw [stop_end tcI bs p (by omega)]
    omega

end Go.Proofs.Qxb6613049aFmt
