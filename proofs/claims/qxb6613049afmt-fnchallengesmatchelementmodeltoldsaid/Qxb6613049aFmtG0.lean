import Derived.Test.Qxb6613049aFmtR9
namespace Go.Proofs.Qxb6613049aFmt
open Go.RowKit

theorem PM.mono {B C : Nat} {ps : List (List UInt8 × List UInt8)} {v : Value} {w : World} (h : PM B ps v w) (hC : C ≤ B) : PM C ps v w := by
  rcases h with h | ⟨m, hv, hB, hne, hm⟩
  · exact .inl h
  · exact .inr ⟨m, hv, Nat.le_trans hC hB, hne, hm⟩

/-- The cells of the challenges that were handed in, and of those that were read. -/
def prCells (pr : List ByteArray) : List Value := pr.flatMap fun p => [.string p, .string ⟨#[]⟩, .map none]
def zsCells (zs : List (Chal × Value)) : List Value := zs.flatMap fun z => [.string (mk z.1.scheme), .string (mk z.1.tok), z.2]
theorem prCells_length (pr : List ByteArray) : (prCells pr).length = pr.length * 3 := by
  unfold prCells
  induction pr with
  | nil => rfl
  | cons p pr ih => rw [List.flatMap_cons, List.length_append, ih, List.length_cons]; simp; omega
theorem zsCells_length (zs : List (Chal × Value)) : (zsCells zs).length = zs.length * 3 := by
  unfold zsCells
  induction zs with
  | nil => rfl
  | cons p pr ih => rw [List.flatMap_cons, List.length_append, ih, List.length_cons]; simp; omega

/-- The list of challenges in memory: those handed in, then those read. -/
def GL (B : Nat) (v : Value) (pn : Bool) (pr : List ByteArray) (out : List Chal) (w : World) : Prop :=
  ∃ zs : List (Chal × Value), zs.map (fun z => z.1) = out ∧ w.ownsRow B 39 3 v (pr.length + out.length) (prCells pr ++ zsCells zs) ∧ (v = .slice none 0 0 ↔ pn = true ∧ out = []) ∧ ∀ z ∈ zs, PM B z.1.ps z.2 w

theorem GL.same {B : Nat} {v : Value} {pn : Bool} {pr : List ByteArray} {out : List Chal} {w w' : World} (h : GL B v pn pr out w) (hs : ∀ k, B ≤ k → k < w.heap.size → w'.heap[k]? = w.heap[k]?) : GL B v pn pr out w' := by
  obtain ⟨zs, h1, h2, h3, h4⟩ := h
  exact ⟨zs, h1, owns_same h2 hs, h3, fun z hz => (h4 z hz).same hs⟩

/-- One challenge more. -/
theorem GL.push {B : Nat} {v' : Value} {pn : Bool} {pr : List ByteArray} {out : List Chal} {w w' : World} {c : Chal} {u : Value} (zs : List (Chal × Value)) (h1 : zs.map (fun z => z.1) = out) (h4 : ∀ z ∈ zs, PM B z.1.ps z.2 w)
    (hu : PM B c.ps u w) (hs : ∀ z ∈ zs ++ [(c, u)], PM B z.1.ps z.2 w → PM B z.1.ps z.2 w')
    (h2 : w'.ownsRow B 39 3 v' (pr.length + out.length + 1) (prCells pr ++ zsCells zs ++ [.string (mk c.scheme), .string (mk c.tok), u])) (h3 : v' ≠ .slice none 0 0) : GL B v' pn pr (out ++ [c]) w' := by
  refine ⟨zs ++ [(c, u)], by rw [List.map_append, h1]; rfl, ?_, ?_, ?_⟩
  · have e : prCells pr ++ zsCells (zs ++ [(c, u)]) = prCells pr ++ zsCells zs ++ [.string (mk c.scheme), .string (mk c.tok), u] := by
      unfold zsCells
      rw [List.flatMap_append, List.append_assoc]
      rfl
    rw [e, List.length_append, List.length_singleton, ← Nat.add_assoc]
    exact h2
  · constructor
    · intro e
      exact absurd e h3
    · rintro ⟨_, e⟩
      simp at e
  · intro z hz
    refine hs z hz ?_
    rcases List.mem_append.1 hz with hz | hz
    · exact h4 z hz
    · simp at hz
      subst hz
      exact hu

end Go.Proofs.Qxb6613049aFmt
