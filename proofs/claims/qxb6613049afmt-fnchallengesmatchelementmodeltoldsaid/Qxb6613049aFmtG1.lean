import Derived.Test.Qxb6613049aFmtG0
namespace Go.Proofs.Qxb6613049aFmt
open Go.RowKit

theorem PM.grown {B : Nat} {ps : List (List UInt8 × List UInt8)} {u : Value} {w w' : World} {row : Option Nat} (h : PM B ps u w) (hg : w.grownBy w' row) (hr : ∀ g, row = some g → ∃ cs t f, w.heap[g]? = some (.cells cs t f)) : PM B ps u w' := by
  rcases h with h | ⟨m, hv, hB, hne, hm⟩
  · exact .inl h
  · refine .inr ⟨m, hv, hB, hne, hm.same (hg.block m hm.lt (fun e => ?_))⟩
    obtain ⟨cs, t, f, hc⟩ := hr m e.symm
    obtain ⟨D, ⟨es, clock, hb, _⟩, _⟩ := hm
    rw [hb] at hc
    cases hc
theorem own_cells {w : World} {B : Nat} {e : TypeId} {size n : Nat} {v : Value} {xs : List Value} (h : w.ownsRow B e size v n xs) : ∀ g, v.ownBlock = some g → ∃ cs t f, w.heap[g]? = some (.cells cs t f) := by
  intro g hg
  rcases h.2 with ⟨rfl, _⟩ | ⟨g', cap, cur, rfl, _, hgg, _⟩
  · simp [Value.ownBlock] at hg
  · simp [Value.ownBlock] at hg
    subst hg
    exact ⟨_, _, _, hgg⟩

/-- A challenge fresh from its scheme. -/
theorem newC (s : List UInt8) (w : World) : CB (w.heap.size + 1) w.heap.size s [] [] (w.alloc (.cells #[.string (mk s), .string ⟨#[]⟩, .map none] 39)) := by
  refine ⟨by simp, by simp; rfl, by simp, by simp, .map none, by simp, .inl ⟨rfl, rfl⟩⟩

/-- What the append leaves. -/
theorem append_done (b Bp : Nat) (bs : List UInt8) (pn : Bool) (pr : List ByteArray) (out : List Chal) (zs : List (Chal × Value)) (w w3 w5 : World) (t v' : Value) (c : Chal) (u : Value) (X : Obj) (p' r' : Nat)
    (hR : RD b bs p' r' w3) (hpm : PM Bp c.ps u w3) (hBp : b + 1 ≤ Bp) (ht : Turn (fun k => k = b) (b + 1) w w3) (z1 : zs.map (fun z => z.1) = out) (z2 : w3.ownsRow (b + 1) 39 3 t (pr.length + out.length) (prCells pr ++ zsCells zs)) (z4 : ∀ z ∈ zs, PM (b + 1) z.1.ps z.2 w3)
    (hown : w5.ownsRow (b + 1) 39 3 v' (pr.length + out.length + 1) (prCells pr ++ (zsCells zs ++ [.string (mk c.scheme), .string (mk c.tok), u]))) (hg : (w3.alloc X).grownBy w5 t.ownBlock) (hnil : ¬ v' = .slice none 0 0) :
    RD b bs p' r' w5 ∧ GL (b + 1) v' pn pr (out ++ [c]) w5 ∧ Turn (fun k => k = b) (b + 1) w w5 := by
  have hbl := hR.lt
  have hrow : ∀ k, k < b + 1 → some k ≠ t.ownBlock := fun k hk e => by
    have := (z2.lt k e.symm).1
    omega
  have hk : ∀ k, k < b + 1 → w5.heap[k]? = w3.heap[k]? := fun k hk => by
    rw [hg.block k (by have : (w3.alloc X).heap.size = w3.heap.size + 1 := by simp
                       omega) (hrow k hk), Below.heap_alloc _ _ _ (by omega)]
  have hs : w3.heap.size ≤ w5.heap.size := by
    have h1 := hg.size
    have : (w3.alloc X).heap.size = w3.heap.size + 1 := by simp
    omega
  have hb : ∀ a : Addr, a.block = b → w5.heap[a.block]? = w3.heap[a.block]? := fun a e => hk a.block (by omega)
  refine ⟨?_, ?_, ?_⟩
  · obtain ⟨h0, h1, h2, f1, f2⟩ := hR
    exact ⟨(World.cell?_of_block (w := w3) (hb ⟨b, 0, none⟩ rfl)).trans h0, (World.cell?_of_block (w := w3) (hb ⟨b, 1, none⟩ rfl)).trans h1, (World.cell?_of_block (w := w3) (hb ⟨b, 2, none⟩ rfl)).trans h2, (World.frozen?_of_block (w := w3) (hb ⟨b, 1, none⟩ rfl)).trans f1, (World.frozen?_of_block (w := w3) (hb ⟨b, 2, none⟩ rfl)).trans f2⟩
  · refine GL.push zs z1 z4 (hpm.mono hBp) ?_ (by rw [List.append_assoc]; exact hown) hnil
    intro z _ hz
    exact (hz.same (w' := w3.alloc X) (fun k _ hl => Below.heap_alloc _ _ _ hl)).grown hg (own_cells (z2.alloc X))
  · refine ⟨?_, ?_, ?_, Nat.le_trans ht.size hs, fun k hk1 hx => (hk k hk1).trans (ht.block k hk1 hx)⟩
    · exact hg.os.trans ht.os
    · exact hg.tape.trans ht.tape
    · exact hg.output.trans ht.output

end Go.Proofs.Qxb6613049aFmt
