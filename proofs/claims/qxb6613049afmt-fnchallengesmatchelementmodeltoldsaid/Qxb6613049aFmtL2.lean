import Derived.Test.Qxb6613049aFmtL0
import Derived.Test.Qxb6613049aFmtZ8
namespace Go.Proofs.Qxb6613049aFmt
open Go.RowKit

theorem flat_get {α β : Type} (f : α → List β) (k : Nat) (hf : ∀ a, (f a).length = k) : ∀ (l : List α) (i j : Nat), j < k → (l.flatMap f)[i * k + j]? = l[i]?.bind (fun a => (f a)[j]?)
  | [], i, j, _ => by simp
  | a :: l, 0, j, hj => by
    rw [List.flatMap_cons, Nat.zero_mul, Nat.zero_add, List.getElem?_append_left (by rw [hf]; exact hj)]
    rfl
  | a :: l, i + 1, j, hj => by
    rw [List.flatMap_cons, List.getElem?_append_right (by rw [hf, Nat.succ_mul]; omega), hf, show (i + 1) * k + j - k = i * k + j from by rw [Nat.succ_mul]; omega, flat_get f k hf l i j hj]
    rfl

/-- One challenge that was read, beside the model's. -/
structure EL (w : World) (gg gw n i : Nat) (c : Chal) (u vn vv : Value) : Prop where
  intro ::
  g0 : w.cell? ⟨gg, (n + i) * 3, none⟩ = some (.string (mk c.scheme))
  g1 : w.cell? ⟨gg, (n + i) * 3 + 1, none⟩ = some (.string (mk c.tok))
  g2 : w.cell? ⟨gg, (n + i) * 3 + 2, none⟩ = some u
  w0 : w.cell? ⟨gw, i * 4, none⟩ = some (.string (mk c.scheme))
  w1 : w.cell? ⟨gw, i * 4 + 1, none⟩ = some (.string (mk c.tok))
  w2 : w.cell? ⟨gw, i * 4 + 2, none⟩ = some vn
  w3 : w.cell? ⟨gw, i * 4 + 3, none⟩ = some vv
  pm : PM 0 c.ps u w
  rn : w.ownsRow 0 9 1 vn c.ps.length (strCells (c.ps.map (fun x => x.1)))
  rv : w.ownsRow 0 9 1 vv c.ps.length (strCells (c.ps.map (fun x => x.2)))

theorem own_zero {w : World} {B : Nat} {e : TypeId} {k n : Nat} {v : Value} {xs : List Value} (h : w.ownsRow B e k v n xs) : w.ownsRow 0 e k v n xs := own_lower h (Nat.zero_le _)
theorem own_later {w w' : World} {B : Nat} {e : TypeId} {k n : Nat} {v : Value} {xs : List Value} (h : w.ownsRow B e k v n xs) (hb : Below w.heap.size w w') : w'.ownsRow B e k v n xs :=
  kept_block h (fun g hg => hb.block g (h.lt g hg).2)
theorem cell_later' {w w' : World} {a : Addr} {v : Value} (hb : Below w.heap.size w w') (h : w.cell? a = some v) : w'.cell? a = some v :=
  (hb.cell (World.block_lt_of_cell? _ _ h)).trans h
theorem EL.later {w w' : World} {gg gw n i : Nat} {c : Chal} {u vn vv : Value} (h : EL w gg gw n i c u vn vv) (hb : Below w.heap.size w w') : EL w' gg gw n i c u vn vv :=
  ⟨cell_later' hb h.g0, cell_later' hb h.g1, cell_later' hb h.g2, cell_later' hb h.w0, cell_later' hb h.w1, cell_later' hb h.w2, cell_later' hb h.w3, h.pm.same (fun k _ hl => hb.block k hl), own_later h.rn hb, own_later h.rv hb⟩

theorem el_at {w : World} {B Bw C gg gw cg cw : Nat} {pn : Bool} {pr : List ByteArray} {out : List Chal} {ms : List MC} (hg : GL B (.slice (some ⟨gg, 0, none⟩) (pr.length + out.length) cg) pn pr out w)
    (hw : WM Bw C (.slice (some ⟨gw, 0, none⟩) ms.length cw) ms w) (hm : MCs ms out) (i : Nat) (hi : i < out.length) : ∃ c u vn vv, out[i]? = some c ∧ EL w gg gw pr.length i c u vn vv := by
  obtain ⟨zs, z1, z2, _, z4⟩ := hg
  have hlm : ms.length = out.length := by have := congrArg List.length hm; rw [List.length_map, List.length_map] at this; exact this
  have hlz : zs.length = out.length := by rw [← z1, List.length_map]
  obtain ⟨z, hz⟩ : ∃ z, zs[i]? = some z := ⟨_, List.getElem?_eq_getElem (by omega)⟩
  obtain ⟨x, hx⟩ : ∃ x, ms[i]? = some x := ⟨_, List.getElem?_eq_getElem (by omega)⟩
  have hc : out[i]? = some z.1 := by rw [← z1, List.getElem?_map, hz]; rfl
  have hmi := congrArg (fun l => l[i]?) hm
  simp only [List.getElem?_map, hx, hc, Option.map_some, Option.some.injEq, Prod.mk.injEq] at hmi
  obtain ⟨m1, m2, m3, m4⟩ := hmi
  have hmem : z ∈ zs := List.mem_of_getElem? hz
  have hmm : x ∈ ms := List.mem_of_getElem? hx
  have gc : ∀ j u, j < 3 → [Value.string (mk z.1.scheme), .string (mk z.1.tok), z.2][j]? = some u → w.cell? ⟨gg, (pr.length + i) * 3 + j, none⟩ = some u := by
    intro j u hj hu
    have hp := prCells_length pr
    rw [z2.cellAt _ (by omega), List.getElem?_append_right (by omega), hp, show (pr.length + i) * 3 + j - pr.length * 3 = i * 3 + j from by omega]
    unfold zsCells
    rw [flat_get _ 3 (fun _ => rfl) zs i j hj, hz]
    exact hu
  have wc : ∀ j u, j < 4 → [Value.string (mk x.s), .string (mk x.t), x.vn, x.vv][j]? = some u → w.cell? ⟨gw, i * 4 + j, none⟩ = some u := by
    intro j u hj hu
    rw [hw.row.cellAt _ (by omega)]
    unfold mcCells
    rw [flat_get _ 4 (fun _ => rfl) ms i j hj, hx]
    exact hu
  have hr := hw.rows x hmm
  refine ⟨z.1, z.2, x.vn, x.vv, hc, gc 0 _ (by omega) rfl, gc 1 _ (by omega) rfl, gc 2 _ (by omega) rfl, ?_, ?_, wc 2 _ (by omega) rfl, wc 3 _ (by omega) rfl, (z4 z hmem).mono (Nat.zero_le _), ?_, ?_⟩
  · rw [← m1]; exact wc 0 _ (by omega) rfl
  · rw [← m2]; exact wc 1 _ (by omega) rfl
  · have h := own_zero hr.1
    rw [m3, List.length_map] at h
    exact h
  · have h := own_zero hr.2
    rw [m4, List.length_map] at h
    exact h

/-- One that was handed in. -/
theorem pr_at {w : World} {B gg cg : Nat} {pn : Bool} {pr : List ByteArray} {out : List Chal} (hg : GL B (.slice (some ⟨gg, 0, none⟩) (pr.length + out.length) cg) pn pr out w) (k : Nat) (hk : k < pr.length) :
    w.cell? ⟨gg, k * 3, none⟩ = some (.string (pr.getD k ⟨#[]⟩)) ∧ w.cell? ⟨gg, k * 3 + 1, none⟩ = some (.string ⟨#[]⟩) ∧ w.cell? ⟨gg, k * 3 + 2, none⟩ = some (.map none) := by
  obtain ⟨zs, z1, z2, _, z4⟩ := hg
  have hp : pr[k]? = some (pr.getD k ⟨#[]⟩) := by rw [List.getD_eq_getElem?_getD, List.getElem?_eq_getElem hk]; rfl
  have gc : ∀ j u, j < 3 → [Value.string (pr.getD k ⟨#[]⟩), .string ⟨#[]⟩, .map none][j]? = some u → w.cell? ⟨gg, k * 3 + j, none⟩ = some u := by
    intro j u hj hu
    have hl := prCells_length pr
    rw [z2.cellAt _ (by omega), List.getElem?_append_left (by omega)]
    unfold prCells
    rw [flat_get _ 3 (fun _ => rfl) pr k j hj, hp]
    exact hu
  exact ⟨gc 0 _ (by omega) rfl, gc 1 _ (by omega) rfl, gc 2 _ (by omega) rfl⟩

theorem GL.later {B : Nat} {v : Value} {pn : Bool} {pr : List ByteArray} {out : List Chal} {w w' : World} (h : GL B v pn pr out w) (hb : Below w.heap.size w w') : GL B v pn pr out w' := h.same (fun k _ hl => hb.block k hl)
theorem WM.later {B C : Nat} {v : Value} {ms : List MC} {w w' : World} (h : WM B C v ms w) (hb : Below w.heap.size w w') : WM B C v ms w' := h.same (fun g _ hl _ => hb.block g hl)
theorem ba_at {w : World} {B g c : Nat} {xs : List ByteArray} (h : w.ownsRow B 9 1 (.slice (some ⟨g, 0, none⟩) xs.length c) xs.length (baCells xs)) (k : Nat) (hk : k < xs.length) : w.cell? ⟨g, k, none⟩ = some (.string (xs.getD k ⟨#[]⟩)) := by
  rw [h.cellAt k (by omega)]
  unfold baCells
  rw [List.getElem?_map, List.getD_eq_getElem?_getD, List.getElem?_eq_getElem hk]
  rfl
theorem st_at {w : World} {B g c n : Nat} {xs : List (List UInt8)} (h : w.ownsRow B 9 1 (.slice (some ⟨g, 0, none⟩) n c) n (strCells xs)) (k : Nat) (x : List UInt8) (hx : xs[k]? = some x) (hk : k < n) : w.cell? ⟨g, k, none⟩ = some (.string (mk x)) := by
  rw [h.cellAt k (by omega)]
  unfold strCells
  rw [List.getElem?_map, hx]
  rfl

end Go.Proofs.Qxb6613049aFmt
