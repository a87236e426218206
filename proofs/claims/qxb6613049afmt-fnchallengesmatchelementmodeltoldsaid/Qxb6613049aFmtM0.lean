import Derived.Test.Qxb6613049aFmtR7
import Derived.Maps.OwnSet
import Derived.Maps.StringElems
namespace Go.Proofs.Qxb6613049aFmt
open Go.RowKit Go.Maps

theorem keyed9 : Keyed Tryf.prog 9 := string_keyed Tryf.underlying9
theorem key_mk (l : List UInt8) (h : l.length ≤ 4611686018427387904) : keyOf Tryf.prog 9 (.string (mk l)) = some (.string l) := by
  have := WideMaps.keyOf_string_mk (P := Tryf.prog) (k := 9) Tryf.underlying9 (s := mk l) (by rw [mk_size]; unfold maxLen; omega)
  rw [mk_data] at this
  exact this

/-- In block m lies a map[string]string that holds the pairs ps, no name twice. -/
def MS (m : Nat) (ps : List (List UInt8 × List UInt8)) (w : World) : Prop :=
  ∃ D : DataW Unit, w.ownsMap Tryf.prog 9 (plainElem Tryf.prog 9) m ps.length D ∧ Maps.size D = ps.length ∧ (∀ k : List UInt8, Maps.has D (.string k) = ps.any (fun x => x.1 == k)) ∧
    ∀ k v, (k, v) ∈ ps → ∀ zd, D.atKey (.string k) zd = .lit (.string v)

theorem MS.made (w : World) : MS w.heap.size [] (w.alloc (.map #[] 0)) :=
  ⟨.map [], World.ownsMap_made w Tryf.prog 9 _, rfl, fun _ => rfl, fun _ _ h => by cases h⟩
theorem MS.lt {m : Nat} {ps : List (List UInt8 × List UInt8)} {w : World} (h : MS m ps w) : m < w.heap.size := by
  obtain ⟨D, h1, _⟩ := h
  exact h1.lt
theorem MS.same {m : Nat} {ps : List (List UInt8 × List UInt8)} {w w' : World} (h : MS m ps w) (hs : w'.heap[m]? = w.heap[m]?) : MS m ps w' := by
  obtain ⟨D, ⟨es, clock, hb, r⟩, h2⟩ := h
  exact ⟨D, ⟨es, clock, hs.trans hb, r⟩, h2⟩
theorem MS.turn {X : Nat → Prop} {B m : Nat} {ps : List (List UInt8 × List UInt8)} {w w' : World} (h : MS m ps w) (t : Turn X B w w') (hB : m < B) (hX : ¬ X m) : MS m ps w' := h.same (t.block m hB hX)

theorem MS.store {m : Nat} {ps : List (List UInt8 × List UInt8)} {w : World} (h : MS m ps w) (k v : List UInt8) (hk : k.length ≤ 4611686018427387904) (hv : v.length ≤ 4611686018427387904) (hn : ps.length < 4611686018427387904) (hno : ps.any (fun x => x.1 == k) = false) :
    ∃ w', (Instr.mapUpdate 37 (.map (some m)) (.string (mk k)) (.string (mk v))).run Tryf.prog w = .ok () w' ∧ MS m (ps ++ [(k, v)]) w' ∧ w.mapTurned w' m := by
  obtain ⟨D, h1, h2, h3, h4⟩ := h
  have hval : plainElem (H := Unit) Tryf.prog 9 (.string (mk v)) = some (.lit (.string v), []) := by
    have := plainElem_string (H := Unit) (P := Tryf.prog) (e := 9) Tryf.underlying9 (s := mk v) (by rw [mk_size]; unfold maxLen; omega)
    rw [mk_data] at this
    exact this
  have hnot : Maps.has D (.string k) = false := by rw [h3, hno]
  obtain ⟨w', hr, ho, ht⟩ := h1.store keyed9 Tryf.underlying37 (by unfold maxLen; omega) (key_mk k hk) hval
  refine ⟨w', hr, ⟨_, by rw [List.length_append, List.length_singleton]; exact ho, ?_, ?_, ?_⟩, ht⟩
  · rw [Maps.size_put (h1.tidy keyed9), hnot, List.length_append, List.length_singleton, h2]
    rfl
  · intro k'
    rw [List.any_append]
    by_cases e : k' = k
    · subst e
      rw [Maps.has_put_same h1.isMap (by trivial)]
      simp
    · rw [Maps.has_put_other (by simpa using e), h3]
      simp [Ne.symm e]
  · intro k' v' hm zd
    rcases List.mem_append.1 hm with hm | hm
    · have hne : k' ≠ k := by
        intro e
        rw [List.any_eq_false] at hno
        exact hno (k', v') hm (by simp [e])
      rw [Maps.atKey_put_other (by simpa using hne)]
      exact h4 k' v' hm zd
    · simp at hm
      obtain ⟨rfl, rfl⟩ := hm
      rw [Maps.atKey_put_same h1.isMap (by trivial)]

/-- 'v, ok := m[k]'. -/
theorem MS.look {m : Nat} {ps : List (List UInt8 × List UInt8)} {w : World} (h : MS m ps w) (k : List UInt8) (hk : k.length ≤ 4611686018427387904) :
    ∃ s : ByteArray, (Instr.lookup 37 (.map (some m)) (.string (mk k)) true).run Tryf.prog w = .ok (.tuple #[.string s, .bool (ps.any (fun x => x.1 == k))]) w ∧ ∀ v, (k, v) ∈ ps → s = mk v := by
  obtain ⟨D, h1, h2, h3, h4⟩ := h
  have hz : plainElem (H := Unit) Tryf.prog 9 (.string ⟨#[]⟩) = some (.lit (.string []), []) := plainElem_string Tryf.underlying9 (by decide)
  obtain ⟨v, p, hr, hv⟩ := h1.look_ok keyed9 Tryf.underlying37 (z := .string ⟨#[]⟩) (by exact Tryf.zeroValue9 w) hz (key_mk k hk)
  obtain ⟨s, rfl, hz2, _⟩ := plainElem_string_inv Tryf.underlying9 hv
  refine ⟨s, by rw [hr, h3], fun v hm => ?_⟩
  rw [h4 k v hm] at hz2
  simp only [Prod.mk.injEq, DataW.lit.injEq, Lit.string.injEq] at hz2
  exact ext_data s (mk v) (by rw [mk_data]; exact hz2.1.symm)
theorem MS.len {m : Nat} {ps : List (List UInt8 × List UInt8)} {w : World} (h : MS m ps w) (ty : TypeId) : (Builtin.len_ #[37] ty #[.map (some m)]).run Tryf.prog w = .ok (.int .i64 ps.length) w := by
  obtain ⟨D, h1, h2, _⟩ := h
  rw [h1.len Tryf.underlying37, h2]
theorem nil_look (k : List UInt8) (hk : k.length ≤ 4611686018427387904) (w : World) : (Instr.lookup 37 (.map none) (.string (mk k)) true).run Tryf.prog w = .ok (.tuple #[.string ⟨#[]⟩, .bool false]) w :=
  Maps.look_nil true keyed9 Tryf.underlying37 (z := .string ⟨#[]⟩) (by exact Tryf.zeroValue9 w) (key_mk k hk)

/-- In block m lies a map[string]bool that is true at the names ns and holds nothing else. -/
def MB (m : Nat) (ns : List (List UInt8)) (w : World) : Prop :=
  ∃ D : DataW Unit, w.ownsMap Tryf.prog 9 (plainElem Tryf.prog 4) m ns.length D ∧ IsMap D ∧ ∀ k : List UInt8, D.atKey (.string k) (.lit (.bool false)) = .lit (.bool (ns.any (fun x => x == k)))
theorem MB.made (w : World) : MB w.heap.size [] (w.alloc (.map #[] 0)) :=
  ⟨.map [], World.ownsMap_made w Tryf.prog 9 _, isMap_empty, fun _ => rfl⟩
theorem MB.lt {m : Nat} {ns : List (List UInt8)} {w : World} (h : MB m ns w) : m < w.heap.size := by
  obtain ⟨D, h1, _⟩ := h
  exact h1.lt
theorem MB.same {m : Nat} {ns : List (List UInt8)} {w w' : World} (h : MB m ns w) (hs : w'.heap[m]? = w.heap[m]?) : MB m ns w' := by
  obtain ⟨D, ⟨es, clock, hb, r⟩, h2⟩ := h
  exact ⟨D, ⟨es, clock, hs.trans hb, r⟩, h2⟩
theorem MB.store {m : Nat} {ns : List (List UInt8)} {w : World} (h : MB m ns w) (k : List UInt8) (hk : k.length ≤ 4611686018427387904) (hn : ns.length < 4611686018427387904) :
    ∃ w', (Instr.mapUpdate 47 (.map (some m)) (.string (mk k)) (.bool true)).run Tryf.prog w = .ok () w' ∧ MB m (ns ++ [k]) w' ∧ w.mapTurned w' m := by
  obtain ⟨D, h1, h2, h3⟩ := h
  have hval : plainElem (H := Unit) Tryf.prog 4 (.bool true) = some (.lit (.bool true), []) := plainElem_bool Tryf.underlying4 true
  obtain ⟨w', hr, ho, ht⟩ := h1.store keyed9 Tryf.underlying47 (by unfold maxLen; omega) (key_mk k hk) hval
  refine ⟨w', hr, ⟨_, by rw [List.length_append, List.length_singleton]; exact ho, h2.put _ _, ?_⟩, ht⟩
  intro k'
  rw [List.any_append]
  by_cases e : k' = k
  · subst e
    rw [Maps.atKey_put_same h2 (by trivial)]
    simp
  · rw [Maps.atKey_put_other (by simpa using e), h3]
    simp [Ne.symm e]
theorem MB.look {m : Nat} {ns : List (List UInt8)} {w : World} (h : MB m ns w) (k : List UInt8) (hk : k.length ≤ 4611686018427387904) :
    (Instr.lookup 47 (.map (some m)) (.string (mk k)) false).run Tryf.prog w = .ok (.bool (ns.any (fun x => x == k))) w := by
  obtain ⟨D, h1, h2, h3⟩ := h
  have hz : plainElem (H := Unit) Tryf.prog 4 (.bool false) = some (.lit (.bool false), []) := plainElem_bool Tryf.underlying4 false
  obtain ⟨v, p, hr, hv⟩ := h1.lookup keyed9 Tryf.underlying47 (z := .bool false) (by exact Tryf.zeroValue4 w) hz (key_mk k hk)
  rw [h3] at hv
  rw [hr]
  have u4 := Tryf.underlying4
  unfold plainElem at hv
  cases v <;> simp [u4] at hv
  rw [hv.1]

end Go.Proofs.Qxb6613049aFmt
