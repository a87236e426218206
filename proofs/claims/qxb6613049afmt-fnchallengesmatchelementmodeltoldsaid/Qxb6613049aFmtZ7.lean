import Derived.Test.Qxb6613049aFmtZ6
import Derived.Test.Qxb6613049aFmtZ3
import Derived.Test.Qxb6613049aFmtM0
import Derived.Test.Qxb6613049aFmtR9
namespace Go.Proofs.Qxb6613049aFmt
open Go.RowKit

theorem fld_len (bs : List UInt8) (i j : Nat) : (fldOf bs i j).length ≤ bs.length := by
  unfold fldOf
  rw [List.length_take, List.length_drop]
  omega
theorem els_len (bs : List UInt8) (q : Bool) (s i : Nat) : ∀ x ∈ elsOf bs q s i, x.length ≤ bs.length := by
  intro x hx
  unfold elsOf at hx
  obtain ⟨y, _, rfl⟩ := List.mem_map.1 hx
  exact fld_len _ _ _
theorem els_count (bs : List UInt8) : ∀ (d i s : Nat) (q : Bool), bs.length - i ≤ d → 1 ≤ (elsOf bs q s i).length ∧ (elsOf bs q s i).length ≤ d + 1
  | 0, i, s, q, hd => by
    rw [els_end bs q s i (by omega)]
    simp
  | d + 1, i, s, q, hd => by
    by_cases h : i < bs.length
    · cases q with
      | true =>
        rw [els_t bs s i h]
        split
        · have := els_count bs d (i + 2) s true (by omega); omega
        · split
          · have := els_count bs d (i + 1) s false (by omega); omega
          · have := els_count bs d (i + 1) s true (by omega); omega
      | false =>
        rw [els_f bs s i h]
        split
        · have := els_count bs d (i + 1) s true (by omega); omega
        · split
          · have := els_count bs d (i + 1) (i + 1) false (by omega)
            rw [List.length_cons]
            omega
          · have := els_count bs d (i + 1) s false (by omega); omega
    · have := els_count bs 0 i s q (by omega)
      omega

/-- The names in an element are no longer than it is. -/
def nmOk (n : Nat) : Elem → Prop
  | none => True
  | some none => True
  | some (some (.inl (nm, _))) => nm.length ≤ n
  | some (some (.inr (.inl _))) => True
  | some (some (.inr (.inr (.inl _)))) => True
  | some (some (.inr (.inr (.inr (_, nm, _))))) => nm.length ≤ n
theorem cls_nm (e : List UInt8) (a b : Nat) : nmOk e.length (cls e a b) := by
  have h2 : ∀ i j k b, nmOk e.length (cls2 e i j k b) := by
    intro i j k b
    unfold cls2
    split
    · trivial
    · split
      · trivial
      · split
        · trivial
        · split
          · trivial
          · exact fld_len _ _ _
  unfold cls cls1
  split
  · trivial
  · split
    · trivial
    · split
      · trivial
      · split
        · split
          · trivial
          · exact fld_len _ _ _
        · split
          · trivial
          · exact h2 _ _ _ _

/-- The texts of the model's list are the model's. -/
def MCs (ms : List MC) (out : List Chal) : Prop := ms.map (fun m => (m.s, m.t, m.ns, m.vs)) = out.map (fun c => (c.scheme, c.tok, c.ps.map (fun x => x.1), c.ps.map (fun x => x.2)))
theorem MCs.push {ms : List MC} {out : List Chal} (h : MCs ms out) (m : MC) (c : Chal) (hc : (m.s, m.t, m.ns, m.vs) = (c.scheme, c.tok, c.ps.map (fun x => x.1), c.ps.map (fun x => x.2))) : MCs (ms ++ [m]) (out ++ [c]) := by
  unfold MCs at *
  rw [List.map_append, List.map_append, h]
  simp only [List.map_cons, List.map_nil, hc]
theorem MCs.last {mi : List MC} {m : MC} {out : List Chal} (h : MCs (mi ++ [m]) out) : ∃ ci c, out = ci ++ [c] ∧ MCs mi ci ∧ (m.s, m.t, m.ns, m.vs) = (c.scheme, c.tok, c.ps.map (fun x => x.1), c.ps.map (fun x => x.2)) := by
  unfold MCs at *
  have hne : out ≠ [] := by
    intro e
    subst e
    simp at h
  refine ⟨out.dropLast, out.getLast hne, (List.dropLast_concat_getLast hne).symm, ?_⟩
  rw [← List.dropLast_concat_getLast hne, List.map_append, List.map_append] at h
  simp only [List.map_cons, List.map_nil] at h
  exact app_one_inj h

/-- The model's state in memory: the list, and the names seen. -/
structure ZS (B C : Nat) (v : Value) (ms : List MC) (m : Nat) (ns : List (List UInt8)) (w1 w : World) : Prop where
  intro ::
  wm : WM B C v ms w
  cs : C ≤ w.heap.size
  mb : MB m ns w
  below : Below B w1 w
  bm : B ≤ m
  bs : B ≤ w.heap.size

theorem ZS.later {B C : Nat} {v : Value} {ms : List MC} {m : Nat} {ns : List (List UInt8)} {w1 w w' : World} (h : ZS B C v ms m ns w1 w) (hb : Below w.heap.size w w') : ZS B C v ms m ns w1 w' :=
  ⟨h.wm.same (fun g _ hl _ => hb.block g hl), Nat.le_trans h.cs hb.size, h.mb.same (hb.block m h.mb.lt), h.below.trans (hb.mono h.bs), h.bm, Nat.le_trans h.bs hb.size⟩

theorem MB.ne {m : Nat} {ns : List (List UInt8)} {w : World} (h : MB m ns w) {g : Nat} {cs : Array Value} {t : TypeId} {f : Nat × Nat} (hg : w.heap[g]? = some (.cells cs t f)) : g ≠ m := by
  intro e
  subst e
  obtain ⟨D, ⟨es, clock, hb, r⟩, h2⟩ := h
  rw [hb] at hg
  cases hg

/-- A name is marked as seen. -/
theorem ZS.seen {B C : Nat} {v : Value} {ms : List MC} {m : Nat} {ns : List (List UInt8)} {w1 w : World} (h : ZS B C v ms m ns w1 w) (k : List UInt8) (hk : k.length ≤ 4611686018427387904) (hn : ns.length < 4611686018427387904) :
    ∃ w', (Instr.mapUpdate 47 (.map (some m)) (.string (mk k)) (.bool true)).run Tryf.prog w = .ok () w' ∧ ZS B C v ms m (ns ++ [k]) w1 w' ∧ w'.heap.size = w.heap.size ∧ ∀ g, g ≠ m → w'.heap[g]? = w.heap[g]? := by
  obtain ⟨w', hr, hmb, ht⟩ := h.mb.store k hk hn
  have htt := turned_turn ht (fun k => k = m) w.heap.size (.inr rfl)
  have hs : w'.heap.size = w.heap.size := by
    obtain ⟨es, clock, es', clock', hb, rfl⟩ := ht
    simp [ChangeMaps.setBlock]
  have hall : ∀ g, g ≠ m → w'.heap[g]? = w.heap[g]? := by
    intro g hg
    by_cases hl : g < w.heap.size
    · exact htt.block g hl hg
    · rw [Array.getElem?_eq_none (by omega), Array.getElem?_eq_none (by omega)]
  refine ⟨w', hr, ⟨?_, by rw [hs]; exact h.cs, hmb, ?_, h.bm, by rw [hs]; exact h.bs⟩, hs, hall⟩
  · refine h.wm.same (fun g _ _ hg => hall g ?_)
    obtain ⟨cs, t, hc, _⟩ := hg
    exact h.mb.ne hc
  · exact h.below.trans ⟨htt.os, htt.tape, htt.output, htt.size, fun k hk => hall k (by have := h.bm; omega)⟩

/-- The loop of the model. -/
def zmRel (B : Nat) (els : List (List UInt8)) (T : Option (List Chal)) (w1 : World) (g : Nat) (t5 t6 t7 t8 : Value) (wr : World) : Prop :=
  ∃ (i : Nat) (o : Bool) (out : List Chal) (m : Nat) (ns : List (List UInt8)) (C : Nat) (ms : List MC), i + g = els.length ∧ t8 = .int .i64 i ∧ t6 = .bool o ∧ t7 = .map (some m) ∧ ZS B C t5 ms m ns w1 wr ∧ MCs ms out ∧
    (o = true → ∃ mi mc, ms = mi ++ [mc] ∧ ns = mc.ns) ∧ ms.length ≤ i ∧ ns.length ≤ i ∧ (∀ y ∈ ms, y.ns.length ≤ i ∧ y.vs.length ≤ i) ∧ run ((els.drop i).map (fun e => cls e 0 e.length)) o out = T

/-- The model's answer. -/
def zmPost (ts : List UInt8) (w : World) (e : Ending) (w' : World) : Prop :=
  Below w.heap.size w w' ∧
  ((∃ v out C ms, e = .returned (.tuple #[v, .bool true]) ∧ Mo ts 0 false [] = some out ∧ WM w.heap.size C v ms w' ∧ MCs ms out ∧ out.length ≤ 1048577 ∧ ∀ y ∈ ms, y.ns.length ≤ 1048577) ∨
   (e = .returned (.tuple #[.slice none 0 0, .bool false]) ∧ Mo ts 0 false [] = none))

theorem run_cons (x : Elem) (xs : List Elem) (o : Bool) (out : List Chal) : run (x :: xs) o out = match stepEl x o out with
    | none => none
    | some (o', out') => run xs o' out' := rfl
theorem own_lower {w : World} {B B' : Nat} {e : TypeId} {k n : Nat} {v : Value} {xs : List Value} (h : w.ownsRow B e k v n xs) (hB : B' ≤ B) : w.ownsRow B' e k v n xs := by
  refine ⟨h.1, ?_⟩
  rcases h.2 with h0 | ⟨g, cap, cur, h1, h2, h3⟩
  · exact .inl h0
  · exact .inr ⟨g, cap, cur, h1, Nat.le_trans hB h2, h3⟩
theorem WM.mono {B B' C : Nat} {v : Value} {ms : List MC} {w : World} (h : WM B C v ms w) (hB : B' ≤ B) : WM B' C v ms w :=
  ⟨own_lower h.row hB, fun m hm => ⟨own_lower (h.rows m hm).1 hB, own_lower (h.rows m hm).2 hB⟩, h.low, h.high, h.two⟩

end Go.Proofs.Qxb6613049aFmt
