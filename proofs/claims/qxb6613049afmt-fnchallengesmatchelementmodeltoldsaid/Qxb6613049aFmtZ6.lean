import Derived.Test.Qxb6613049aFmtZ5
import Derived.Test.Qxb6613049aFmtG1
namespace Go.Proofs.Qxb6613049aFmt
open Go.RowKit

theorem info9 : Tryf.prog.info? 9 = some Tryf.t9 := by kernel_rfl

/-- An append of one text to a row of texts: the row stays where it lay, or is new. -/
theorem append_str (w : World) (base : Nat) (v : Value) (n : Nat) (xs : List Value) (hown : w.ownsRow base 9 1 v n xs) (a : Addr) (x : ByteArray) (ty : TypeId) (hx : w.cell? a = some (.string x)) (hn : n ≤ 4194304) (hbase : base ≤ w.heap.size) :
    ∃ v' w', (Builtin.append_ #[22, 22] ty #[v, .slice (some a) 1 1]).run Tryf.prog w = .ok v' w' ∧ w'.ownsRow base 9 1 v' (n + 1) (xs ++ [.string x]) ∧ w.grownBy w' v.ownBlock ∧ (∀ g, v'.ownBlock = some g → v.ownBlock = some g ∨ w.heap.size ≤ g) := by
  have hcell : ∀ j u, ([.string x] : List Value)[j]? = some u → w.cell? (a.add j) = some u := by
    intro j u hj
    match j, hj with
    | 0, hj =>
      simp at hj
      subst hj
      rw [show a.add 0 = a from by unfold Addr.add; split <;> simp_all]
      exact hx
  have hone : ∀ u ∈ ([.string x] : List Value), u.oneCell' = true := by
    intro u hu
    simp at hu
    subst hu
    rfl
  obtain ⟨v', w', hr, ho, hg, hnil⟩ := run_append_own (P := Tryf.prog) w base 22 ty 9 Tryf.t9 _ 1 16 Tryf.underlying22 info9 rfl rfl rfl rfl (by decide) v n xs hown a 1 1 [.string x] rfl hcell hone (by unfold maxLen; omega) (by omega) hbase
  refine ⟨v', w', hr, ho, hg, ?_⟩
  rcases hown.2 with ⟨rfl, rfl⟩ | ⟨g, cap, cur, rfl, hbg, hgg, hnc, hcm, hcs, htk⟩
  · have hx0 : xs = [] := List.eq_nil_of_length_eq_zero (by simpa using hown.1)
    subst hx0
    obtain ⟨v2, w2, hr2, ho2, _⟩ := run_append_own (P := Tryf.prog) w w.heap.size 22 ty 9 Tryf.t9 _ 1 16 Tryf.underlying22 info9 rfl rfl rfl rfl (by decide) (.slice none 0 0) 0 [] (World.ownsRow_nil _ _ _ _) a 1 1 [.string x] rfl hcell hone (by unfold maxLen; omega) (by omega) (Nat.le_refl _)
    rw [hr] at hr2
    injection hr2 with e1 e2
    subst e1 e2
    exact fun g hg => .inr (ho2.lt g hg).1
  · by_cases hroom : n + 1 ≤ cap
    · obtain ⟨w2, hr2, _⟩ := run_append_fits (P := Tryf.prog) w base 22 ty 9 Tryf.t9 1 Tryf.underlying22 info9 rfl g n cap xs hown a 1 1 [.string x] rfl hcell hone hroom
      rw [hr] at hr2
      injection hr2 with e1 e2
      subst e1
      exact fun g' hg' => .inl hg'
    · have hr2 := run_append_grow (P := Tryf.prog) w 22 ty 9 Tryf.t9 (.string ⟨#[]⟩) Tryf.underlying22 info9 rfl ⟨g, 0, none⟩ n cap xs hown.1 (hown.cells rfl) a 1 1 [.string x] rfl hcell (by omega) (by omega) (growslice_fits (by omega) (by show (n + 1) * 16 ≤ _; omega))
      rw [hr] at hr2
      injection hr2 with e1 e2
      subst e1
      refine fun g' hg' => .inr ?_
      simp [Value.ownBlock] at hg'
      omega

/-- A challenge of the model in memory: its texts, its names and values, and the two rows that hold them. -/
structure MC where
  s : List UInt8
  t : List UInt8
  ns : List (List UInt8)
  vs : List (List UInt8)
  vn : Value
  vv : Value

def mcCells (ms : List MC) : List Value := ms.flatMap fun m => [.string (mk m.s), .string (mk m.t), m.vn, m.vv]
theorem mcCells_length (ms : List MC) : (mcCells ms).length = ms.length * 4 := by
  unfold mcCells
  induction ms with
  | nil => rfl
  | cons p pr ih => rw [List.flatMap_cons, List.length_append, ih, List.length_cons]; simp; omega
theorem mcCells_push (ms : List MC) (m : MC) : mcCells (ms ++ [m]) = mcCells ms ++ [.string (mk m.s), .string (mk m.t), m.vn, m.vv] := by
  unfold mcCells
  rw [List.flatMap_append]
  rfl
def MC.block (m : MC) (g : Nat) : Prop := m.vn.ownBlock = some g ∨ m.vv.ownBlock = some g

/-- The model's list in memory: its row, each challenge's rows; the last one's rows lie above C, all others' below, and are two. -/
structure WM (B C : Nat) (v : Value) (ms : List MC) (w : World) : Prop where
  intro ::
  row : w.ownsRow B 41 4 v ms.length (mcCells ms)
  rows : ∀ m ∈ ms, w.ownsRow B 9 1 m.vn m.ns.length (strCells m.ns) ∧ w.ownsRow B 9 1 m.vv m.vs.length (strCells m.vs)
  low : ∀ mi m, ms = mi ++ [m] → ∀ y ∈ mi, ∀ g, y.block g → g < C
  high : ∀ mi m, ms = mi ++ [m] → ∀ g, m.block g → C ≤ g
  two : ∀ mi m, ms = mi ++ [m] → ∀ g, m.vn.ownBlock = some g → m.vv.ownBlock ≠ some g

theorem WM.nil (B C : Nat) (w : World) : WM B C (.slice none 0 0) [] w :=
  ⟨World.ownsRow_nil _ _ _ _, fun m hm => by simp at hm, fun mi m e => by simp at e, fun mi m e => by simp at e, fun mi m e => by simp at e⟩

/-- Two owned rows of different element types lie in two blocks. -/
theorem own_ne {w : World} {B B' : Nat} {e e' : TypeId} {k k' n n' : Nat} {v v' : Value} {xs xs' : List Value} (h : w.ownsRow B e k v n xs) (h' : w.ownsRow B' e' k' v' n' xs') (hne : e ≠ e') (g : Nat) (hg : v.ownBlock = some g) : v'.ownBlock ≠ some g := by
  intro hg'
  rcases h.2 with ⟨rfl, _⟩ | ⟨g1, cap, cur, rfl, _, hgg, _⟩
  · simp [Value.ownBlock] at hg
  · rcases h'.2 with ⟨rfl, _⟩ | ⟨g2, cap2, cur2, rfl, _, hgg2, _⟩
    · simp [Value.ownBlock] at hg'
    · simp [Value.ownBlock] at hg hg'
      subst hg hg'
      rw [hgg] at hgg2
      injection hgg2 with h1
      injection h1 with _ h2
      exact hne h2

theorem kept_block {w w' : World} {B : Nat} {e : TypeId} {k n : Nat} {v : Value} {xs : List Value} (h : w.ownsRow B e k v n xs) (hs : ∀ g, v.ownBlock = some g → w'.heap[g]? = w.heap[g]?) : w'.ownsRow B e k v n xs := by
  refine ⟨h.1, ?_⟩
  rcases h.2 with hn | ⟨g, cap, cur, rfl, hb, hgg, rest⟩
  · exact .inl hn
  · exact .inr ⟨g, cap, cur, rfl, hb, (hs g rfl).trans hgg, rest⟩

theorem WM.same {B C : Nat} {v : Value} {ms : List MC} {w w' : World} (h : WM B C v ms w) (hs : ∀ g, B ≤ g → g < w.heap.size → (∃ cs t, w.heap[g]? = some (.cells cs t (0, 0)) ∧ (t = 41 ∨ t = 9)) → w'.heap[g]? = w.heap[g]?) : WM B C v ms w' := by
  have hk : ∀ {e : TypeId} {k n : Nat} {v : Value} {xs : List Value}, w.ownsRow B e k v n xs → (e = 41 ∨ e = 9) → w'.ownsRow B e k v n xs := by
    intro e k n v xs ho he
    refine kept_block ho (fun g hg => hs g (ho.lt g hg).1 (ho.lt g hg).2 ?_)
    rcases ho.2 with ⟨rfl, _⟩ | ⟨g1, cap, cur, rfl, _, hgg, _⟩
    · simp [Value.ownBlock] at hg
    · simp [Value.ownBlock] at hg
      subst hg
      exact ⟨cur, e, hgg, he⟩
  exact ⟨hk h.row (.inl rfl), fun m hm => ⟨hk (h.rows m hm).1 (.inr rfl), hk (h.rows m hm).2 (.inr rfl)⟩, h.low, h.high, h.two⟩

theorem app_one_inj {α : Type} {xs ys : List α} {x y : α} (h : xs ++ [x] = ys ++ [y]) : xs = ys ∧ x = y := by
  have h1 := congrArg List.dropLast h
  rw [List.dropLast_concat, List.dropLast_concat] at h1
  subst h1
  have h2 := List.append_cancel_left h
  simp at h2
  exact ⟨rfl, h2⟩

/-- A challenge more. -/
theorem WM.push {B C C' : Nat} {v v' : Value} {ms : List MC} {w w2 : World} (m : MC) (X : Obj) (h : WM B C v ms w) (hC : ∀ y ∈ ms, ∀ g, y.block g → g < C')
    (hm : w.ownsRow B 9 1 m.vn m.ns.length (strCells m.ns) ∧ w.ownsRow B 9 1 m.vv m.vs.length (strCells m.vs)) (hh : ∀ g, m.block g → C' ≤ g) (ht : ∀ g, m.vn.ownBlock = some g → m.vv.ownBlock ≠ some g)
    (ho : w2.ownsRow B 41 4 v' (ms.length + 1) (mcCells ms ++ [.string (mk m.s), .string (mk m.t), m.vn, m.vv])) (hg : (w.alloc X).grownBy w2 v.ownBlock) : WM B C' v' (ms ++ [m]) w2 := by
  have hk : ∀ {n : Nat} {u : Value} {xs : List Value}, w.ownsRow B 9 1 u n xs → w2.ownsRow B 9 1 u n xs := by
    intro n u xs hu
    refine (hu.alloc X).kept hg ?_
    cases hub : u.ownBlock with
    | none => exact .inl rfl
    | some g => exact .inr (fun e => own_ne hu h.row (by decide) g hub e.symm)
  refine ⟨by rw [mcCells_push, List.length_append, List.length_singleton]; exact ho, ?_, ?_, ?_, ?_⟩
  · intro y hy
    rcases List.mem_append.1 hy with hy | hy
    · exact ⟨hk (h.rows y hy).1, hk (h.rows y hy).2⟩
    · simp at hy
      subst hy
      exact ⟨hk hm.1, hk hm.2⟩
  · intro mi m2 e y hy
    obtain ⟨rfl, rfl⟩ := app_one_inj e
    exact hC y hy
  · intro mi m2 e
    obtain ⟨rfl, rfl⟩ := app_one_inj e
    exact hh
  · intro mi m2 e
    obtain ⟨rfl, rfl⟩ := app_one_inj e
    exact ht

theorem mc_set (mi : List MC) (m : MC) (u : Value) : (mcCells (mi ++ [m])).set (4 * mi.length + 2) u = mcCells (mi ++ [{ m with vn := u }]) ∧ (mcCells (mi ++ [m])).set (4 * mi.length + 3) u = mcCells (mi ++ [{ m with vv := u }]) := by
  rw [mcCells_push, mcCells_push, mcCells_push]
  have hl : (mcCells mi).length = 4 * mi.length := by rw [mcCells_length]; omega
  constructor
  · rw [List.set_append_right _ _ (by omega), hl, show 4 * mi.length + 2 - 4 * mi.length = 2 from by omega]
    rfl
  · rw [List.set_append_right _ _ (by omega), hl, show 4 * mi.length + 3 - 4 * mi.length = 3 from by omega]
    rfl

/-- A name more at the last one. -/
theorem WM.name {B C : Nat} {g cap : Nat} {mi : List MC} {m : MC} {w w2 : World} {vn' : Value} {x : List UInt8} (X : Obj) (h : WM B C (.slice (some ⟨g, 0, none⟩) (mi.length + 1) cap) (mi ++ [m]) w) (hC : C ≤ w.heap.size)
    (ho : w2.ownsRow B 9 1 vn' (m.ns.length + 1) (strCells m.ns ++ [.string (mk x)])) (hg : (w.alloc X).grownBy w2 m.vn.ownBlock) (hf : ∀ g, vn'.ownBlock = some g → m.vn.ownBlock = some g ∨ w.heap.size ≤ g) :
    WM B C (.slice (some ⟨g, 0, none⟩) (mi.length + 1) cap) (mi ++ [{ m with ns := m.ns ++ [x], vn := vn' }]) (w2.setCell ⟨g, 4 * mi.length + 2, none⟩ vn') := by
  have hrow := h.row
  rw [List.length_append, List.length_singleton] at hrow
  have hm := h.rows m (by simp)
  have hgb : (Value.slice (some ⟨g, 0, none⟩) (mi.length + 1) cap).ownBlock = some g := rfl
  have hrow2 : w2.ownsRow B 41 4 (.slice (some ⟨g, 0, none⟩) (mi.length + 1) cap) (mi.length + 1) (mcCells (mi ++ [m])) := by
    refine (hrow.alloc X).kept hg (.inr ?_)
    rw [hgb]
    intro e
    exact own_ne hm.1 hrow (by decide) g e.symm rfl
  have hset := (hrow2.stored (4 * mi.length + 2) vn').1
  rw [(mc_set mi m vn').1] at hset
  have hk : ∀ {n : Nat} {u : Value} {xs : List Value}, w.ownsRow B 9 1 u n xs → (∀ g, u.ownBlock = some g → m.vn.ownBlock ≠ some g) → (w2.setCell ⟨g, 4 * mi.length + 2, none⟩ vn').ownsRow B 9 1 u n xs := by
    intro n u xs hu hne
    have h1 : w2.ownsRow B 9 1 u n xs := by
      refine (hu.alloc X).kept hg ?_
      cases hub : u.ownBlock with
      | none => exact .inl rfl
      | some g' => exact .inr (fun e => hne g' hub e.symm)
    refine kept_block h1 (fun g' hg' => Below.heap_setCell _ _ _ _ ?_)
    intro e
    exact own_ne h1 hrow2 (by decide) g' hg' (by rw [hgb]; exact congrArg some e.symm)
  have hown' : (w2.setCell ⟨g, 4 * mi.length + 2, none⟩ vn').ownsRow B 9 1 vn' (m.ns.length + 1) (strCells m.ns ++ [.string (mk x)]) := by
    refine kept_block ho (fun g' hg' => Below.heap_setCell _ _ _ _ ?_)
    intro e
    exact own_ne ho hrow2 (by decide) g' hg' (by rw [hgb]; exact congrArg some e.symm)
  refine ⟨?_, ?_, ?_, ?_, ?_⟩
  · have e : mcCells (mi ++ [{ m with ns := m.ns ++ [x], vn := vn' }]) = mcCells (mi ++ [{ m with vn := vn' }]) := by rw [mcCells_push, mcCells_push]
    rw [e, List.length_append, List.length_singleton]
    exact hset
  · intro y hy
    rcases List.mem_append.1 hy with hy | hy
    · have hr := h.rows y (by simp [hy])
      have hne : ∀ g, y.block g → m.vn.ownBlock ≠ some g := fun g hg e => by
        have h1 := h.low mi m rfl y hy g hg
        have h2 := h.high mi m rfl g (.inl e)
        omega
      exact ⟨hk hr.1 (fun g hg => hne g (.inl hg)), hk hr.2 (fun g hg => hne g (.inr hg))⟩
    · simp at hy
      subst hy
      refine ⟨?_, hk hm.2 (fun g hg e => h.two mi m rfl g e hg)⟩
      show (w2.setCell _ _).ownsRow B 9 1 vn' (m.ns ++ [x]).length (strCells (m.ns ++ [x]))
      rw [List.length_append, List.length_singleton, ← strCells_push]
      exact hown'
  · intro mi2 m2 e y hy
    obtain ⟨rfl, rfl⟩ := app_one_inj e
    exact h.low mi m rfl y hy
  · intro mi2 m2 e g' hg'
    obtain ⟨rfl, rfl⟩ := app_one_inj e
    rcases hg' with hg' | hg'
    · rcases hf g' hg' with h1 | h1
      · exact h.high mi m rfl g' (.inl h1)
      · omega
    · exact h.high mi m rfl g' (.inr hg')
  · intro mi2 m2 e g' hg' hg2
    obtain ⟨rfl, rfl⟩ := app_one_inj e
    rcases hf g' hg' with h1 | h1
    · exact h.two mi m rfl g' h1 hg2
    · have := (hm.2.lt g' hg2).2
      omega

/-- A value more at the last one. -/
theorem WM.value {B C : Nat} {g cap : Nat} {mi : List MC} {m : MC} {w w2 : World} {vv' : Value} {x : List UInt8} (X : Obj) (h : WM B C (.slice (some ⟨g, 0, none⟩) (mi.length + 1) cap) (mi ++ [m]) w) (hC : C ≤ w.heap.size)
    (ho : w2.ownsRow B 9 1 vv' (m.vs.length + 1) (strCells m.vs ++ [.string (mk x)])) (hg : (w.alloc X).grownBy w2 m.vv.ownBlock) (hf : ∀ g, vv'.ownBlock = some g → m.vv.ownBlock = some g ∨ w.heap.size ≤ g) :
    WM B C (.slice (some ⟨g, 0, none⟩) (mi.length + 1) cap) (mi ++ [{ m with vs := m.vs ++ [x], vv := vv' }]) (w2.setCell ⟨g, 4 * mi.length + 3, none⟩ vv') := by
  have hrow := h.row
  rw [List.length_append, List.length_singleton] at hrow
  have hm := h.rows m (by simp)
  have hgb : (Value.slice (some ⟨g, 0, none⟩) (mi.length + 1) cap).ownBlock = some g := rfl
  have hrow2 : w2.ownsRow B 41 4 (.slice (some ⟨g, 0, none⟩) (mi.length + 1) cap) (mi.length + 1) (mcCells (mi ++ [m])) := by
    refine (hrow.alloc X).kept hg (.inr ?_)
    rw [hgb]
    intro e
    exact own_ne hm.2 hrow (by decide) g e.symm rfl
  have hset := (hrow2.stored (4 * mi.length + 3) vv').1
  rw [(mc_set mi m vv').2] at hset
  have hk : ∀ {n : Nat} {u : Value} {xs : List Value}, w.ownsRow B 9 1 u n xs → (∀ g, u.ownBlock = some g → m.vv.ownBlock ≠ some g) → (w2.setCell ⟨g, 4 * mi.length + 3, none⟩ vv').ownsRow B 9 1 u n xs := by
    intro n u xs hu hne
    have h1 : w2.ownsRow B 9 1 u n xs := by
      refine (hu.alloc X).kept hg ?_
      cases hub : u.ownBlock with
      | none => exact .inl rfl
      | some g' => exact .inr (fun e => hne g' hub e.symm)
    refine kept_block h1 (fun g' hg' => Below.heap_setCell _ _ _ _ ?_)
    intro e
    exact own_ne h1 hrow2 (by decide) g' hg' (by rw [hgb]; exact congrArg some e.symm)
  have hown' : (w2.setCell ⟨g, 4 * mi.length + 3, none⟩ vv').ownsRow B 9 1 vv' (m.vs.length + 1) (strCells m.vs ++ [.string (mk x)]) := by
    refine kept_block ho (fun g' hg' => Below.heap_setCell _ _ _ _ ?_)
    intro e
    exact own_ne ho hrow2 (by decide) g' hg' (by rw [hgb]; exact congrArg some e.symm)
  refine ⟨?_, ?_, ?_, ?_, ?_⟩
  · have e : mcCells (mi ++ [{ m with vs := m.vs ++ [x], vv := vv' }]) = mcCells (mi ++ [{ m with vv := vv' }]) := by rw [mcCells_push, mcCells_push]
    rw [e, List.length_append, List.length_singleton]
    exact hset
  · intro y hy
    rcases List.mem_append.1 hy with hy | hy
    · have hr := h.rows y (by simp [hy])
      have hne : ∀ g, y.block g → m.vv.ownBlock ≠ some g := fun g hg e => by
        have h1 := h.low mi m rfl y hy g hg
        have h2 := h.high mi m rfl g (.inr e)
        omega
      exact ⟨hk hr.1 (fun g hg => hne g (.inl hg)), hk hr.2 (fun g hg => hne g (.inr hg))⟩
    · simp at hy
      subst hy
      refine ⟨hk hm.1 (fun g hg e => h.two mi m rfl g hg e), ?_⟩
      show (w2.setCell _ _).ownsRow B 9 1 vv' (m.vs ++ [x]).length (strCells (m.vs ++ [x]))
      rw [List.length_append, List.length_singleton, ← strCells_push]
      exact hown'
  · intro mi2 m2 e y hy
    obtain ⟨rfl, rfl⟩ := app_one_inj e
    exact h.low mi m rfl y hy
  · intro mi2 m2 e g' hg'
    obtain ⟨rfl, rfl⟩ := app_one_inj e
    rcases hg' with hg' | hg'
    · exact h.high mi m rfl g' (.inl hg')
    · rcases hf g' hg' with h1 | h1
      · exact h.high mi m rfl g' (.inr h1)
      · omega
  · intro mi2 m2 e g' hg' hg2
    obtain ⟨rfl, rfl⟩ := app_one_inj e
    rcases hf g' hg2 with h1 | h1
    · exact h.two mi m rfl g' hg' h1
    · have := (hm.1.lt g' hg').2
      omega

end Go.Proofs.Qxb6613049aFmt
