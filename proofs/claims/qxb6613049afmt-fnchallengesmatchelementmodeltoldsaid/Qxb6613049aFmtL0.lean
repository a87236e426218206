import Derived.Test.Qxb6613049aFmtZ5
import Derived.Test.Qxb6613049aFmtG0
import Derived.Lib.SliceRun
namespace Go.Proofs.Qxb6613049aFmt
open Go.RowKit

/-- A slice of strings that came in. -/
structure SS (w : World) (a0 : Option Addr) (n cap b off : Nat) (xs : List ByteArray) : Prop where
  intro ::
  len : xs.length = n
  nil : a0 = none → n = 0 ∧ cap = 0
  cap : n ≤ cap
  addr : 0 < n → a0 = some ⟨b, off, none⟩
  cell : ∀ j, j < n → w.cell? ⟨b, off + j, none⟩ = some (.string (xs.getD j ⟨#[]⟩))

theorem SS.at {w : World} {a0 : Option Addr} {n cap b off : Nat} {xs : List ByteArray} (h : SS w a0 n cap b off xs) (j : Nat) (hj : j < n) : a0 = some ⟨b, off, none⟩ := h.addr (by omega)

def anyBool (e : Ending) : Prop := ∃ r, e = .returned (.bool r)
theorem anyBool_mk (r : Bool) : anyBool (.returned (.bool r)) := ⟨r, rfl⟩
/-- Where the loops over the lengths stand. -/
def lnRel (n lim : Nat) (g : Nat) (t9 t10 : Value) (w wr : World) : Prop := ∃ (k z : Nat), k + g = n ∧ t10 = .int .i64 k ∧ t9 = .int .i64 z ∧ z ≤ lim ∧ wr = w

set_option maxHeartbeats 2000000 in
set_option maxRecDepth 100000 in
theorem zzBytes_any (s : ByteArray) (x1 x2 : Value) (a0 : Option Addr) (n cap b off : Nat) (xs : List ByteArray) (w : World) (h : SS w a0 n cap b off xs) :
    Calls Tryf.prog 5 #[.string s, x1, x2, .slice a0 n cap] w fun e w' => anyBool e ∧ w' = w := by
  by_cases c1 : 1048576 < s.size
  · have d1 : (1048576 : Int) < (s.size : Int) := by omega
    go_enter Tryf.func5, Tryf.ntmps5
    go_wp2
    go_ret
    exact ⟨anyBool_mk _, rfl⟩
  · have d1 : ¬ ((1048576 : Int) < (s.size : Int)) := by omega
    have s2 : s.size ≤ 1048576 := by omega
    clear c1
    by_cases c2 : 1048576 < n
    · have d2 : (1048576 : Int) < (n : Int) := by omega
      go_enter Tryf.func5, Tryf.ntmps5
      go_wp2
      go_ret
      exact ⟨anyBool_mk _, rfl⟩
    · have d2 : ¬ ((1048576 : Int) < (n : Int)) := by omega
      have n2 : n ≤ 1048576 := by omega
      clear c2
      by_cases c3 : 1048576 < s.size + n
      · have d3 : (1048576 : Int) < (s.size : Int) + (n : Int) := by omega
        go_enter Tryf.func5, Tryf.ntmps5
        go_wp2
        go_ret
        exact ⟨anyBool_mk _, rfl⟩
      · have d3 : ¬ ((1048576 : Int) < (s.size : Int) + (n : Int)) := by omega
        have H := hide h
        clear h
        go_enter Tryf.func5, Tryf.ntmps5
        go_wp2
        go_loopg [9, 10] n (fun g t9 t10 wr => lnRel n 1048576 g t9 t10 w wr)
        case atStart => exact ⟨0, s.size + n, by omega, rfl, by go_num, by omega, rfl⟩
        case round =>
          obtain ⟨k, z, hkg, rfl, rfl, hz, rfl⟩ := hrel
          have Hg := hide hkg
          have hkn : k ≤ n := by omega
          clear hkg
          by_cases hk : k < n
          · have hlt : (k : Int) < (n : Int) := by omega
            have hA := H.out.at k hk
            have hc := H.out.cell k hk
            subst hA
            generalize xs.getD k ⟨#[]⟩ = x at hc
            by_cases e1 : 1048576 < x.size
            · have e1' : (1048576 : Int) < (x.size : Int) := by omega
              go_wp2
              go_ret
              exact ⟨anyBool_mk _, rfl⟩
            · have e1' : ¬ ((1048576 : Int) < (x.size : Int)) := by omega
              by_cases e2 : 1048576 < z + x.size
              · have e2' : (1048576 : Int) < (z : Int) + (x.size : Int) := by omega
                go_wp2
                go_ret
                exact ⟨anyBool_mk _, rfl⟩
              · have e2' : ¬ ((1048576 : Int) < (z : Int) + (x.size : Int)) := by omega
                go_wp2
                go_roundg (n - (k + 1))
                case measure => have := Hg.out; omega
                case rel => exact ⟨k + 1, z + x.size, by omega, by go_num, by go_num, by omega, rfl⟩
          · have hlt : ¬ ((k : Int) < (n : Int)) := by omega
            go_wp2
            go_ret
            exact ⟨anyBool_mk _, rfl⟩

theorem reader_new (bs : List UInt8) (p r : Nat) (w : World) : Calls Tryf.prog 8 #[.string (mk bs), .int .i64 p, .int .i64 r] w fun e w' => e = .returned (.pointer (some ⟨w.heap.size, 0, none⟩)) ∧ w' = w.alloc (.cells #[.string (mk bs), .int .i64 p, .int .i64 r] 53) := by
  go_enter Tryf.func8, Tryf.ntmps8
  go_wp2
  go_ret
  exact ⟨rfl, rfl⟩
theorem reader_pos (b : Nat) (bs : List UInt8) (p r : Nat) (w : World) (h : RD b bs p r w) : Calls Tryf.prog 11 #[.pointer (some ⟨b, 0, none⟩)] w fun e w' => e = .returned (.int .i64 p) ∧ w' = w := by
  obtain ⟨g0, g1, g2, gf1, gf2⟩ := h
  go_enter Tryf.func11, Tryf.ntmps11
  go_wp2
  go_ret
  exact ⟨rfl, rfl⟩
theorem reader_reads (b : Nat) (bs : List UInt8) (p r : Nat) (w : World) (h : RD b bs p r w) : Calls Tryf.prog 12 #[.pointer (some ⟨b, 0, none⟩)] w fun e w' => e = .returned (.int .i64 r) ∧ w' = w := by
  obtain ⟨g0, g1, g2, gf1, gf2⟩ := h
  go_enter Tryf.func12, Tryf.ntmps12
  go_wp2
  go_ret
  exact ⟨rfl, rfl⟩

/-- Strings as cells. -/
def baCells (xs : List ByteArray) : List Value := xs.map Value.string

/-- Where zzCloneStrings's loop stands. -/
def csRel (xs : List ByteArray) (w : World) (g : Nat) (t : Value) (wr : World) : Prop :=
  ∃ (k : Nat) (ys : List ByteArray), k + g = xs.length ∧ t = .int .i64 k ∧ ys.length = xs.length ∧ wr.ownsRow w.heap.size 9 1 (.slice (some ⟨w.heap.size, 0, none⟩) xs.length xs.length) xs.length (baCells ys) ∧ Below w.heap.size w wr ∧ ys.take k = xs.take k
theorem cs_step (xs : List ByteArray) (w wr : World) (k : Nat) (ys : List ByteArray) (y : Int) (hk : k < xs.length) (hyl : ys.length = xs.length)
    (ho : wr.ownsRow w.heap.size 9 1 (.slice (some ⟨w.heap.size, 0, none⟩) xs.length xs.length) xs.length (baCells ys)) (hb : Below w.heap.size w wr) (ht : ys.take k = xs.take k) (hy : y = (k : Int) + 1) :
    csRel xs w (xs.length - (k + 1)) (.int .i64 y) (wr.setCell ⟨w.heap.size, k, none⟩ (.string (xs.getD k ⟨#[]⟩))) := by
  subst hy
  refine ⟨k + 1, ys.set k (xs.getD k ⟨#[]⟩), by omega, by rfl, by rw [List.length_set]; exact hyl, ?_, hb.setCell (p := ⟨w.heap.size, k, none⟩) (Nat.le_refl _) _, ?_⟩
  · have e : baCells (ys.set k (xs.getD k ⟨#[]⟩)) = (baCells ys).set k (.string (xs.getD k ⟨#[]⟩)) := by unfold baCells; rw [List.map_set]
    rw [e]
    exact (ho.stored k _).1
  · have h1 : xs[k]? = some (xs.getD k ⟨#[]⟩) := by rw [List.getD_eq_getElem?_getD, List.getElem?_eq_getElem hk]; rfl
    rw [List.take_add_one, List.take_set_of_le (Nat.le_refl _), ht, List.take_add_one, h1, List.getElem?_set_self (by omega)]

set_option maxHeartbeats 2000000 in
set_option maxRecDepth 100000 in
theorem clone_any (a0 : Option Addr) (n cap b off : Nat) (xs : List ByteArray) (w : World) (h : SS w a0 n cap b off xs) (hn : n ≤ 65536) (hb : 0 < n → b < w.heap.size) :
    Calls Tryf.prog 6 #[.slice a0 n cap] w fun e w' => ∃ v, e = .returned v ∧ w'.ownsRow w.heap.size 9 1 v n (baCells xs) ∧ (v = .slice none 0 0 ↔ a0 = none) ∧ Below w.heap.size w w' := by
  have hl := h.len
  subst hl
  have hsn := fun (w : World) (a : Option Addr) (n c : Nat) => Lib.run_eql_slice_nil (P := Tryf.prog) w 22 9 a n c 0 0 Tryf.underlying22
  cases a0 with
  | none =>
    obtain ⟨h1, h2⟩ := h.nil rfl
    have hx : xs = [] := List.eq_nil_of_length_eq_zero h1
    subst hx h2
    clear h
    go_enter Tryf.func6, Tryf.ntmps6
    go_wp2
    go_ret
    exact ⟨_, rfl, World.ownsRow_nil _ _ _ _, by simp, Below.refl _ _⟩
  | some a =>
    have hi9 : Tryf.prog.info? 9 = some Tryf.t9 := by kernel_rfl
    obtain ⟨w1, hmk, hown, hgr⟩ := run_make_full (P := Tryf.prog) w w.heap.size 22 9 Tryf.t9 (.string ⟨#[]⟩) 1 Tryf.underlying22 hi9 rfl rfl .i64 .i64 xs.length (by show 16 * xs.length ≤ _; omega) (by unfold maxLen; omega) (Nat.le_refl _)
    have HO : Hid (w1.ownsRow w.heap.size 9 1 (.slice (some ⟨w.heap.size, 0, none⟩) xs.length xs.length) xs.length (baCells (List.replicate xs.length ⟨#[]⟩))) := by
      have e : (madeCells (Value.string ⟨#[]⟩).cells (xs.length * 1)).toList = baCells (List.replicate xs.length ⟨#[]⟩) := by
        show (madeCells #[Value.string ⟨#[]⟩] (xs.length * 1)).toList = _
        rw [toList_madeCells_one, Nat.mul_one]
        unfold baCells
        rw [List.map_replicate]
      rw [e] at hown
      exact hown
    have HB := hide ((Below.refl w.heap.size w).grown hgr (Nat.le_refl _) (fun k hk => by cases hk))
    have H := hide h
    clear hown hgr h
    go_enter Tryf.func6, Tryf.ntmps6
    go_wp2
    go_loopg [4] xs.length (fun g t wr => csRel xs w g t wr)
    case atStart => exact ⟨0, _, by omega, rfl, by simp, HO.out, HB.out, by simp⟩
    case round =>
      obtain ⟨k, ys, hkg, rfl, hyl, hown, hbel, htk⟩ := hrel
      have KO := hide hown
      have KB := hide hbel
      have KT := hide htk
      have KL := hide hyl
      have Kg := hide hkg
      have hkn : k ≤ xs.length := by omega
      clear hown hbel htk hyl hkg hmk HO HB
      by_cases hk : k < xs.length
      · have hlt : (k : Int) < (xs.length : Int) := by omega
        have hA := H.out.at k hk
        injection hA with hA
        subst hA
        have hc0 := H.out.cell k hk
        have hc : wr.cell? ⟨b, off + k, none⟩ = some (.string (xs.getD k ⟨#[]⟩)) := (KB.out.cell (p := ⟨b, off + k, none⟩) (hb (by omega))).trans hc0
        clear hc0
        generalize hxk : xs.getD k ⟨#[]⟩ = x at hc
        have HXK := hide hxk
        clear hxk
        have hcell : wr.cell? ⟨w.heap.size, k, none⟩ = some (.string (ys.getD k ⟨#[]⟩)) := by
          have h1 : k < ys.length := by rw [KL.out]; exact hk
          rw [KO.out.cellAt k (by omega)]
          unfold baCells
          rw [List.getElem?_map, List.getD_eq_getElem?_getD, List.getElem?_eq_getElem h1]
          rfl
        have hfr := KO.out.frozenAt k
        go_wp2
        go_roundg (xs.length - (k + 1))
        case measure => have := Kg.out; omega
        case rel =>
          have h9 := cs_step xs w wr k ys _ hk KL.out KO.out KB.out KT.out rfl
          rw [HXK.out] at h9
          exact h9
      · have hlt : decide (k < xs.length) = false := by simp; omega
        have hxs : Hid (ys = xs) := by
          have h1 := KT.out
          rw [List.take_of_length_le (by rw [KL.out]; omega), List.take_of_length_le (by omega)] at h1
          exact h1
        go_wp2
        go_ret
        refine ⟨_, rfl, ?_, by simp, KB.out⟩
        have h2 := KO.out
        rw [hxs.out] at h2
        exact h2

/-- Where zzPriorChallenges's loop stands. -/
def pcRel (xs : List ByteArray) (w : World) (g : Nat) (t : Value) (wr : World) : Prop :=
  ∃ (k : Nat) (ys : List Value), k + g = xs.length ∧ t = .int .i64 k ∧ ys.length = xs.length * 3 ∧ wr.ownsRow w.heap.size 39 3 (.slice (some ⟨w.heap.size, 0, none⟩) xs.length xs.length) xs.length ys ∧ Below w.heap.size w wr ∧ ys.take (k * 3) = prCells (xs.take k)
theorem take3_set (ys : List Value) (k : Nat) (a b c : Value) (h : k * 3 + 3 ≤ ys.length) : (((ys.set (k * 3) a).set (k * 3 + 1) b).set (k * 3 + 2) c).take ((k + 1) * 3) = ys.take (k * 3) ++ [a, b, c] := by
  apply List.ext_getElem?
  intro i
  rw [List.getElem?_take]
  by_cases h1 : i < (k + 1) * 3
  · rw [if_pos h1]
    by_cases h2 : i < k * 3
    · rw [List.getElem?_append_left (by rw [List.length_take]; omega), List.getElem?_take, if_pos h2, List.getElem?_set_ne (by omega), List.getElem?_set_ne (by omega), List.getElem?_set_ne (by omega)]
    · rw [List.getElem?_append_right (by rw [List.length_take]; omega), List.length_take, Nat.min_eq_left (by omega)]
      obtain e | e | e : i = k * 3 ∨ i = k * 3 + 1 ∨ i = k * 3 + 2 := by omega
      · subst e
        rw [List.getElem?_set_ne (by omega), List.getElem?_set_ne (by omega), List.getElem?_set_self (by omega), Nat.sub_self]
        rfl
      · subst e
        rw [List.getElem?_set_ne (by omega), List.getElem?_set_self (by rw [List.length_set]; omega), show k * 3 + 1 - k * 3 = 1 from by omega]
        rfl
      · subst e
        rw [List.getElem?_set_self (by rw [List.length_set, List.length_set]; omega), show k * 3 + 2 - k * 3 = 2 from by omega]
        rfl
  · rw [if_neg h1, List.getElem?_eq_none]
    rw [List.length_append, List.length_take]
    simp
    omega
theorem pc_step (xs : List ByteArray) (w wr : World) (k : Nat) (ys : List Value) (y : Int) (hk : k < xs.length) (hyl : ys.length = xs.length * 3)
    (ho : wr.ownsRow w.heap.size 39 3 (.slice (some ⟨w.heap.size, 0, none⟩) xs.length xs.length) xs.length ys) (hb : Below w.heap.size w wr) (ht : ys.take (k * 3) = prCells (xs.take k)) (hy : y = (k : Int) + 1) :
    pcRel xs w (xs.length - (k + 1)) (.int .i64 y) (((wr.setCell ⟨w.heap.size, k * 3, none⟩ (.string (xs.getD k ⟨#[]⟩))).setCell ⟨w.heap.size, k * 3 + 1, none⟩ (.string ⟨#[]⟩)).setCell ⟨w.heap.size, k * 3 + 2, none⟩ (.map none)) := by
  subst hy
  refine ⟨k + 1, ((ys.set (k * 3) (.string (xs.getD k ⟨#[]⟩))).set (k * 3 + 1) (.string ⟨#[]⟩)).set (k * 3 + 2) (.map none), by omega, by rfl, by rw [List.length_set, List.length_set, List.length_set]; exact hyl, (((ho.stored _ _).1.stored _ _).1.stored _ _).1, ?_, ?_⟩
  · exact ((hb.setCell (p := ⟨w.heap.size, k * 3, none⟩) (Nat.le_refl _) _).setCell (p := ⟨w.heap.size, k * 3 + 1, none⟩) (Nat.le_refl _) _).setCell (p := ⟨w.heap.size, k * 3 + 2, none⟩) (Nat.le_refl _) _
  · have h1 : xs[k]? = some (xs.getD k ⟨#[]⟩) := by rw [List.getD_eq_getElem?_getD, List.getElem?_eq_getElem hk]; rfl
    rw [take3_set ys k _ _ _ (by omega), ht, List.take_add_one, h1]
    unfold prCells
    rw [List.flatMap_append]
    rfl

set_option maxHeartbeats 2000000 in
set_option maxRecDepth 100000 in
theorem prior_any (v : Value) (xs : List ByteArray) (B : Nat) (w : World) (h : w.ownsRow B 9 1 v xs.length (baCells xs)) (hn : xs.length ≤ 65536) :
    Calls Tryf.prog 10 #[v] w fun e w' => ∃ v', e = .returned v' ∧ w'.ownsRow w.heap.size 39 3 v' xs.length (prCells xs) ∧ (v' = .slice none 0 0 ↔ v = .slice none 0 0) ∧ Below w.heap.size w w' := by
  have hsn := fun (w : World) (a : Option Addr) (n c : Nat) => Lib.run_eql_slice_nil (P := Tryf.prog) w 22 9 a n c 0 0 Tryf.underlying22
  have H := hide h
  rcases h.2 with ⟨rfl, h1⟩ | ⟨b, cap, cur, rfl, hb, hgb, hnc, _⟩
  · have hx : xs = [] := List.eq_nil_of_length_eq_zero h1
    subst hx
    clear h
    go_enter Tryf.func10, Tryf.ntmps10
    go_wp2
    go_ret
    exact ⟨_, rfl, World.ownsRow_nil _ _ _ _, by simp, Below.refl _ _⟩
  · have hblt := (h.lt b rfl).2
    have hi39 : Tryf.prog.info? 39 = some Tryf.t39 := by kernel_rfl
    obtain ⟨w1, hmk, hown, hgr⟩ := run_make_full (P := Tryf.prog) w w.heap.size 30 39 Tryf.t39 _ 3 Tryf.underlying30 hi39 rfl rfl .i64 .i64 xs.length (by show 40 * xs.length ≤ _; omega) (by unfold maxLen; omega) (Nat.le_refl _)
    have HO := hide hown
    have HB := hide ((Below.refl w.heap.size w).grown hgr (Nat.le_refl _) (fun k hk => by cases hk))
    clear hown hgr h hgb
    go_enter Tryf.func10, Tryf.ntmps10
    go_wp2
    go_loopg [4] xs.length (fun g t wr => pcRel xs w g t wr)
    case atStart => exact ⟨0, _, by omega, rfl, HO.out.1, HO.out, HB.out, by simp [prCells]⟩
    case round =>
      obtain ⟨k, ys, hkg, rfl, hyl, hown, hbel, htk⟩ := hrel
      have KO := hide hown
      have KB := hide hbel
      have KT := hide htk
      have KL := hide hyl
      have Kg := hide hkg
      have hkn : k ≤ xs.length := by omega
      clear hown hbel htk hyl hkg hmk HO HB
      by_cases hk : k < xs.length
      · have hlt : (k : Int) < (xs.length : Int) := by omega
        have hc : wr.cell? ⟨b, k, none⟩ = some (.string (xs.getD k ⟨#[]⟩)) := by
          rw [KB.out.cell (p := ⟨b, k, none⟩) hblt, H.out.cellAt k (by omega)]
          unfold baCells
          rw [List.getElem?_map, List.getD_eq_getElem?_getD, List.getElem?_eq_getElem hk]
          rfl
        generalize hxk : xs.getD k ⟨#[]⟩ = x at hc
        have HXK := hide hxk
        clear hxk
        have hc3 : ∀ o, o < xs.length * 3 → ∃ u, wr.cell? ⟨w.heap.size, o, none⟩ = some u := by
          intro o ho
          rw [KO.out.cellAt o ho, List.getElem?_eq_getElem (by rw [KL.out]; exact ho)]
          exact ⟨_, rfl⟩
        obtain ⟨o0, hc0⟩ := hc3 (k * 3) (by omega)
        obtain ⟨o1, hc1⟩ := hc3 (k * 3 + 1) (by omega)
        obtain ⟨o2, hc2⟩ := hc3 (k * 3 + 2) (by omega)
        have hf0 := KO.out.frozenAt (k * 3)
        have hf1 := KO.out.frozenAt (k * 3 + 1)
        have hf2 := KO.out.frozenAt (k * 3 + 2)
        clear hc3
        go_wp2
        go_roundg (xs.length - (k + 1))
        case measure => have := Kg.out; omega
        case rel =>
          have h9 := pc_step xs w wr k ys _ hk KL.out KO.out KB.out KT.out rfl
          rw [HXK.out] at h9
          exact h9
      · have hlt : decide (k < xs.length) = false := by simp; omega
        have hxs : Hid (ys = prCells xs) := by
          have h1 := KT.out
          rw [List.take_of_length_le (by rw [KL.out]; omega), List.take_of_length_le (by omega)] at h1
          exact h1
        go_wp2
        go_ret
        refine ⟨_, rfl, ?_, by simp, KB.out⟩
        have h2 := KO.out
        rw [hxs.out] at h2
        exact h2

end Go.Proofs.Qxb6613049aFmt
