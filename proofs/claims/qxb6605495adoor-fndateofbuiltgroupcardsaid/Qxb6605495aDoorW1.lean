import Derived.Test.Qxb6605495aDoorW0
namespace Go.Proofs.Qxb6605495aDoor
open Go.RowKit Go.PlainAid Go.Shelf

theorem trim_any (s : ByteArray) (w : World) (hs : s.size ≤ 9223372036854775807) : Calls Tryd.prog 13 #[.string s, .string ⟨#[48, 49, 50, 51, 52, 53, 54, 55, 56, 57]⟩] w fun e w' => e = .returned (.string ⟨(Lib.trimS s.data.toList tens).toArray⟩) ∧ Below w.heap.size w w' :=
  Any.strings_Trim_laid Tryd.lays160 (by kernel_rfl) s ⟨#[48, 49, 50, 51, 52, 53, 54, 55, 56, 57]⟩ w hs (by decide) (ascii_of_all (by decide))
theorem trim_dig (l : List UInt8) (hl : Dig l) (w : World) (hs : (mk l).size ≤ 9223372036854775807) : Calls Tryd.prog 13 #[.string (mk l), .string ⟨#[48, 49, 50, 51, 52, 53, 54, 55, 56, 57]⟩] w fun e w' => e = .returned (.string ⟨#[]⟩) ∧ Below w.heap.size w w' := by
  have h := trim_any (mk l) w hs
  rw [mk_data, hl.trim] at h
  exact h

set_option maxHeartbeats 1000000 in
theorem date_no (g : ByteArray) (mx : Int) (w : World) (hm : w.cell? ⟨0, 0, none⟩ = some (.int .i64 mx)) (hs : g.size < 4294967281) (n : Nat) (hn : Lib.countB g sl = n) (hn3 : n ≠ 3) (_hn4 : n ≤ 10) :
    Calls Tryd.prog 6 #[.string g] w fun e w' => e = .returned (.tuple #[.string ⟨#[]⟩, .bool false]) ∧ Below w.heap.size w w' := by
  have hsp := Tryd.strings_Split g sl mx w hs hm (by decide)
  rw [hn] at hsp
  have hne : (((n + 1 : Nat) : Int) == 4) = false := by rw [beq_eq_false_iff_ne]; omega
  go_enter Tryd.func6, Tryd.ntmps6
  go_wp2_with fail
  refine hsp.mono ?_
  rintro e w1 ⟨rfl, rfl⟩
  go_wp2
  go_ret2
  exact ⟨rfl, (Below.refl _ w).alloc (Nat.le_refl _) _⟩

/-- The levels and the widths lie in the two blocks from B on. -/
def Lv (y m d : List UInt8) (w wx : World) : Prop :=
  wx.cell? ⟨w.heap.size, 1, none⟩ = some (.string (mk y)) ∧ wx.cell? ⟨w.heap.size, 2, none⟩ = some (.string (mk m)) ∧ wx.cell? ⟨w.heap.size, 3, none⟩ = some (.string (mk d)) ∧
  wx.cell? ⟨w.heap.size + 1, 0, none⟩ = some (.int .i64 4) ∧ wx.cell? ⟨w.heap.size + 1, 1, none⟩ = some (.int .i64 2) ∧ wx.cell? ⟨w.heap.size + 1, 2, none⟩ = some (.int .i64 2) ∧
  w.heap.size + 1 < wx.heap.size ∧ Below w.heap.size w wx
theorem Lv.later {y m d : List UInt8} {w wx wy : World} (h : Lv y m d w wx) (hB : Below wx.heap.size wx wy) : Lv y m d w wy := by
  obtain ⟨c1, c2, c3, k0, k1, k2, hz, hb⟩ := h
  have hz' := hB.size
  refine ⟨?_, ?_, ?_, ?_, ?_, ?_, by omega, hb.trans (hB.mono hb.size)⟩
  · rw [hB.cell (p := ⟨w.heap.size, 1, none⟩) (by show w.heap.size < _; omega)]; exact c1
  · rw [hB.cell (p := ⟨w.heap.size, 2, none⟩) (by show w.heap.size < _; omega)]; exact c2
  · rw [hB.cell (p := ⟨w.heap.size, 3, none⟩) (by show w.heap.size < _; omega)]; exact c3
  · rw [hB.cell (p := ⟨w.heap.size + 1, 0, none⟩) hz]; exact k0
  · rw [hB.cell (p := ⟨w.heap.size + 1, 1, none⟩) hz]; exact k1
  · rw [hB.cell (p := ⟨w.heap.size + 1, 2, none⟩) hz]; exact k2

theorem join_any (y m d : List UInt8) (w wx : World) (h : Lv y m d w wx) (hl : (three y m d).length ≤ 1048576) :
    Calls Tryd.prog 14 #[.slice (some ⟨w.heap.size, 1, none⟩) 3 3, .string ⟨#[47]⟩] wx fun e w' => e = .returned (.string (mk (three y m d))) ∧ Below wx.heap.size wx w' := by
  obtain ⟨c1, c2, c3, _, _, _, hz, _⟩ := h
  have hj := Tryd.strings_Join w.heap.size 1 3 [mk y, mk m, mk d] sl wx (fun j x hx => by
    rcases j with _ | _ | _ | j
    · simp at hx; subst hx; exact c1
    · simp at hx; subst hx; exact c2
    · simp at hx; subst hx; exact c3
    · simp at hx) (by omega) (by show 3 ≤ _; omega) (by show 3 ≤ 3; omega)
  simp only [List.map_cons, List.map_nil, mk_data] at hj
  have e : sl.data.toList = [47] := rfl
  rw [e, join3] at hj
  exact hj (by omega)

set_option maxRecDepth 100000 in
set_option maxHeartbeats 1000000 in
theorem date_yes (a y m d : List UInt8) (mx : Int) (w : World) (hm : w.cell? ⟨0, 0, none⟩ = some (.int .i64 mx)) (hs : (mk (four a y m d)).size < 4294967281)
    (ha : (47 : UInt8) ∉ a) (hy : Dig y) (hmo : Dig m) (hd : Dig d) (ly : y.length = 4) (lm : m.length = 2) (ld : d.length = 2) :
    Calls Tryd.prog 6 #[.string (mk (four a y m d))] w fun e w' => e = .returned (.tuple #[.string (mk (three y m d)), .bool true]) ∧ Below w.heap.size w w' := by
  have hsp := Tryd.strings_Split (mk (four a y m d)) sl mx w hs hm (by decide)
  rw [four_count a y m d ha hy.no_slash hmo.no_slash hd.no_slash, four_split a y m d ha hy.no_slash hmo.no_slash] at hsp
  have sy : (mk y).size = 4 := by rw [mk_size, ly]
  have sm : (mk m).size = 2 := by rw [mk_size, lm]
  have sd : (mk d).size = 2 := by rw [mk_size, ld]
  have ty := hide (trim_dig y hy)
  have tm := hide (trim_dig m hmo)
  have td := hide (trim_dig d hd)
  go_enter Tryd.func6, Tryd.ntmps6
  go_wp2_with fail
  refine hsp.mono ?_
  rintro e w1 ⟨rfl, rfl⟩
  go_wp2
  refine wp_loop_rounds 4 ?_
  rw [rounds_succ]
  go_wp2_with fail
  refine (ty.out _ (by omega)).mono ?_
  rintro e w2 ⟨rfl, hB2⟩
  have L2 : Lv y m d w w2 := Lv.later (wx := (w.alloc (.cells #[.string (mk a), .string (mk y), .string (mk m), .string (mk d)] 9)).alloc (.cells #[.int .i64 4, .int .i64 2, .int .i64 2] 3))
    ⟨by simp, by simp, by simp, by simp, by simp, by simp, by simp, ((Below.refl _ w).alloc (Nat.le_refl _) _).alloc (by simp) _⟩ hB2
  clear hB2
  obtain ⟨c1, c2, c3, k0, k1, k2, hz, hb⟩ := id L2
  go_wp2_with fail
  rw [rounds_succ]
  go_wp2_with fail
  refine (tm.out _ (by omega)).mono ?_
  rintro e w3 ⟨rfl, hB3⟩
  have L3 := L2.later hB3
  clear hB3 L2 c1 c2 c3 k0 k1 k2 hz hb
  obtain ⟨c1, c2, c3, k0, k1, k2, hz, hb⟩ := id L3
  go_wp2_with fail
  rw [rounds_succ]
  go_wp2_with fail
  refine (td.out _ (by omega)).mono ?_
  rintro e w4 ⟨rfl, hB4⟩
  have L4 := L3.later hB4
  clear hB4 L3 c1 c2 c3 k0 k1 k2 hz hb
  obtain ⟨c1, c2, c3, k0, k1, k2, hz, hb⟩ := id L4
  go_wp2_with fail
  rw [rounds_succ]
  go_wp2_with fail
  refine (join_any y m d w w4 L4 (by unfold three; simp only [List.length_append, List.length_cons]; omega)).mono ?_
  rintro e w5 ⟨rfl, hB5⟩
  go_wp2
  go_ret2
  exact ⟨rfl, (L4.later hB5).2.2.2.2.2.2.2⟩

theorem cut_any (a b : List UInt8) (mx : Int) (w : World) (hm : w.cell? ⟨0, 0, none⟩ = some (.int .i64 mx)) (hs : (mk (a ++ 47 :: b)).size < 4294967281) (ha : (47 : UInt8) ∉ a) :
    Calls Tryd.prog 15 #[.string (mk (a ++ 47 :: b)), .string ⟨#[47]⟩] w fun e w' => ∃ r2 ok n, e = .returned (.tuple #[.string (mk a), .string r2, .bool ok]) ∧ w' = w.drewN n := by
  have h := Tryd.strings_Cut (mk (a ++ 47 :: b)) sl mx w hs hm
  rw [mk_data] at h
  have e : sl.data.toList = [47] := rfl
  rw [e, cut_first a b ha] at h
  refine Calls.mono h ?_
  rintro e w' ⟨rfl, n, rfl⟩
  exact ⟨_, _, n, rfl, rfl⟩

theorem mk_notEmpty (a b : List UInt8) : (mk (a ++ 47 :: b)).toList.isEmpty = false := by
  rw [ByteArray.toList_eq, mk_data]
  cases a <;> rfl

set_option maxHeartbeats 400000 in
theorem datatype_any (a b : List UInt8) (mx : Int) (w : World) (hm : w.cell? ⟨0, 0, none⟩ = some (.int .i64 mx)) (hs : (mk (a ++ 47 :: b)).size < 4294967281) (ha : (47 : UInt8) ∉ a) :
    Calls Tryd.prog 11 #[.string (mk (a ++ 47 :: b))] w fun e w' => e = .returned (.string (mk a)) ∧ ∃ n, w' = w.drewN n := by
  have hc := cut_any a b mx w hm hs ha
  have hne := mk_notEmpty a b
  generalize mk (a ++ 47 :: b) = g at hc hne ⊢
  go_enter Tryd.func11, Tryd.ntmps11
  go_wp2_with fail
  refine hc.mono ?_
  rintro e w1 ⟨r2, ok, n, rfl, rfl⟩
  go_wp2
  go_ret
  exact ⟨rfl, n, rfl⟩

end Go.Proofs.Qxb6605495aDoor
