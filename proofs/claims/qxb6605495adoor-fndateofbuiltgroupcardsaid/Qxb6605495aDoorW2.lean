import Derived.Test.Qxb6605495aDoorW1
namespace Go.Proofs.Qxb6605495aDoor
open Go.RowKit Go.PlainAid

def cat (a b : List UInt8) : List UInt8 := a ++ b
theorem cat_len (a b : List UInt8) : (cat a b).length = a.length + b.length := by unfold cat; exact List.length_append

theorem add_any (a b c : List UInt8) (w : World) (h : a.length + b.length ≤ 9223372036854775807) (hc : c = a ++ b) : (Op.stringOp .add (mk a) (mk b)).run Tryd.prog w = .ok (.string (mk c)) w := by
  rw [run_string_add_sum (P := Tryd.prog) w (mk a) (mk b) (by rw [mk_size, mk_size]; exact h)]
  have e : mk a ++ mk b = mk c := by
    apply ext_data
    rw [mk_data, hc]
    simp [mk]
  rw [e]
theorem add_sl (a c : List UInt8) (w : World) (h : a.length ≤ 1000000000) (hc : c = a ++ [47]) : (Op.stringOp .add (mk a) ⟨#[47]⟩).run Tryd.prog w = .ok (.string (mk c)) w :=
  add_any a [47] c w (by simp; omega) hc

theorem four_len (a y m d : List UInt8) : (four a y m d).length = a.length + y.length + m.length + d.length + 3 := by
  unfold four; simp only [List.length_append, List.length_cons]; omega
theorem three_len (y m d : List UInt8) : (three y m d).length = y.length + m.length + d.length + 2 := by
  unfold three; simp only [List.length_append, List.length_cons]; omega
theorem five_len (a y m d b : List UInt8) : (five a y m d b).length = a.length + y.length + m.length + d.length + b.length + 4 := by
  unfold five; simp only [List.length_append, List.length_cons]; omega

theorem datatype_four (a y m d : List UInt8) (mx : Int) (w : World) (hm : w.cell? ⟨0, 0, none⟩ = some (.int .i64 mx)) (hs : (four a y m d).length < 4294967281) (ha : (47 : UInt8) ∉ a) :
    Calls Tryd.prog 11 #[.string (mk (four a y m d))] w fun e w' => e = .returned (.string (mk a)) ∧ ∃ n, w' = w.drewN n := by
  unfold four at hs ⊢
  exact datatype_any a _ mx w hm (by rw [mk_size]; exact hs) ha

set_option maxRecDepth 100000 in
set_option maxHeartbeats 1000000 in
theorem law_main (a : List UInt8) (y m d : Int) (mx : Int) (w : World) (hm : w.cell? ⟨0, 0, none⟩ = some (.int .i64 mx)) (hs : a.length ≤ 1048576) (hy0 : 0 ≤ y) (hy1 : y ≤ 9999) (hm0 : 0 ≤ m) (hm1 : m ≤ 99) (hd0 : 0 ≤ d) (hd1 : d ≤ 99) (ha : (47 : UInt8) ∉ a) :
    Calls Tryd.prog 4 #[.string (mk a), .int .i64 y, .int .i64 m, .int .i64 d] w fun e w' => e = .returned (.bool true) ∧ Below w.heap.size w w' := by
  have hsz : (mk a).size = a.length := mk_size a
  have hs0 : (mk a).size ≤ 1048576 := by omega
  have hs' : ¬ (1048576 : Int) < ((mk a).size : Int) := by omega
  clear hsz
  have hh := hasSlash_any (mk a) w (by omega)
  have hsl : slashB (mk a) = false := by
    unfold slashB
    rw [mk_data]
    cases hc : a.contains 47 with
    | false => rfl
    | true => exact absurd (List.contains_iff_mem.1 hc) ha
  rw [hsl] at hh
  have hgz : 0 < w.heap.size := by
    rcases Nat.lt_or_ge 0 w.heap.size with h | h
    · exact h
    · simp [World.cell?, Array.getElem?_eq_none h] at hm
  have Ha := hide ha
  have Hm := hide hm
  clear ha hm hsl
  go_enter Tryd.func4, Tryd.ntmps4
  go_wp2_with fail
  refine (bytes_yes (mk a) y m d w hs0).mono ?_
  rintro e w1 ⟨rfl, rfl⟩
  go_wp2_with fail
  refine hh.mono ?_
  rintro e w2 ⟨rfl, rfl⟩
  go_wp2_with fail
  refine (pad4_any y w2 hy0 hy1).mono ?_
  rintro e w3 ⟨ly, rfl, hly, dy, hB3⟩
  have a1 := fun wx => add_sl ly (cat ly [47]) wx (by omega) rfl
  go_wp2_with fail
  refine (pad2_any m w3 hm0 hm1).mono ?_
  rintro e w4 ⟨lm, rfl, hlm, dm, hB4⟩
  have a2 := fun wx => add_any (cat ly [47]) lm (cat (cat ly [47]) lm) wx (by rw [cat_len]; simp; omega) rfl
  have a3 := fun wx => add_sl (cat (cat ly [47]) lm) (cat (cat (cat ly [47]) lm) [47]) wx (by rw [cat_len, cat_len]; simp; omega) rfl
  go_wp2_with fail
  refine (pad2_any d w4 hd0 hd1).mono ?_
  rintro e w5 ⟨ld, rfl, hld, dd, hB5⟩
  have a4 := fun wx => add_any (cat (cat (cat ly [47]) lm) [47]) ld (three ly lm ld) wx (by rw [cat_len, cat_len, cat_len]; simp; omega) (by unfold three cat; simp)
  have n3 := three_len ly lm ld
  have n4 := four_len a ly lm ld
  have n5 := five_len a ly lm ld a
  have a5 := fun wx => add_sl a (cat a [47]) wx (by omega) rfl
  have a6 := fun wx => add_any (cat a [47]) (three ly lm ld) (four a ly lm ld) wx (by rw [cat_len, n3]; simp; omega) (by unfold four three cat; simp)
  have a7 := fun wx => add_sl (four a ly lm ld) (cat (four a ly lm ld) [47]) wx (by omega) rfl
  have a8 := fun wx => add_any (cat (four a ly lm ld) [47]) a (five a ly lm ld a) wx (by rw [cat_len, n4]; simp; omega) (by unfold five four cat; simp)
  have hB := hB3.trans ((hB4.mono hB3.size).trans (hB5.mono (Nat.le_trans hB3.size hB4.size)))
  have hm5 : w5.cell? ⟨0, 0, none⟩ = some (.int .i64 mx) := by rw [hB.cell (p := ⟨0, 0, none⟩) hgz]; exact Hm.out
  have D1 := hide (date_yes a ly lm ld mx w5 hm5 (by rw [mk_size]; omega) Ha.out dy dm dd hly hlm hld)
  have HB := hide hB
  have Hm5 := hide hm5
  clear hB hm5 hB3 hB4 hB5
  go_wp2_with fail
  refine D1.out.mono ?_
  rintro e w6 ⟨rfl, hB6⟩
  have hg5 : 0 < w5.heap.size := by have := HB.out.size; omega
  have hm6 : w6.cell? ⟨0, 0, none⟩ = some (.int .i64 mx) := by rw [hB6.cell (p := ⟨0, 0, none⟩) hg5]; exact Hm5.out
  have D2 := hide (datatype_four a ly lm ld mx w6 hm6 (by omega) Ha.out)
  have Hm6 := hide hm6
  have B6 := hide (HB.out.trans (hB6.mono HB.out.size))
  clear hm6 hB6
  go_wp2_with fail
  refine D2.out.mono ?_
  rintro e w7 ⟨rfl, n, rfl⟩
  have D3 := hide (date_no (mk (three ly lm ld)) mx (w6.drewN n) Hm6.out (by rw [mk_size]; omega) 2 (three_count ly lm ld dy.no_slash dm.no_slash dd.no_slash) (by omega) (by omega))
  go_wp2_with fail
  refine D3.out.mono ?_
  rintro e w8 ⟨rfl, hB8⟩
  have hg6 : 0 < (w6.drewN n).heap.size := by have := B6.out.size; show 0 < w6.heap.size; omega
  have hm8 : w8.cell? ⟨0, 0, none⟩ = some (.int .i64 mx) := by rw [hB8.cell (p := ⟨0, 0, none⟩) hg6]; exact Hm6.out
  have D4 := hide (date_no (mk (five a ly lm ld a)) mx w8 hm8 (by rw [mk_size]; omega) 4 (five_count a ly lm ld a Ha.out dy.no_slash dm.no_slash dd.no_slash Ha.out) (by omega) (by omega))
  have B8 := hide ((below_drewN B6.out n).trans (hB8.mono B6.out.size))
  clear hm8 hB8
  go_wp2_with fail
  refine D4.out.mono ?_
  rintro e w9 ⟨rfl, hB9⟩
  go_wp2
  go_ret
  exact ⟨rfl, B8.out.trans (hB9.mono B8.out.size)⟩

set_option maxHeartbeats 400000 in
theorem law_early (s : ByteArray) (y m d : Int) (w : World) (hs : s.size ≤ 1048576) (h : y < 0 ∨ 9999 < y ∨ m < 0 ∨ 99 < m ∨ d < 0 ∨ 99 < d) :
    Calls Tryd.prog 4 #[.string s, .int .i64 y, .int .i64 m, .int .i64 d] w fun e w' => e = .returned (.bool true) ∧ Below w.heap.size w w' := by
  have hs' : ¬ (1048576 : Int) < (s.size : Int) := by omega
  by_cases h1 : y < 0
  · clear h
    go_enter Tryd.func4, Tryd.ntmps4
    go_wp2_with (go_at_call 9; refine (bytes_yes s y m d _ hs).mono ?_; rintro e w1 ⟨rfl, rfl⟩)
    go_ret
    exact ⟨rfl, Below.refl _ _⟩
  · by_cases h2 : 9999 < y
    · clear h
      go_enter Tryd.func4, Tryd.ntmps4
      go_wp2_with (go_at_call 9; refine (bytes_yes s y m d _ hs).mono ?_; rintro e w1 ⟨rfl, rfl⟩)
      go_ret
      exact ⟨rfl, Below.refl _ _⟩
    · by_cases h3 : m < 0
      · clear h
        go_enter Tryd.func4, Tryd.ntmps4
        go_wp2_with (go_at_call 9; refine (bytes_yes s y m d _ hs).mono ?_; rintro e w1 ⟨rfl, rfl⟩)
        go_ret
        exact ⟨rfl, Below.refl _ _⟩
      · by_cases h4 : 99 < m
        · clear h
          go_enter Tryd.func4, Tryd.ntmps4
          go_wp2_with (go_at_call 9; refine (bytes_yes s y m d _ hs).mono ?_; rintro e w1 ⟨rfl, rfl⟩)
          go_ret
          exact ⟨rfl, Below.refl _ _⟩
        · by_cases h5 : d < 0
          · clear h
            go_enter Tryd.func4, Tryd.ntmps4
            go_wp2_with (go_at_call 9; refine (bytes_yes s y m d _ hs).mono ?_; rintro e w1 ⟨rfl, rfl⟩)
            go_ret
            exact ⟨rfl, Below.refl _ _⟩
          · have h6 : 99 < d := by omega
            clear h
            go_enter Tryd.func4, Tryd.ntmps4
            go_wp2_with (go_at_call 9; refine (bytes_yes s y m d _ hs).mono ?_; rintro e w1 ⟨rfl, rfl⟩)
            go_ret
            exact ⟨rfl, Below.refl _ _⟩

set_option maxHeartbeats 400000 in
theorem law_slash (s : ByteArray) (y m d : Int) (w : World) (hs : s.size ≤ 1048576) (hy0 : 0 ≤ y) (hy1 : y ≤ 9999) (hm0 : 0 ≤ m) (hm1 : m ≤ 99) (hd0 : 0 ≤ d) (hd1 : d ≤ 99) (hsl : slashB s = true) :
    Calls Tryd.prog 4 #[.string s, .int .i64 y, .int .i64 m, .int .i64 d] w fun e w' => e = .returned (.bool true) ∧ Below w.heap.size w w' := by
  have hs' : ¬ (1048576 : Int) < (s.size : Int) := by omega
  have hh := hasSlash_any s w (by omega)
  rw [hsl] at hh
  go_enter Tryd.func4, Tryd.ntmps4
  go_wp2_with fail
  refine (bytes_yes s y m d w hs).mono ?_
  rintro e w1 ⟨rfl, rfl⟩
  go_wp2_with fail
  refine hh.mono ?_
  rintro e w2 ⟨rfl, rfl⟩
  go_wp2
  go_ret
  exact ⟨rfl, Below.refl _ _⟩

set_option maxHeartbeats 400000 in
theorem law_long (s : ByteArray) (y m d : Int) (w : World) (hs : 1048576 < s.size) :
    Calls Tryd.prog 4 #[.string s, .int .i64 y, .int .i64 m, .int .i64 d] w fun e w' => e = .returned (.bool true) ∧ Below w.heap.size w w' := by
  go_enter Tryd.func4, Tryd.ntmps4
  go_wp2_with (go_at_call 9; refine (bytes_no s y m d _ hs).mono ?_; rintro e w1 ⟨rfl, rfl⟩)
  go_ret
  exact ⟨rfl, Below.refl _ _⟩

theorem law_any (s : ByteArray) (y m d : Int) (w : World) (hsh : w.ShapedOpen Tryd.prog) :
    Calls Tryd.prog 4 #[.string s, .int .i64 y, .int .i64 m, .int .i64 d] w fun e w' => e = .returned (.bool true) ∧ Below w.heap.size w w' := by
  by_cases hs : s.size ≤ 1048576
  · by_cases h : y < 0 ∨ 9999 < y ∨ m < 0 ∨ 99 < m ∨ d < 0 ∨ 99 < d
    · exact law_early s y m d w hs h
    · cases hsl : slashB s with
      | true => exact law_slash s y m d w hs (by omega) (by omega) (by omega) (by omega) (by omega) (by omega) hsl
      | false =>
        obtain ⟨mx, hmx⟩ := Tryd.laysM145.s1_3 w hsh
        rw [eq_mk s]
        refine law_main s.data.toList y m d mx w hmx (by rw [size_data]; exact hs) (by omega) (by omega) (by omega) (by omega) (by omega) (by omega) ?_
        intro hc
        unfold slashB at hsl
        rw [List.contains_iff_mem.2 hc] at hsl
        cases hsl
  · exact law_long s y m d w (by omega)

end Go.Proofs.Qxb6605495aDoor
