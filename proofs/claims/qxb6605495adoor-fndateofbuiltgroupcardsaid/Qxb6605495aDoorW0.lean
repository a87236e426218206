import Derived.Test.Qxb6605495aDoorRows
import Derived.Test.Qxb6605495aDoorPlain
import Derived.Test.Qxb6605495aDoorShelf
import Derived.WalkKit
import Derived.WalkSpells
import Derived.WalkLawsBesides
import Derived.PlainAid
import Derived.Handy
namespace Go.Proofs.Qxb6605495aDoor
open Go.RowKit Go.PlainAid

theorem hide {p : Prop} (h : p) : Hid p := h
theorem ret_bool {a b : Bool} (h : a = b) : Ending.returned (.bool a) = .returned (.bool b) := by rw [h]

def slashB (s : ByteArray) : Bool := s.data.toList.contains 47

theorem bt_get (s : ByteArray) (j : Nat) (h : j < s.size) : bt s j = ((s.data.toList[j]'(by rw [size_data]; exact h)).toNat : Int) := by
  unfold bt
  rw [dif_pos h]
  rfl
theorem slash_yes (s : ByteArray) (j : Nat) (h : j < s.size) (he : bt s j = 47) : slashB s = true := by
  unfold slashB
  rw [bt_get s j h] at he
  rw [List.contains_iff_mem]
  have h47 : s.data.toList[j]'(by rw [size_data]; exact h) = 47 := UInt8.toNat_inj.1 (by have h : (47 : UInt8).toNat = 47 := rfl; omega)
  rw [← h47]
  exact List.getElem_mem _
theorem slash_no (s : ByteArray) (h : ∀ j, j < s.size → bt s j ≠ 47) : slashB s = false := by
  unfold slashB
  cases hc : s.data.toList.contains 47 with
  | false => rfl
  | true =>
    rw [List.contains_iff_mem] at hc
    obtain ⟨j, hj, he⟩ := List.getElem_of_mem hc
    have hj' : j < s.size := by rw [← size_data]; exact hj
    exact absurd (by rw [bt_get s j hj', he]; rfl) (h j hj')

set_option maxHeartbeats 400000 in
theorem hasSlash_any (s : ByteArray) (w : World) (hs : s.size ≤ 9223372036854775807) : Calls Tryd.prog 7 #[.string s] w fun e w' => e = .returned (.bool (slashB s)) ∧ w' = w := by
  have hbt := get_bt s
  go_enter Tryd.func7, Tryd.ntmps7
  go_wp2
  go_loop [2, 3] (fun _ t => ∃ k : Nat, k ≤ s.size ∧ t = .int .i64 k ∧ Hid (∀ j, j < k → bt s j ≠ 47)) (fun _ t => s.size - (intOf t).toNat)
  case atStart => exact ⟨0, Nat.zero_le _, rfl, fun j hj => by omega⟩
  case round =>
    obtain ⟨k, hk, rfl, hall⟩ := hrel
    by_cases hlt : k < s.size
    · by_cases h47 : bt s k = 47
      · have h47' : (bt s k == 47) = true := by simp [h47]
        have hsl := hide (slash_yes s k hlt h47)
        clear h47
        go_wp2
        go_ret
        exact ⟨ret_bool hsl.out.symm, rfl⟩
      · have h47' : (bt s k == 47) = false := by simp [h47]
        go_wp2
        go_round
        case rel =>
          refine ⟨k + 1, by omega, by go_num, fun j hj => ?_⟩
          by_cases e : j = k
          · subst e; exact h47
          · exact hall.out j (by omega)
        case measure => simp [intOf]; omega
    · have hsl := hide (slash_no s fun j hj => hall.out j (by omega))
      go_wp2
      go_ret
      exact ⟨ret_bool hsl.out.symm, rfl⟩

set_option maxHeartbeats 400000 in
theorem bytes_yes (s : ByteArray) (y m d : Int) (w : World) (hs : s.size ≤ 1048576) : Calls Tryd.prog 9 #[.string s, .int .i64 y, .int .i64 m, .int .i64 d] w fun e w' => e = .returned (.bool true) ∧ w' = w := by
  have hs' : ¬ (1048576 : Int) < (s.size : Int) := by omega
  go_enter Tryd.func9, Tryd.ntmps9
  go_wp2
  go_ret
  exact ⟨rfl, rfl⟩
set_option maxHeartbeats 400000 in
theorem bytes_no (s : ByteArray) (y m d : Int) (w : World) (hs : 1048576 < s.size) : Calls Tryd.prog 9 #[.string s, .int .i64 y, .int .i64 m, .int .i64 d] w fun e w' => e = .returned (.bool false) ∧ w' = w := by
  have hs' : (1048576 : Int) < (s.size : Int) := by omega
  go_enter Tryd.func9, Tryd.ntmps9
  go_wp2
  go_ret
  exact ⟨rfl, rfl⟩

theorem make2 (w : World) : (Instr.makeSlice 33 (.int .i64 2) (.int .i64 2)).run Tryd.prog w = .ok (.slice (some ⟨w.heap.size, 0, none⟩) 2 2) (w.alloc (.cells #[.int .u8 0, .int .u8 0] 5)) := by kernel_rfl
theorem make4 (w : World) : (Instr.makeSlice 33 (.int .i64 4) (.int .i64 4)).run Tryd.prog w = .ok (.slice (some ⟨w.heap.size, 0, none⟩) 4 4) (w.alloc (.cells #[.int .u8 0, .int .u8 0, .int .u8 0, .int .u8 0] 5)) := by kernel_rfl

/-- The digit of a number from 48 to 57. -/
def dg (x : Int) : UInt8 := UInt8.ofNat x.toNat
theorem dg_nat (x : Int) (h0 : 48 ≤ x) (h1 : x ≤ 57) : ((dg x).toNat : Int) = x := by
  unfold dg
  rw [UInt8.toNat_ofNat']
  omega
theorem dg_dig (x : Int) (h0 : 48 ≤ x) (h1 : x ≤ 57) : 48 ≤ (dg x).toNat ∧ (dg x).toNat ≤ 57 := by
  have := dg_nat x h0 h1
  omega

theorem conv2 (w : World) (x0 x1 : Int) (h0 : 48 ≤ x0 ∧ x0 ≤ 57) (h1 : 48 ≤ x1 ∧ x1 ≤ 57) :
    (convert 33 9 (.slice (some ⟨w.heap.size, 0, none⟩) 2 2)).run Tryd.prog (w.alloc (.cells #[.int .u8 x0, .int .u8 x1] 5)) = .ok (.string (mk [dg x0, dg x1])) (w.alloc (.cells #[.int .u8 x0, .int .u8 x1] 5)) := by
  refine run_convert_bytes_back (P := Tryd.prog) (w.alloc (.cells #[.int .u8 x0, .int .u8 x1] 5)) 33 9 5 ⟨w.heap.size, 0, none⟩ 2 [dg x0, dg x1] Tryd.underlying33 Tryd.underlying5 Tryd.underlying9 ?_
  intro j hj
  rcases j with _ | _ | j
  · rw [Addr.add_lit]; exact (World.cell?_alloc_new (w := w) _ _ _).trans (by show some _ = some _; rw [show ([dg x0, dg x1] : List UInt8)[0] = dg x0 from rfl, dg_nat x0 h0.1 h0.2]; rfl)
  · rw [Addr.add_lit]; exact (World.cell?_alloc_new (w := w) _ _ _).trans (by show some _ = some _; rw [show ([dg x0, dg x1] : List UInt8)[1] = dg x1 from rfl, dg_nat x1 h1.1 h1.2]; rfl)
  · simp at hj; omega

theorem conv4 (w : World) (x0 x1 x2 x3 : Int) (h0 : 48 ≤ x0 ∧ x0 ≤ 57) (h1 : 48 ≤ x1 ∧ x1 ≤ 57) (h2 : 48 ≤ x2 ∧ x2 ≤ 57) (h3 : 48 ≤ x3 ∧ x3 ≤ 57) :
    (convert 33 9 (.slice (some ⟨w.heap.size, 0, none⟩) 4 4)).run Tryd.prog (w.alloc (.cells #[.int .u8 x0, .int .u8 x1, .int .u8 x2, .int .u8 x3] 5)) = .ok (.string (mk [dg x0, dg x1, dg x2, dg x3])) (w.alloc (.cells #[.int .u8 x0, .int .u8 x1, .int .u8 x2, .int .u8 x3] 5)) := by
  refine run_convert_bytes_back (P := Tryd.prog) (w.alloc (.cells #[.int .u8 x0, .int .u8 x1, .int .u8 x2, .int .u8 x3] 5)) 33 9 5 ⟨w.heap.size, 0, none⟩ 4 [dg x0, dg x1, dg x2, dg x3] Tryd.underlying33 Tryd.underlying5 Tryd.underlying9 ?_
  intro j hj
  rcases j with _ | _ | _ | _ | j
  · rw [Addr.add_lit]; exact (World.cell?_alloc_new (w := w) _ _ _).trans (by show some _ = some _; rw [show ([dg x0, dg x1, dg x2, dg x3] : List UInt8)[0] = dg x0 from rfl, dg_nat x0 h0.1 h0.2]; rfl)
  · rw [Addr.add_lit]; exact (World.cell?_alloc_new (w := w) _ _ _).trans (by show some _ = some _; rw [show ([dg x0, dg x1, dg x2, dg x3] : List UInt8)[1] = dg x1 from rfl, dg_nat x1 h1.1 h1.2]; rfl)
  · rw [Addr.add_lit]; exact (World.cell?_alloc_new (w := w) _ _ _).trans (by show some _ = some _; rw [show ([dg x0, dg x1, dg x2, dg x3] : List UInt8)[2] = dg x2 from rfl, dg_nat x2 h2.1 h2.2]; rfl)
  · rw [Addr.add_lit]; exact (World.cell?_alloc_new (w := w) _ _ _).trans (by show some _ = some _; rw [show ([dg x0, dg x1, dg x2, dg x3] : List UInt8)[3] = dg x3 from rfl, dg_nat x3 h3.1 h3.2]; rfl)
  · simp at hj; omega

set_option maxHeartbeats 400000 in
theorem pad2_any (v : Int) (w : World) (h0 : 0 ≤ v) (h1 : v ≤ 99) : Calls Tryd.prog 10 #[.int .i64 v, .int .i64 2] w fun e w' => ∃ l, e = .returned (.string (mk l)) ∧ l.length = 2 ∧ Dig l ∧ Below w.heap.size w w' := by
  have hmk := make2
  have hcv := conv2 w (48 + v / 10 % 10) (48 + v % 10) (by omega) (by omega)
  go_enter Tryd.func10, Tryd.ntmps10
  go_wp2
  refine wp_loop_rounds 3 ?_
  rw [rounds_succ]
  go_wp2
  rw [rounds_succ]
  go_wp2
  rw [rounds_succ]
  go_wp2
  go_ret
  refine ⟨_, rfl, rfl, ?_, (Below.refl _ w).alloc (Nat.le_refl _) _⟩
  intro c hc
  simp only [List.mem_cons, List.mem_nil_iff, or_false] at hc
  rcases hc with rfl | rfl <;> exact dg_dig _ (by omega) (by omega)

set_option maxHeartbeats 400000 in
theorem pad4_any (v : Int) (w : World) (h0 : 0 ≤ v) (h1 : v ≤ 9999) : Calls Tryd.prog 10 #[.int .i64 v, .int .i64 4] w fun e w' => ∃ l, e = .returned (.string (mk l)) ∧ l.length = 4 ∧ Dig l ∧ Below w.heap.size w w' := by
  have hmk := make4
  have hcv := conv4 w (48 + v / 10 / 10 / 10 % 10) (48 + v / 10 / 10 % 10) (48 + v / 10 % 10) (48 + v % 10) (by omega) (by omega) (by omega) (by omega)
  go_enter Tryd.func10, Tryd.ntmps10
  go_wp2
  refine wp_loop_rounds 5 ?_
  rw [rounds_succ]
  go_wp2
  rw [rounds_succ]
  go_wp2
  rw [rounds_succ]
  go_wp2
  rw [rounds_succ]
  go_wp2
  rw [rounds_succ]
  go_wp2
  go_ret
  refine ⟨_, rfl, rfl, ?_, (Below.refl _ w).alloc (Nat.le_refl _) _⟩
  intro c hc
  simp only [List.mem_cons, List.mem_nil_iff, or_false] at hc
  rcases hc with rfl | rfl | rfl | rfl <;> exact dg_dig _ (by omega) (by omega)

end Go.Proofs.Qxb6605495aDoor
