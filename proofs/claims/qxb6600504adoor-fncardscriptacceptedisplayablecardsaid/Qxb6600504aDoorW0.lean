import Derived.Test.Qxb6600504aDoorRows
import Derived.WalkKit
import Derived.WalkSpells
import Derived.WalkLawsBesides
import Derived.PlainAid
import Derived.Handy
import Derived.Deep.QuietTactic
import Derived.BigQuiet
namespace Go.Proofs.Qxb6600504aDoor
open Go.RowKit Go.PlainAid

theorem hide {p : Prop} (h : p) : Hid p := h
/-- One of the four letters. -/
def letterI (x : Int) : Bool := x == 65 || x == 68 || x == 83 || x == 76

set_option maxHeartbeats 400000 in
theorem letter_any (x : Int) (w : World) : Calls Tryd.prog 8 #[.int .u8 x] w fun e w' => e = .returned (.bool (letterI x)) ∧ w' = w := by
  unfold letterI
  cases h1 : (x == 65) with
  | true =>
    go_enter Tryd.func8, Tryd.ntmps8
    go_wp2
    go_ret
    exact ⟨by simp, rfl⟩
  | false =>
    cases h2 : (x == 68) with
    | true =>
      go_enter Tryd.func8, Tryd.ntmps8
      go_wp2
      go_ret
      exact ⟨by simp, rfl⟩
    | false =>
      cases h3 : (x == 83) with
      | true =>
        go_enter Tryd.func8, Tryd.ntmps8
        go_wp2
        go_ret
        exact ⟨by simp, rfl⟩
      | false =>
        go_enter Tryd.func8, Tryd.ntmps8
        go_wp2
        go_ret
        exact ⟨by simp, rfl⟩

/-- The place that the next charge reads. -/
def nextAt (s : ByteArray) (c : Nat) : Nat := if c < s.size - 1 then c else s.size - 1

theorem ret_int {k : IntKind} {a b : Int} (h : a = b) : Ending.returned (.int k a) = .returned (.int k b) := by rw [h]

theorem next_world (b : Nat) (w : World) (n : Nat) (x y : Value) (hk : w.cell? ⟨b, 2, none⟩ = some y) :
    ((w.drewN n).setCell ⟨b, 2, none⟩ x).cell? ⟨b, 2, none⟩ = some x ∧ Below b w ((w.drewN n).setCell ⟨b, 2, none⟩ x) :=
  ⟨World.cell?_setCell_same _ _ _ (u := y) (by simpa using hk), Below.setCell (p := ⟨b, 2, none⟩) (below_drewN (Below.refl b w) n) (Nat.le_refl b) x⟩

set_option maxHeartbeats 400000 in
theorem next_any (b : Nat) (s : ByteArray) (c : Nat) (w : World) (h0 : 0 < s.size) (hs : s.size ≤ 9223372036854775807) (hc : c ≤ 65536) (hk1 : w.cell? ⟨b, 1, none⟩ = some (.string s)) (hk2 : w.cell? ⟨b, 2, none⟩ = some (.int .i64 c)) (hf2 : w.frozen? ⟨b, 2, none⟩ = false) :
    Calls Tryd.prog 11 #[.pointer (some ⟨b, 0, none⟩)] w fun e w' => e = .returned (.int .u8 (bt s (nextAt s c))) ∧ w'.cell? ⟨b, 2, none⟩ = some (.int .i64 ((c : Int) + 1)) ∧ Below b w w' := by
  have hb := get_bt s
  by_cases hlt : (c : Int) ≤ (s.size : Int) - 1
  · have hn : Hid (nextAt s c = c) := by unfold nextAt; show _ = _; split <;> omega
    go_enter Tryd.func11, Tryd.ntmps11
    go_wp2
    go_quiet (fail)
    go_wp2
    go_ret
    exact ⟨ret_int (by rw [hn.out]), next_world b w _ _ _ hk2⟩
  · have hn : Hid (nextAt s c = s.size - 1) := by unfold nextAt; show _ = _; split <;> omega
    go_enter Tryd.func11, Tryd.ntmps11
    go_wp2
    go_quiet (fail)
    go_wp2
    go_ret
    exact ⟨ret_int (by rw [hn.out]), next_world b w _ _ _ hk2⟩

set_option maxHeartbeats 400000 in
theorem zzNext_any (s : ByteArray) (c : Nat) (w : World) (h0 : 0 < s.size) (hs : s.size ≤ 9223372036854775807) (hc : c ≤ 65536) :
    Calls Tryd.prog 9 #[.string s, .int .i64 c] w fun e w' => e = .returned (.tuple #[.int .u8 (bt s (nextAt s c)), .int .i64 ((c : Int) + 1)]) ∧ Below w.heap.size w w' := by
  go_enter Tryd.func9, Tryd.ntmps9
  go_wp2_with fail
  refine (next_any w.heap.size s c _ h0 hs hc (by simp) (by simp) (by simp)).mono ?_
  rintro e w1 ⟨rfl, hk, hB⟩
  go_wp2
  go_quiet (fail)
  go_wp2
  go_ret2
  exact ⟨rfl, below_drewN (((Below.refl _ w).alloc (Nat.le_refl _) _).trans hB) _⟩

end Go.Proofs.Qxb6600504aDoor
