import Derived.Test.Qxb6613049aFmtR0
import Derived.Test.Qxb6613049aFmtShelf
namespace Go.Proofs.Qxb6613049aFmt
open Go.RowKit

def tcL : List UInt8 := [33, 35, 36, 37, 38, 39, 42, 43, 45, 46, 94, 95, 96, 124, 126]
def t6L : List UInt8 := [45, 46, 95, 126, 43, 47]
theorem tc_all : (List.range 256).all (fun n => alI (n : Int) || (decide (0 ≤ Lib.indexByte tcL n.toUInt8) == tcI (n : Int))) = true := by kernel_rfl
theorem t6_all : (List.range 256).all (fun n => alI (n : Int) || (decide (0 ≤ Lib.indexByte t6L n.toUInt8) == t6I (n : Int))) = true := by kernel_rfl
theorem tc_ix (x : Int) (h0 : 0 ≤ x) (h1 : x ≤ 255) (ha : alI x = false) : decide (0 ≤ Lib.indexByte tcL x.toNat.toUInt8) = tcI x := by
  have h := List.all_eq_true.1 tc_all x.toNat (List.mem_range.2 (by omega))
  have e : ((x.toNat : Nat) : Int) = x := by omega
  simp only [e, ha, Bool.false_or] at h
  exact eq_of_beq h
theorem t6_ix (x : Int) (h0 : 0 ≤ x) (h1 : x ≤ 255) (ha : alI x = false) : decide (0 ≤ Lib.indexByte t6L x.toNat.toUInt8) = t6I x := by
  have h := List.all_eq_true.1 t6_all x.toNat (List.mem_range.2 (by omega))
  have e : ((x.toNat : Nat) : Int) = x := by omega
  simp only [e, ha, Bool.false_or] at h
  exact eq_of_beq h

theorem tc_al (x : Int) (h : alI x = true) : tcI x = true := by unfold tcI; rw [h]; rfl
theorem t6_al (x : Int) (h : alI x = true) : t6I x = true := by unfold t6I; rw [h]; rfl
theorem al_yes (x : Int) (h : (97 ≤ x ∧ x ≤ 122) ∨ (65 ≤ x ∧ x ≤ 90) ∨ (48 ≤ x ∧ x ≤ 57)) : alI x = true := by
  unfold alI
  simp
  omega
theorem al_no (x : Int) (h : ¬ ((97 ≤ x ∧ x ≤ 122) ∨ (65 ≤ x ∧ x ≤ 90) ∨ (48 ≤ x ∧ x ≤ 57))) : alI x = false := by
  unfold alI
  simp
  omega
theorem classes (x : Int) : (x < 48) ∨ (48 ≤ x ∧ x ≤ 57) ∨ (58 ≤ x ∧ x ≤ 64) ∨ (65 ≤ x ∧ x ≤ 90) ∨ (91 ≤ x ∧ x ≤ 96) ∨ (97 ≤ x ∧ x ≤ 122) ∨ 123 ≤ x := by omega

set_option maxHeartbeats 4000000 in
theorem isTokenChar_any (x : Int) (h0 : 0 ≤ x) (h1 : x ≤ 255) (w : World) : Calls Tryf.prog 35 #[.int .u8 x] w fun e w' => e = .returned (.bool (tcI x)) ∧ w' = w := by
  have hz : Hid (0 ≤ x ∧ x ≤ 255) := ⟨h0, h1⟩
  clear h0 h1
  rcases classes x with h | h | h | h | h | h | h
  all_goals
    have hh := hide h
    first | have d1 := decide_eq_true (show (97 : Int) ≤ x by omega) | have d1 := decide_eq_false (show ¬ (97 : Int) ≤ x by omega)
    first | have d2 := decide_eq_true (show x ≤ (122 : Int) by omega) | have d2 := decide_eq_false (show ¬ x ≤ (122 : Int) by omega)
    first | have d3 := decide_eq_true (show (65 : Int) ≤ x by omega) | have d3 := decide_eq_false (show ¬ (65 : Int) ≤ x by omega)
    first | have d4 := decide_eq_true (show x ≤ (90 : Int) by omega) | have d4 := decide_eq_false (show ¬ x ≤ (90 : Int) by omega)
    first | have d5 := decide_eq_true (show (48 : Int) ≤ x by omega) | have d5 := decide_eq_false (show ¬ (48 : Int) ≤ x by omega)
    first | have d6 := decide_eq_true (show x ≤ (57 : Int) by omega) | have d6 := decide_eq_false (show ¬ x ≤ (57 : Int) by omega)
    clear h
    go_enter Tryf.func35, Tryf.ntmps35
    go_wp2_with (go_at_call 42; refine (Tryf.strings_IndexByte _ _ _).mono ?_; rintro e1 w1 ⟨rfl, rfl⟩)
    go_ret
    have h2 := hh.out
    first
    | exact ⟨ret_bool (tc_al x (al_yes x (by omega))).symm, rfl⟩
    | exact ⟨ret_bool (tc_ix x hz.out.1 hz.out.2 (al_no x (by omega))), rfl⟩

set_option maxHeartbeats 4000000 in
theorem isToken68Char_any (x : Int) (h0 : 0 ≤ x) (h1 : x ≤ 255) (w : World) : Calls Tryf.prog 39 #[.int .u8 x] w fun e w' => e = .returned (.bool (t6I x)) ∧ w' = w := by
  have hz : Hid (0 ≤ x ∧ x ≤ 255) := ⟨h0, h1⟩
  clear h0 h1
  rcases classes x with h | h | h | h | h | h | h
  all_goals
    have hh := hide h
    first | have d1 := decide_eq_true (show (97 : Int) ≤ x by omega) | have d1 := decide_eq_false (show ¬ (97 : Int) ≤ x by omega)
    first | have d2 := decide_eq_true (show x ≤ (122 : Int) by omega) | have d2 := decide_eq_false (show ¬ x ≤ (122 : Int) by omega)
    first | have d3 := decide_eq_true (show (65 : Int) ≤ x by omega) | have d3 := decide_eq_false (show ¬ (65 : Int) ≤ x by omega)
    first | have d4 := decide_eq_true (show x ≤ (90 : Int) by omega) | have d4 := decide_eq_false (show ¬ x ≤ (90 : Int) by omega)
    first | have d5 := decide_eq_true (show (48 : Int) ≤ x by omega) | have d5 := decide_eq_false (show ¬ (48 : Int) ≤ x by omega)
    first | have d6 := decide_eq_true (show x ≤ (57 : Int) by omega) | have d6 := decide_eq_false (show ¬ x ≤ (57 : Int) by omega)
    clear h
    go_enter Tryf.func39, Tryf.ntmps39
    go_wp2_with (go_at_call 42; refine (Tryf.strings_IndexByte _ _ _).mono ?_; rintro e1 w1 ⟨rfl, rfl⟩)
    go_ret
    have h2 := hh.out
    first
    | exact ⟨ret_bool (t6_al x (al_yes x (by omega))).symm, rfl⟩
    | exact ⟨ret_bool (t6_ix x hz.out.1 hz.out.2 (al_no x (by omega))), rfl⟩

set_option maxHeartbeats 1000000 in
theorem isQuotedByte_any (x : Int) (w : World) : Calls Tryf.prog 46 #[.int .u8 x] w fun e w' => e = .returned (.bool (qbI x)) ∧ w' = w := by
  unfold qbI
  cases h1 : (x == 9) with
  | true =>
    go_enter Tryf.func46, Tryf.ntmps46
    go_wp2
    go_ret
    exact ⟨by simp, rfl⟩
  | false =>
    cases h2 : decide ((32 : Int) ≤ x) with
    | true =>
      go_enter Tryf.func46, Tryf.ntmps46
      go_wp2
      go_ret
      exact ⟨by simp; rfl, rfl⟩
    | false =>
      go_enter Tryf.func46, Tryf.ntmps46
      go_wp2
      go_ret
      exact ⟨by simp, rfl⟩

end Go.Proofs.Qxb6613049aFmt
