import Derived.Test.Qxb6613049aFmtR1
namespace Go.Proofs.Qxb6613049aFmt
open Go.RowKit

theorem zzIsSpace_any (x : Int) (w : World) : Calls Tryf.prog 22 #[.int .u8 x] w fun e w' => e = .returned (.bool (spI x)) ∧ w' = w := by
  unfold spI
  cases h1 : (x == 32) with
  | true =>
    go_enter Tryf.func22, Tryf.ntmps22
    go_wp2
    go_ret
    exact ⟨by simp, rfl⟩
  | false =>
    go_enter Tryf.func22, Tryf.ntmps22
    go_wp2
    go_ret
    exact ⟨by simp, rfl⟩

set_option maxHeartbeats 1000000 in
theorem zzIsQuotedByte_any (x : Int) (w : World) : Calls Tryf.prog 32 #[.int .u8 x] w fun e w' => e = .returned (.bool (qbI x)) ∧ w' = w := by
  unfold qbI
  cases h1 : (x == 9) with
  | true =>
    go_enter Tryf.func32, Tryf.ntmps32
    go_wp2
    go_ret
    exact ⟨by simp, rfl⟩
  | false =>
    cases h2 : decide ((32 : Int) ≤ x) with
    | true =>
      go_enter Tryf.func32, Tryf.ntmps32
      go_wp2
      go_ret
      exact ⟨by simp; rfl, rfl⟩
    | false =>
      go_enter Tryf.func32, Tryf.ntmps32
      go_wp2
      go_ret
      exact ⟨by simp, rfl⟩

set_option maxHeartbeats 4000000 in
theorem zzIsAlnum_any (x : Int) (w : World) : Calls Tryf.prog 31 #[.int .u8 x] w fun e w' => e = .returned (.bool (alI x)) ∧ w' = w := by
  rcases classes x with h | h | h | h | h | h | h
  all_goals
    have hh := hide h
    first | have d1 := decide_eq_true (show (97 : Int) ≤ x by omega) | have d1 := decide_eq_false (show ¬ (97 : Int) ≤ x by omega)
    first | have d2 := decide_eq_true (show x ≤ (122 : Int) by omega) | have d2 := decide_eq_false (show ¬ x ≤ (122 : Int) by omega)
    first | have d3 := decide_eq_true (show (65 : Int) ≤ x by omega) | have d3 := decide_eq_false (show ¬ (65 : Int) ≤ x by omega)
    first | have d4 := decide_eq_true (show x ≤ (90 : Int) by omega) | have d4 := decide_eq_false (show ¬ x ≤ (90 : Int) by omega)
    first | have d5 := decide_eq_true (show (48 : Int) ≤ x by omega) | have d5 := decide_eq_false (show ¬ (48 : Int) ≤ x by omega)
    first | have d6 := decide_eq_true (show x ≤ (57 : Int) by omega) | have d6 := decide_eq_false (show ¬ x ≤ (57 : Int) by omega)
    clear h
    go_enter Tryf.func31, Tryf.ntmps31
    go_wp2
    go_ret
    have h2 := hh.out
    first
    | exact ⟨ret_bool (al_yes x (by omega)).symm, rfl⟩
    | exact ⟨ret_bool (al_no x (by omega)).symm, rfl⟩

theorem zzIsTchar_cases (x : Int) : (x = 33 ∨ x = 35 ∨ x = 36 ∨ x = 37 ∨ x = 38 ∨ x = 39 ∨ x = 42 ∨ x = 43 ∨ x = 45 ∨ x = 46 ∨ x = 94 ∨ x = 95 ∨ x = 96 ∨ x = 124 ∨ x = 126) ∨ ((x == 33) = false ∧ (x == 35) = false ∧ (x == 36) = false ∧ (x == 37) = false ∧ (x == 38) = false ∧ (x == 39) = false ∧ (x == 42) = false ∧ (x == 43) = false ∧ (x == 45) = false ∧ (x == 46) = false ∧ (x == 94) = false ∧ (x == 95) = false ∧ (x == 96) = false ∧ (x == 124) = false ∧ (x == 126) = false) := by
  simp only [beq_eq_false_iff_ne, ne_eq]
  omega
set_option maxHeartbeats 4000000 in
theorem zzIsTchar_any (x : Int) (w : World) : Calls Tryf.prog 21 #[.int .u8 x] w fun e w' => e = .returned (.bool (tcI x)) ∧ w' = w := by
  cases ha : alI x with
  | true =>
    have hh := hide ha
    go_enter Tryf.func21, Tryf.ntmps21
    go_wp2_with (go_at_call 31; refine (zzIsAlnum_any _ _).mono ?_; rintro e1 w1 ⟨rfl, rfl⟩)
    go_ret
    exact ⟨ret_bool (tc_al x hh.out).symm, rfl⟩
  | false =>
    have hh := hide ha
    rcases zzIsTchar_cases x with h | h
    · rcases h with rfl | rfl | rfl | rfl | rfl | rfl | rfl | rfl | rfl | rfl | rfl | rfl | rfl | rfl | rfl
      all_goals
        go_enter Tryf.func21, Tryf.ntmps21
        go_wp2_with (go_at_call 31; refine (zzIsAlnum_any _ _).mono ?_; rintro e1 w1 ⟨rfl, rfl⟩)
        go_ret
        exact ⟨rfl, rfl⟩
    · have h' := hide h
      obtain ⟨z33, z35, z36, z37, z38, z39, z42, z43, z45, z46, z94, z95, z96, z124, z126⟩ := h
      have ev : Hid (false = tcI x) := by
        rw [Hid]; unfold tcI; rw [hh.out, z33, z35, z36, z37, z38, z39, z42, z43, z45, z46, z94, z95, z96, z124, z126]; rfl
      go_enter Tryf.func21, Tryf.ntmps21
      go_wp2_with (go_at_call 31; refine (zzIsAlnum_any _ _).mono ?_; rintro e1 w1 ⟨rfl, rfl⟩)
      go_ret
      exact ⟨ret_bool ev.out, rfl⟩

theorem zzIsT68_cases (x : Int) : (x = 45 ∨ x = 46 ∨ x = 95 ∨ x = 126 ∨ x = 43 ∨ x = 47) ∨ ((x == 45) = false ∧ (x == 46) = false ∧ (x == 95) = false ∧ (x == 126) = false ∧ (x == 43) = false ∧ (x == 47) = false) := by
  simp only [beq_eq_false_iff_ne, ne_eq]
  omega
set_option maxHeartbeats 4000000 in
theorem zzIsT68_any (x : Int) (w : World) : Calls Tryf.prog 33 #[.int .u8 x] w fun e w' => e = .returned (.bool (t6I x)) ∧ w' = w := by
  cases ha : alI x with
  | true =>
    have hh := hide ha
    go_enter Tryf.func33, Tryf.ntmps33
    go_wp2_with (go_at_call 31; refine (zzIsAlnum_any _ _).mono ?_; rintro e1 w1 ⟨rfl, rfl⟩)
    go_ret
    exact ⟨ret_bool (t6_al x hh.out).symm, rfl⟩
  | false =>
    have hh := hide ha
    rcases zzIsT68_cases x with h | h
    · rcases h with rfl | rfl | rfl | rfl | rfl | rfl
      all_goals
        go_enter Tryf.func33, Tryf.ntmps33
        go_wp2_with (go_at_call 31; refine (zzIsAlnum_any _ _).mono ?_; rintro e1 w1 ⟨rfl, rfl⟩)
        go_ret
        exact ⟨rfl, rfl⟩
    · have h' := hide h
      obtain ⟨z45, z46, z95, z126, z43, z47⟩ := h
      have ev : Hid (false = t6I x) := by
        rw [Hid]; unfold t6I; rw [hh.out, z45, z46, z95, z126, z43, z47]; rfl
      go_enter Tryf.func33, Tryf.ntmps33
      go_wp2_with (go_at_call 31; refine (zzIsAlnum_any _ _).mono ?_; rintro e1 w1 ⟨rfl, rfl⟩)
      go_ret
      exact ⟨ret_bool ev.out, rfl⟩

end Go.Proofs.Qxb6613049aFmt
