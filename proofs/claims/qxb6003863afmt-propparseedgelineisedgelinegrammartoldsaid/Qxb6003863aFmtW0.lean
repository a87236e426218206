import Derived.Test.Qxb6003863aFmtRows
import Derived.Test.Qxb6003863aFmtPlain
import Derived.WalkKit
import Derived.WalkSpells
import Derived.WalkLawsBesides
namespace Go.Proofs.Qxb6003863aFmt
open Go.RowKit

theorem hide {p : Prop} (h : p) : Hid p := h
theorem ret_int {k : IntKind} {a b : Int} (h : a = b) : Ending.returned (.int k a) = .returned (.int k b) := by rw [h]

set_option maxHeartbeats 400000 in
theorem isBlank_any (x : Int) (w : World) :
    Calls Tryf.prog 34 #[.int .u8 x] w fun e w' => e = .returned (.bool (blankI x)) ∧ w' = w := by
  unfold blankI
  by_cases h : (x == 32) = true
  · go_enter Tryf.func34, Tryf.ntmps34
    go_wp2
    go_ret
    exact ⟨by simp [h], rfl⟩
  · have h' : (x == 32) = false := by simpa using h
    go_enter Tryf.func34, Tryf.ntmps34
    go_wp2
    go_ret
    exact ⟨by simp [h'], rfl⟩

set_option maxHeartbeats 400000 in
theorem zzIsBlank_any (x : Int) (w : World) :
    Calls Tryf.prog 25 #[.int .u8 x] w fun e w' => e = .returned (.bool (blankI x)) ∧ w' = w := by
  unfold blankI
  by_cases h : (x == 32) = true
  · go_enter Tryf.func25, Tryf.ntmps25
    go_wp2
    go_ret
    exact ⟨by simp [h], rfl⟩
  · have h' : (x == 32) = false := by simpa using h
    go_enter Tryf.func25, Tryf.ntmps25
    go_wp2
    go_ret
    exact ⟨by simp [h'], rfl⟩

set_option maxHeartbeats 400000 in
theorem fieldEnd_any (b off n cap : Nat) (bs : List UInt8) (i : Nat) (w : World) (hn : bs.length = n) (hi : i ≤ n) (hmax : n ≤ 1048576)
    (hc : ∀ j, j < n → w.cell? ⟨b, off + j, none⟩ = some (.int .u8 (byt bs j))) :
    Calls Tryf.prog 37 #[.slice (some ⟨b, off, none⟩) n cap, .int .i64 i] w fun e w' => e = .returned (.int .i64 (stop nblankI bs i : Nat)) ∧ w' = w := by
  go_enter Tryf.func37, Tryf.ntmps37
  go_wp2
  go_loop [1] (fun t => ∃ k : Nat, i ≤ k ∧ k ≤ n ∧ t = .int .i64 k ∧ Hid (stop nblankI bs k = stop nblankI bs i)) (fun t => n - (intOf t).toNat)
  case atStart => exact ⟨i, Nat.le_refl _, hi, rfl, rfl⟩
  case round =>
    obtain ⟨k, hik, hk, rfl, hst⟩ := hrel
    by_cases hlt : k < n
    · have hcell := hc k hlt
      by_cases hb : blankI (byt bs k) = true
      · go_wp2_with (go_at_call 34; refine (isBlank_any _ _).mono ?_; rintro e w' ⟨rfl, rfl⟩)
        go_ret
        exact ⟨ret_int (by rw [← hst.out, stop_no _ _ _ (by omega) (by simp [nblankI, hb])]), rfl⟩
      · have hb' : blankI (byt bs k) = false := by simpa using hb
        go_wp2_with (go_at_call 34; refine (isBlank_any _ _).mono ?_; rintro e w' ⟨rfl, rfl⟩)
        go_round
        case rel => exact ⟨k + 1, by omega, by omega, by go_num, by rw [Hid, ← hst.out, stop_yes nblankI bs k (by omega) (by simp [nblankI, hb'])]⟩
        case measure => simp [intOf]; omega
    · go_wp2
      go_ret
      exact ⟨ret_int (by rw [← hst.out, stop_end _ _ _ (by omega)]), rfl⟩

end Go.Proofs.Qxb6003863aFmt
