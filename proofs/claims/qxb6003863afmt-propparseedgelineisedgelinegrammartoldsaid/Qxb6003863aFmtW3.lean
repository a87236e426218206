import Derived.Test.Qxb6003863aFmtW2
namespace Go.Proofs.Qxb6003863aFmt
open Go.RowKit

theorem ret_bool {a b : Bool} (h : a = b) : Ending.returned (.bool a) = .returned (.bool b) := by rw [h]

set_option maxHeartbeats 400000 in
theorem zzAttribute_any (b off n cap : Nat) (bs : List UInt8) (w : World) (hn : bs.length = n) (h0 : 0 < n) (hmax : n ≤ 1048576)
    (hc : ∀ j, j < n → w.cell? ⟨b, off + j, none⟩ = some (.int .u8 (byt bs j))) :
    Calls Tryf.prog 10 #[.slice (some ⟨b, off, none⟩) n cap] w fun e w' => e = .returned (.bool (attrB bs)) ∧ w' = w := by
  have hcell0 : w.cell? ⟨b, off, none⟩ = some (.int .u8 (byt bs 0)) := hc 0 h0
  go_enter Tryf.func10, Tryf.ntmps10
  go_wp2
  go_loop [3] (fun t => ∃ k : Nat, k ≤ n ∧ t = .int .i64 k ∧ Hid (back bs k = back bs n)) (fun t => (intOf t).toNat)
  case atStart => exact ⟨n, Nat.le_refl _, rfl, rfl⟩
  case round =>
    obtain ⟨k, hk, rfl, hst⟩ := hrel
    by_cases hgo : 0 < k ∧ blankI (byt bs (k - 1)) = true
    · obtain ⟨h1, hb⟩ := hgo
      obtain ⟨m, rfl⟩ : ∃ m, k = m + 1 := ⟨k - 1, by omega⟩
      have hb' : blankI (byt bs m) = true := hb
      have hcell := hc m (by omega)
      clear hb
      go_wp2_with (go_at_call 25; refine (zzIsBlank_any _ _).mono ?_; rintro e w' ⟨rfl, rfl⟩)
      go_round
      case rel => exact ⟨m, by omega, by go_num, by rw [Hid, ← hst.out, back_yes bs m hb']⟩
      case measure => simp [intOf]
    · have hk' : Hid (back bs n = k) := by
        rw [Hid, ← hst.out]
        by_cases h1 : 0 < k
        · obtain ⟨m, rfl⟩ : ∃ m, k = m + 1 := ⟨k - 1, by omega⟩
          exact back_no bs m (by simpa using hgo)
        · obtain rfl : k = 0 := by omega
          rfl
      have hat : Hid (attrB bs = (decide (2 ≤ k) && (byt bs 0 == 123) && (byt bs (k - 1) == 125))) := by
        unfold attrB; rw [hn, hk'.out]; rfl
      by_cases h1 : 0 < k
      · obtain ⟨m, rfl⟩ : ∃ m, k = m + 1 := ⟨k - 1, by omega⟩
        have hb' : blankI (byt bs m) = false := by simpa using hgo
        have hcell := hc m (by omega)
        have hat' : Hid (attrB bs = (decide (2 ≤ m + 1) && (byt bs 0 == 123) && (byt bs m == 125))) := hat
        clear hgo
        by_cases h2 : 1 ≤ m
        · by_cases h3 : (byt bs 0 == 123) = true
          · go_wp2_with (go_at_call 25; refine (zzIsBlank_any _ _).mono ?_; rintro e w' ⟨rfl, rfl⟩)
            go_ret
            exact ⟨ret_bool (by rw [hat'.out, h3]; simp; omega), rfl⟩
          · have h3' : (byt bs 0 == 123) = false := by simpa using h3
            go_wp2_with (go_at_call 25; refine (zzIsBlank_any _ _).mono ?_; rintro e w' ⟨rfl, rfl⟩)
            go_ret
            exact ⟨ret_bool (by rw [hat'.out, h3']; simp), rfl⟩
        · go_wp2_with (go_at_call 25; refine (zzIsBlank_any _ _).mono ?_; rintro e w' ⟨rfl, rfl⟩)
          go_ret
          exact ⟨ret_bool (by rw [hat'.out]; simp; omega), rfl⟩
      · obtain rfl : k = 0 := by omega
        clear hgo
        go_wp2
        go_ret
        exact ⟨ret_bool (by rw [hat.out]; simp), rfl⟩

end Go.Proofs.Qxb6003863aFmt
