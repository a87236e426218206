import Derived.Test.Qxb6003863aFmtW0
namespace Go.Proofs.Qxb6003863aFmt
open Go.RowKit

set_option maxHeartbeats 400000 in
theorem zzNextField_any (b off n cap : Nat) (bs : List UInt8) (i : Nat) (w : World) (hn : bs.length = n) (hi : i ≤ n) (hmax : n ≤ 1048576)
    (hc : ∀ j, j < n → w.cell? ⟨b, off + j, none⟩ = some (.int .u8 (byt bs j))) :
    Calls Tryf.prog 8 #[.slice (some ⟨b, off, none⟩) n cap, .int .i64 i] w fun e w' => e = .returned (.tuple #[.int .i64 (stop blankI bs i : Nat), .int .i64 (stop nblankI bs (stop blankI bs i) : Nat)]) ∧ w' = w := by
  go_enter Tryf.func8, Tryf.ntmps8
  go_wp2
  go_loop [1] (fun t => ∃ k : Nat, i ≤ k ∧ k ≤ n ∧ t = .int .i64 k ∧ Hid (stop blankI bs k = stop blankI bs i)) (fun t => n - (intOf t).toNat)
  case atStart => exact ⟨i, Nat.le_refl _, hi, rfl, rfl⟩
  case round =>
    obtain ⟨k, hik, hk, rfl, hst⟩ := hrel
    by_cases hgo : k < n ∧ blankI (byt bs k) = true
    · obtain ⟨hlt, hb⟩ := hgo
      have hcell := hc k hlt
      go_wp2_with (go_at_call 25; refine (zzIsBlank_any _ _).mono ?_; rintro e w' ⟨rfl, rfl⟩)
      go_round
      case rel => exact ⟨k + 1, by omega, by omega, by go_num, by rw [Hid, ← hst.out, stop_yes blankI bs k (by omega) hb]⟩
      case measure => simp [intOf]; omega
    · have hk' : Hid (stop blankI bs i = k) := by
        rw [Hid, ← hst.out]
        by_cases hlt : k < n
        · exact stop_no _ _ _ (by omega) (by simpa [hlt] using hgo)
        · exact stop_end _ _ _ (by omega)
      by_cases hlt : k < n
      all_goals
        have hcell : k < n → w.cell? ⟨b, off + k, none⟩ = some (.int .u8 (byt bs k)) := fun h => hc k h
        have hb' : k < n → blankI (byt bs k) = false := fun h => by simpa [h] using hgo
        first
          | (have hcell := hcell hlt; have hb' := hb' hlt)
          | skip
        clear hgo
        go_wp2_with (go_at_call 25; refine (zzIsBlank_any _ _).mono ?_; rintro e w' ⟨rfl, rfl⟩)
        go_loop [1] (fun t => ∃ k' : Nat, k ≤ k' ∧ k' ≤ n ∧ t = .int .i64 k' ∧ Hid (stop nblankI bs k' = stop nblankI bs k)) (fun t => n - (intOf t).toNat)
        case atStart => exact ⟨k, Nat.le_refl _, hk, rfl, rfl⟩
        case round =>
          obtain ⟨m, hkm, hm, rfl, hst2⟩ := hrel
          by_cases hlt2 : m < n
          · have hcell2 := hc m hlt2
            by_cases hb2 : blankI (byt bs m) = true
            · go_wp2_with (go_at_call 25; refine (zzIsBlank_any _ _).mono ?_; rintro e w' ⟨rfl, rfl⟩)
              go_ret2
              exact ⟨by rw [hk'.out, ← hst2.out, stop_no nblankI _ _ (by omega) (by simp [nblankI, hb2])]; rfl, rfl⟩
            · have hb2' : blankI (byt bs m) = false := by simpa using hb2
              go_wp2_with (go_at_call 25; refine (zzIsBlank_any _ _).mono ?_; rintro e w' ⟨rfl, rfl⟩)
              go_round
              case rel => exact ⟨m + 1, by omega, by omega, by go_num, by rw [Hid, ← hst2.out, stop_yes nblankI bs m (by omega) (by simp [nblankI, hb2'])]⟩
              case measure => simp [intOf]; omega
          · go_wp2
            go_ret2
            exact ⟨by rw [hk'.out, ← hst2.out, stop_end nblankI _ _ (by omega)]; rfl, rfl⟩

end Go.Proofs.Qxb6003863aFmt
