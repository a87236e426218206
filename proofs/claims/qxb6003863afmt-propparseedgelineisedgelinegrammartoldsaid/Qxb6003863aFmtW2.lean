import Derived.Test.Qxb6003863aFmtW1
namespace Go.Proofs.Qxb6003863aFmt
open Go.RowKit

/-- What zzID hands back. -/
def idV : Option Nat → Value
  | some v => .tuple #[.int .i64 (v : Int), .bool true]
  | none => .tuple #[.int .i64 0, .bool false]

def idRel (bs : List UInt8) (t u : Value) : Prop := ∃ k v : Nat, k ≤ bs.length ∧ v ≤ top63 ∧ u = .int .i64 k ∧ t = .int .u64 v ∧ idAcc (bs.drop k) v = idAcc bs 0

set_option maxHeartbeats 400000 in
theorem zzID_any (b off n cap : Nat) (bs : List UInt8) (w : World) (hn : bs.length = n) (h0 : 0 < n) (hmax : n ≤ 1048576)
    (hc : ∀ j, j < n → w.cell? ⟨b, off + j, none⟩ = some (.int .u8 (byt bs j))) :
    Calls Tryf.prog 9 #[.slice (some ⟨b, off, none⟩) n cap] w fun e w' => e = .returned (idV (idAcc bs 0)) ∧ w' = w := by
  go_enter Tryf.func9, Tryf.ntmps9
  go_wp2
  go_loop [2, 3, 4, 5] (fun _ _ t u => idRel bs t u) (fun _ _ _ t => n - (intOf t).toNat)
  case atStart => exact ⟨0, 0, by omega, by unfold top63; omega, rfl, rfl, rfl⟩
  case round =>
    obtain ⟨k, v, hk, hv, rfl, rfl, hst0⟩ := hrel
    have hst := hide hst0
    clear hst0
    rw [hn] at hk
    have hv' : (v : Int) ≤ 9223372036854775807 := by unfold top63 at hv; omega
    by_cases hlt : k < n
    · have hcell := hc k hlt
      have hx0 := byt_nonneg bs k
      have hx1 := byt_le bs k
      by_cases hd : 48 ≤ byt bs k ∧ byt bs k ≤ 57
      · obtain ⟨hd1, hd2⟩ := hd
        by_cases hbig : (v : Int) * 10 + (byt bs k - 48) ≤ 9223372036854775807
        · obtain ⟨e1, e2, e3⟩ := idAt_yes bs k v (by omega) ⟨hd1, hd2⟩ (by unfold top63; exact hbig)
          have E1 : Hid (idAcc (bs.drop (k + 1)) (v * 10 + (byt bs k - 48).toNat) = idAcc bs 0) := by rw [Hid, ← e1]; exact hst.out
          have hle : (v : Int) ≤ (9223372036854775807 - (byt bs k - 48)) / 10 := by omega
          have E2 : Hid (((v * 10 + (byt bs k - 48).toNat : Nat) : Int) = v * 10 + (byt bs k - 48)) := e2
          clear e1 e2 hst
          go_wp2
          go_round
          case rel => refine ⟨_, _, _, _, ?_, rfl, rfl, rfl, rfl⟩; exact ⟨k + 1, v * 10 + (byt bs k - 48).toNat, by omega, e3, by go_num, by rw [E2.out], E1.out⟩
          case measure => simp [intOf]; omega
        · have E1 : Hid (idAcc bs 0 = none) := by rw [Hid, ← hst.out]; exact idAt_big bs k v (by omega) (by unfold top63; omega)
          have hle : (9223372036854775807 - (byt bs k - 48)) / 10 < (v : Int) := by omega
          go_wp2
          go_ret2
          exact ⟨by rw [E1.out]; rfl, rfl⟩
      · have E1 : Hid (idAcc bs 0 = none) := by rw [Hid, ← hst.out]; exact idAt_no bs k v (by omega) hd
        by_cases hd1 : byt bs k < 48
        · go_wp2
          go_ret2
          exact ⟨by rw [E1.out]; rfl, rfl⟩
        · have hd2 : 57 < byt bs k := by omega
          go_wp2
          go_ret2
          exact ⟨by rw [E1.out]; rfl, rfl⟩
    · have E1 : Hid (idAcc bs 0 = some v) := by rw [Hid, ← hst.out, List.drop_eq_nil_of_le (by omega)]; rfl
      go_wp2
      go_ret2
      exact ⟨by rw [E1.out]; rfl, rfl⟩

end Go.Proofs.Qxb6003863aFmt
