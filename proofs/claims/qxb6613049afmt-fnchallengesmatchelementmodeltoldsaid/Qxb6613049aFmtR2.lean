import Derived.Test.Qxb6613049aFmtR1
namespace Go.Proofs.Qxb6613049aFmt
open Go.RowKit

theorem ret_string {a b : ByteArray} (h : a = b) : Ending.returned (.string a) = .returned (.string b) := by rw [h]

set_option maxHeartbeats 1000000 in
theorem token_any (b : Nat) (bs : List UInt8) (p r : Nat) (w : World) (h : RD b bs p r w) (hp : p ≤ bs.length) (hr : r ≤ 4000000000000) (hn : bs.length ≤ 1048576) :
    Calls Tryf.prog 26 #[.pointer (some ⟨b, 0, none⟩)] w fun e w' => e = .returned (.string (mk (fldOf bs p (stop tcI bs p)))) ∧ RD b bs (stop tcI bs p) (r + (stop tcI bs p - p) + one bs (stop tcI bs p)) w' ∧ Only b w w' := by
  have H := hide h
  obtain ⟨h0, h1, h2, f1, f2⟩ := h
  have hz := mk_size bs
  go_enter Tryf.func26, Tryf.ntmps26
  go_wp2
  go_loopg [26] (bs.length - p) (fun g _ wr => runRel tcI b bs p r w g wr)
  case atStart => exact ⟨p, r, Nat.le_refl _, by omega, by omega, H.out, Only.refl _ _, rfl⟩
  case round =>
    obtain ⟨k, r', hpk, hkn, hr', hrd, ho, hst0⟩ := hrel
    have hst := hide hst0
    have HR := hide hrd
    have Hr := hide hr'
    have hr2 : r' ≤ 4000002000000 := by omega
    have Hg := hide hkn
    have hkl : k ≤ bs.length := by omega
    clear hst0 hr' hkn
    obtain ⟨g0, g1, g2, gf1, gf2⟩ := hrd
    by_cases hk : k < bs.length
    · have hlt : (k : Int) < (bs.length : Int) := by omega
      cases hs : tcI (byt bs k) with
      | true =>
        go_wp2
        go_region_held (fun w' => w'.cell? ⟨b, 0, none⟩ = some (.string (mk bs)) ∧ w'.cell? ⟨b, 1, none⟩ = some (.int .i64 k)) (simp [*, World.cell?_setCell_other])
          (first | (go_at_call 36; refine (byteAt_any b bs k r' k _ (by exact HR.out) hk (by omega) hn).mono ?_; rintro e1 w1 ⟨rfl, rfl⟩) | (go_at_call 35; refine (isTokenChar_any _ (byt_nonneg bs k) (byt_le bs k) _).mono ?_; rintro e2 w2 ⟨rfl, rfl⟩))
        all_goals
          go_wp2
          go_roundg (gk - 1)
          case measure => have := Hg.out; omega
          case rel => exact ⟨k + 1, r' + 1, by omega, by have := Hg.out; omega, by have := Hr.out; omega, HR.out.step, ho.step _ _, by rw [← hst.out, stop_yes tcI bs k hk hs]⟩
      | false =>
        have E : Hid (stop tcI bs p = k) := by rw [Hid, ← hst.out]; exact stop_no tcI bs k hk hs
        go_wp2
        go_region_held (fun w' => w'.cell? ⟨b, 0, none⟩ = some (.string (mk bs)) ∧ w'.cell? ⟨b, 1, none⟩ = some (.int .i64 k)) (simp [*, World.cell?_setCell_other])
          (first | (go_at_call 36; refine (byteAt_any b bs k r' k _ (by exact HR.out) hk (by omega) hn).mono ?_; rintro e1 w1 ⟨rfl, rfl⟩) | (go_at_call 35; refine (isTokenChar_any _ (byt_nonneg bs k) (byt_le bs k) _).mono ?_; rintro e2 w2 ⟨rfl, rfl⟩))
        all_goals
          go_wp2
          go_quiet (fail)
          go_wp2
          go_ret
          refine ⟨ret_string (by rw [mk_extract, E.out]), ?_, ((ho.setCell 2 _).drew).drewN _⟩
          rw [E.out, ← Hr.out, one, if_pos hk]
          exact HR.out.read
    · have hlt : decide (k < bs.length) = false := by simp; omega
      have E : Hid (stop tcI bs p = k) := by rw [Hid, ← hst.out]; exact stop_end tcI bs k (by omega)
      go_wp2
      go_quiet (fail)
      go_wp2
      go_quiet (fail)
      go_wp2
      go_ret
      refine ⟨ret_string (by rw [mk_extract, E.out]), ?_, (ho.drewN _).drewN _⟩
      rw [E.out, ← Hr.out, one, if_neg hk]
      exact HR.out


end Go.Proofs.Qxb6613049aFmt
