import Derived.Test.Qxb6613049aFmtR2
import Derived.Test.Qxb6613049aFmtPlain3
namespace Go.Proofs.Qxb6613049aFmt
open Go.RowKit

theorem one_le (bs : List UInt8) (p : Nat) : one bs p ≤ 1 := by unfold one; split <;> omega

/-- Where skipEmpty's loop stands: white space is passed. -/
def seRel (b : Nat) (bs : List UInt8) (p r : Nat) (w : World) (g : Nat) (t : Value) (wr : World) : Prop :=
  ∃ (k r' : Nat) (c : Bool), p ≤ k ∧ k + g = bs.length ∧ t = .bool c ∧ RD b bs k r' wr ∧ Only b w wr ∧ stop spI bs k = k ∧ se bs k = se bs p ∧ r + (k - p) ≤ r' ∧ r' ≤ r + 2 * (k - p) + 1 ∧
    (c = true → sc bs p = true) ∧ (c = false → k = stop spI bs p)

theorem at_co (bs : List UInt8) (k : Nat) (h : atB bs k 44 = true) : k < bs.length ∧ byt bs k = 44 := by
  unfold atB at h
  rw [Bool.and_eq_true] at h
  exact ⟨of_decide_eq_true h.1, eq_of_beq h.2⟩
theorem at_nc (bs : List UInt8) (k : Nat) (h : atB bs k 44 = false) : ¬ (k < bs.length ∧ byt bs k = 44) := by
  rintro ⟨h1, h2⟩
  unfold atB at h
  rw [decide_eq_true h1, Bool.true_and, h2] at h
  cases h

/-- The contract of skipEmpty. -/
def sePost (b : Nat) (bs : List UInt8) (p r : Nat) (w : World) (e : Ending) (w' : World) : Prop :=
  e = .returned (.bool (sc bs p)) ∧ ∃ r', RD b bs (se bs p) r' w' ∧ Only b w w' ∧ r + (se bs p - p) ≤ r' ∧ r' ≤ r + 2 * (se bs p - p) + 2

theorem seRel_start (b : Nat) (bs : List UInt8) (p r : Nat) (w w1 : World) (hp : p ≤ bs.length) (hrd : RD b bs (stop spI bs p) (r + (stop spI bs p - p) + one bs (stop spI bs p)) w1) (ho : Only b w w1) :
    seRel b bs p r w (bs.length - stop spI bs p) (.bool false) w1 := by
  have h1 := stop_ge spI bs p
  have h2 := stop_le spI bs p hp
  have h3 := one_le bs (stop spI bs p)
  refine ⟨stop spI bs p, _, false, h1, by omega, rfl, hrd, ho, stop_idem spI bs p, ?_, by omega, by omega, (fun h => by cases h), (fun _ => rfl)⟩
  by_cases c : stop spI bs p < bs.length ∧ byt bs (stop spI bs p) = 44
  · rw [se_yes bs p c, se_yes bs (stop spI bs p) (by rw [stop_idem]; exact c), stop_idem]
  · rw [se_no bs p c, se_no bs (stop spI bs p) (by rw [stop_idem]; exact c), stop_idem]

theorem seRel_step (b : Nat) (bs : List UInt8) (p r k r' : Nat) (w w1 : World) (hpk : p ≤ k) (hk : k < bs.length) (hc : byt bs k = 44) (hs : stop spI bs k = k) (he : se bs k = se bs p)
    (hr1 : r + (k - p) ≤ r') (hr2 : r' ≤ r + 2 * (k - p) + 1) (hscp : sc bs p = true)
    (hrd : RD b bs (stop spI bs (k + 1)) (r' + one bs k + (stop spI bs (k + 1) - (k + 1)) + one bs (stop spI bs (k + 1))) w1) (ho : Only b w w1) :
    seRel b bs p r w (bs.length - stop spI bs (k + 1)) (.bool true) w1 := by
  have h1 := stop_ge spI bs (k + 1)
  have h2 := stop_le spI bs (k + 1) (by omega)
  have h3 := one_le bs (stop spI bs (k + 1))
  have h4 : one bs k = 1 := by unfold one; rw [if_pos hk]
  refine ⟨stop spI bs (k + 1), _, true, by omega, by omega, rfl, hrd, ho, stop_idem spI bs _, ?_, by omega, by omega, (fun _ => hscp), (fun h => by cases h)⟩
  rw [← he, se_yes bs k (by rw [hs]; exact ⟨hk, hc⟩), hs]
  by_cases c : stop spI bs (k + 1) < bs.length ∧ byt bs (stop spI bs (k + 1)) = 44
  · rw [se_yes bs (k + 1) c, se_yes bs (stop spI bs (k + 1)) (by rw [stop_idem]; exact c), stop_idem]
  · rw [se_no bs (k + 1) c, se_no bs (stop spI bs (k + 1)) (by rw [stop_idem]; exact c), stop_idem]

set_option maxHeartbeats 1000000 in
theorem skipEmpty_any (b : Nat) (bs : List UInt8) (p r : Nat) (w : World) (h : RD b bs p r w) (hp : p ≤ bs.length) (hr : r ≤ 3000000000000) (hn : bs.length ≤ 1048576) :
    Calls Tryf.prog 25 #[.pointer (some ⟨b, 0, none⟩)] w (sePost b bs p r w) := by
  have hm := skipSpace_any b bs p r w h hp (by omega) hn
  go_enter Tryf.func25, Tryf.ntmps25
  go_wp2_with (go_at_call 28; refine hm.mono ?_; rintro e1 w1 ⟨rfl, hrd1, ho1⟩; clear hm; have H1 := hide hrd1; have O1 := hide ho1; clear hrd1 ho1)
  go_loopg [3] (bs.length - stop spI bs p) (fun g t wr => seRel b bs p r w g t wr)
  case atStart => exact seRel_start b bs p r w _ hp H1.out O1.out
  case round =>
    obtain ⟨k, r', c, hpk, hkn, rfl, hrd, ho, hs0, he0, hr1, hr2, hc1, hc2⟩ := hrel
    have hs := hide hs0
    have he := hide he0
    have hx1 := hide hc1
    have hx2 := hide hc2
    have Hg := hide hkn
    have O := hide ho
    have hkl : k ≤ bs.length := by omega
    clear hs0 he0 hc1 hc2 hkn ho
    have ha := at_any b bs k r' 44 wr hrd (by omega) hn
    generalize hab : atB bs k 44 = ab at ha
    clear hrd
    cases ab with
    | true =>
      obtain ⟨q1, q2⟩ := at_co bs k hab
      clear hab
      go_wp2_with (first
        | (go_at_call 34; refine ha.mono ?_; rintro e1 w2 ⟨rfl, hrd2, ho2⟩; clear ha; have H2 := hide hrd2; have O2 := hide ho2; obtain ⟨g0, g1, g2, gf1, gf2⟩ := hrd2; clear ho2)
        | (go_at_call 28; refine (skipSpace_any b bs (k + 1) (r' + one bs k) _ (H2.out.move (k + 1)) (by omega) (by have := one_le bs k; omega) hn).mono ?_; rintro e3 w3 ⟨rfl, hrd3, ho3⟩; have H3 := hide hrd3; have O3 := hide ho3; clear hrd3 ho3))
      go_roundg (bs.length - stop spI bs (k + 1))
      case measure => have := stop_ge spI bs (k + 1); have := Hg.out; omega
      case rel =>
        refine seRel_step b bs p r k r' w _ hpk q1 q2 hs.out he.out hr1 hr2 ?_ H3.out (((O.out.trans O2.out).setCell 1 _).trans O3.out)
        cases c with
        | true => exact hx1.out rfl
        | false =>
          have := hx2.out rfl
          unfold sc
          rw [← this, decide_eq_true ⟨q1, q2⟩]
    | false =>
      have q := hide (at_nc bs k hab)
      clear hab
      go_wp2_with (go_at_call 34; refine ha.mono ?_; rintro e1 w2 ⟨rfl, hrd2, ho2⟩; clear ha; have H2 := hide hrd2; have O2 := hide ho2; clear hrd2 ho2)
      go_ret
      have hse : se bs p = k := by
        rw [← he.out, se_no bs k (by rw [hs.out]; exact q.out), hs.out]
      have h1 := one_le bs k
      refine ⟨ret_bool ?_, r' + one bs k, by rw [hse]; exact H2.out, O.out.trans O2.out, by rw [hse]; omega, by rw [hse]; omega⟩
      cases c with
      | true => exact (hx1.out rfl).symm
      | false =>
        have := hx2.out rfl
        unfold sc
        rw [← this, decide_eq_false q.out]

end Go.Proofs.Qxb6613049aFmt
