import Derived.Test.Qxb6613049aFmtZ0
import Derived.Test.Qxb6613049aFmtPlain5
import Derived.Deep.CutBlock
import Derived.Deep.DeepCutAuto
namespace Go.Proofs.Qxb6613049aFmt
open Go.RowKit

/-- A text and whether there is one. -/
def okRet : Option (List UInt8) → Ending
  | none => .returned (.tuple #[.string ⟨#[]⟩, .bool false])
  | some v => .returned (.tuple #[.string (mk v), .bool true])

set_option maxHeartbeats 4000000 in
set_option maxRecDepth 100000 in
theorem zzToken68_any (bs : List UInt8) (q : Nat) (w : World) (hq : q ≤ bs.length) (hn : bs.length ≤ 1048576) :
    Calls Tryf.prog 24 #[.string (mk bs), .int .i64 q] w fun e w' => e = okRet (t68 bs q bs.length) ∧ w' = w := by
  have hz := mk_size bs
  have m1 := stop_ge t6I bs q
  have m2 := stop_le t6I bs q hq
  go_enter Tryf.func24, Tryf.ntmps24
  go_upto_block 0 with fail
  go_cut [6] (fun t wx => t = .int .i64 (stop t6I bs q : Nat) ∧ w = wx)
  case first =>
    go_wp2_with fail
    go_loop [6] (fun t => ∃ k : Nat, q ≤ k ∧ k ≤ bs.length ∧ t = .int .i64 k ∧ Hid (stop t6I bs k = stop t6I bs q)) (fun t => bs.length - (intOf t).toNat)
    case atStart => exact ⟨q, Nat.le_refl _, hq, rfl, rfl⟩
    case round =>
      obtain ⟨k, hik, hk, rfl, hst⟩ := hrel
      by_cases hlt : k < bs.length
      · have hlt' : (k : Int) < (bs.length : Int) := by omega
        have hgk := mk_get bs k (by rw [hz]; exact hlt)
        cases hs : t6I (byt bs k) with
        | true =>
          go_wp2_with (go_at_call 33; refine (zzIsT68_any _ _).mono ?_; rintro e1 w1 ⟨rfl, rfl⟩)
          go_round
          case rel => exact ⟨k + 1, by omega, by omega, by go_num, by rw [Hid, ← hst.out, stop_yes t6I bs k hlt hs]⟩
          case measure => simp [intOf]; omega
        | false =>
          go_wp2_with (go_at_call 33; refine (zzIsT68_any _ _).mono ?_; rintro e1 w1 ⟨rfl, rfl⟩)
          go_meet
          case rel => exact ⟨by rw [← hst.out, stop_no t6I bs k hlt hs], rfl⟩
      · have hlt' : decide (k < bs.length) = false := by simp; omega
        go_wp2
        go_meet
        case rel => exact ⟨by rw [← hst.out, stop_end t6I bs k (by omega)], rfl⟩
  case rest =>
    obtain ⟨rfl, rfl⟩ := hcut
    generalize hm : stop t6I bs q = m at *
    have Hm : Hid (t6m bs q = m) := hm
    clear hm
    by_cases hmq : m = q
    · have hbe : ((m : Int) == (q : Int)) = true := by simp; omega
      go_wp2
      go_ret2
      refine ⟨?_, rfl⟩
      unfold t68
      rw [if_pos (by rw [Hm.out]; exact hmq)]
      rfl
    · have hbe : ((m : Int) == (q : Int)) = false := by simp; omega
      go_upto_block 2 with fail
      go_cut [6] (fun t wx => t = .int .i64 (stop eqI bs m : Nat) ∧ w = wx)
      case first =>
        go_wp2_with fail
        go_loop [6] (fun t => ∃ k : Nat, m ≤ k ∧ k ≤ bs.length ∧ t = .int .i64 k ∧ Hid (stop eqI bs k = stop eqI bs m)) (fun t => bs.length - (intOf t).toNat)
        case atStart => exact ⟨m, Nat.le_refl _, m2, rfl, rfl⟩
        case round =>
          obtain ⟨k, hik, hk, rfl, hst⟩ := hrel
          by_cases hlt : k < bs.length
          · have hlt' : (k : Int) < (bs.length : Int) := by omega
            have hgk := mk_get bs k (by rw [hz]; exact hlt)
            cases hs : eqI (byt bs k) with
            | true =>
              have hs2 : (byt bs k == 61) = true := hs
              go_wp2
              go_round
              case rel => exact ⟨k + 1, by omega, by omega, by go_num, by rw [Hid, ← hst.out, stop_yes eqI bs k hlt hs]⟩
              case measure => simp [intOf]; omega
            | false =>
              have hs2 : (byt bs k == 61) = false := hs
              go_wp2
              go_meet
              case rel => exact ⟨by rw [← hst.out, stop_no eqI bs k hlt hs], rfl⟩
          · have hlt' : decide (k < bs.length) = false := by simp; omega
            go_wp2
            go_meet
            case rel => exact ⟨by rw [← hst.out, stop_end eqI bs k (by omega)], rfl⟩
      case rest =>
        obtain ⟨rfl, rfl⟩ := hcut
        generalize he : stop eqI bs m = em at *
        have He : Hid (t6e bs q = em) := by rw [Hid]; unfold t6e; rw [Hm.out]; exact he
        have e2 : em ≤ bs.length := by rw [← he]; exact stop_le eqI bs m m2
        have e1 : m ≤ em := by rw [← he]; exact stop_ge eqI bs m
        clear he
        go_upto_block 4 with fail
        go_cut [6] (fun t wx => t = .int .i64 (stop spI bs em : Nat) ∧ w = wx)
        case first =>
          go_wp2_with fail
          go_loop [6] (fun t => ∃ k : Nat, em ≤ k ∧ k ≤ bs.length ∧ t = .int .i64 k ∧ Hid (stop spI bs k = stop spI bs em)) (fun t => bs.length - (intOf t).toNat)
          case atStart => exact ⟨em, Nat.le_refl _, e2, rfl, rfl⟩
          case round =>
            obtain ⟨k, hik, hk, rfl, hst⟩ := hrel
            by_cases hlt : k < bs.length
            · have hlt' : (k : Int) < (bs.length : Int) := by omega
              have hgk := mk_get bs k (by rw [hz]; exact hlt)
              cases hs : spI (byt bs k) with
              | true =>
                go_wp2_with (go_at_call 22; refine (zzIsSpace_any _ _).mono ?_; rintro e1 w1 ⟨rfl, rfl⟩)
                go_round
                case rel => exact ⟨k + 1, by omega, by omega, by go_num, by rw [Hid, ← hst.out, stop_yes spI bs k hlt hs]⟩
                case measure => simp [intOf]; omega
              | false =>
                go_wp2_with (go_at_call 22; refine (zzIsSpace_any _ _).mono ?_; rintro e1 w1 ⟨rfl, rfl⟩)
                go_meet
                case rel => exact ⟨by rw [← hst.out, stop_no spI bs k hlt hs], rfl⟩
            · have hlt' : decide (k < bs.length) = false := by simp; omega
              go_wp2
              go_meet
              case rel => exact ⟨by rw [← hst.out, stop_end spI bs k (by omega)], rfl⟩
        case rest =>
          obtain ⟨rfl, rfl⟩ := hcut
          generalize hf : stop spI bs em = fm at *
          have Hf := hide hf
          have f2 : fm ≤ bs.length := by rw [← hf]; exact stop_le spI bs em e2
          have f1 : em ≤ fm := by rw [← hf]; exact stop_ge spI bs em
          clear hf
          by_cases hfn : fm = bs.length
          · have hbe : ((fm : Int) != (bs.length : Int)) = false := by simp [hfn]
            go_wp2
            go_ret2
            refine ⟨?_, rfl⟩
            unfold t68
            rw [if_neg (by rw [Hm.out]; exact hmq), He.out, if_pos (by rw [Hf.out]; exact hfn)]
            unfold okRet
            rw [mk_extract]
            rfl
          · have hbe : ((fm : Int) != (bs.length : Int)) = true := by simp; omega
            go_wp2
            go_ret2
            refine ⟨?_, rfl⟩
            unfold t68
            rw [if_neg (by rw [Hm.out]; exact hmq), He.out, if_neg (by rw [Hf.out]; exact hfn)]
            rfl

end Go.Proofs.Qxb6613049aFmt
