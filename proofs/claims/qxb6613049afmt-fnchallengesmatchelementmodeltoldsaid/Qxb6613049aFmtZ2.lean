import Derived.Test.Qxb6613049aFmtZ1
import Derived.Shelf.Strings.Builder1
import Derived.Laws.IdiomStrings
import Derived.Laws.AppendOwn
namespace Go.Proofs.Qxb6613049aFmt
open Go.RowKit

theorem row_string {w : World} {B : Nat} {v : Value} {l : List UInt8} (h : w.ownsRow B 5 1 v l.length (Lib.byteCells l)) : (convert 57 9 v).run Tryf.prog w = .ok (.string (mk l)) w := by
  rcases h.2 with ⟨rfl, hn⟩ | ⟨g, cap, cur, rfl, hb, hg, hnc, hcm, hcs, htk⟩
  · have hl : l = [] := List.length_eq_zero_iff.1 hn
    subst hl
    rw [run_convert_bytes_string w 57 9 5 none 0 0 Tryf.underlying57 Tryf.underlying5 Tryf.underlying9]
    simp [Conv.bytesToString]
    rfl
  · exact run_convert_bytes_back w 57 9 5 ⟨g, 0, none⟩ cap l Tryf.underlying57 Tryf.underlying5 Tryf.underlying9 (fun j hj => h.cells rfl j _ (by simp [Lib.byteCells, hj]))
theorem bytes_push (acc : List UInt8) (bs : List UInt8) (k : Nat) : Lib.byteCells acc ++ [Value.int .u8 (byt bs k)] = Lib.byteCells (acc ++ [bs.getD k 0]) := by
  unfold Lib.byteCells
  rw [List.map_append]
  rfl

/-- Where the loop over a quoted string stands. -/
def zvRel (bs : List UInt8) (d : Nat) (w : World) (g : Nat) (t1 t7 t8 : Value) (wr : World) : Prop :=
  ∃ k acc, d + 1 ≤ k ∧ k + g = bs.length ∧ t1 = .int .i64 k ∧ t8 = .bool false ∧ wr.ownsRow w.heap.size 5 1 t7 acc.length (Lib.byteCells acc) ∧ Below w.heap.size w wr ∧ acc.length ≤ k ∧ qs bs k acc = qs bs (d + 1) []

theorem pv_none (bs : List UInt8) (q d : Nat) (hd : stop spI bs q = d) (hx : PV bs d = none) : pv bs q bs.length = none := by
  unfold pv
  rw [hd, hx]
theorem pv_some (bs : List UInt8) (q d j : Nat) (v : List UInt8) (hd : stop spI bs q = d) (hx : PV bs d = some (v, j)) : pv bs q bs.length = if stop spI bs j = bs.length then some v else none := by
  unfold pv
  rw [hd, hx]
theorem qs_get (bs : List UInt8) (i : Nat) (acc : List UInt8) (h : i < bs.length) : qs bs i acc =
    if byt bs i = 34 then some (acc, i + 1)
    else if byt bs i = 92 ∧ i + 1 < bs.length then
      if qbI (byt bs (i + 1)) = true then qs bs (i + 2) (acc ++ [bs.getD (i + 1) 0]) else none
    else if qbI (byt bs i) = true then qs bs (i + 1) (acc ++ [bs.getD i 0]) else none := by
  rw [qs_eq, if_pos h]
theorem qs_off (bs : List UInt8) (i : Nat) (acc : List UInt8) (h : ¬ i < bs.length) : qs bs i acc = none := by
  rw [qs_eq, if_neg h]

set_option maxHeartbeats 8000000 in
set_option maxRecDepth 100000 in
theorem zzParamValue_any (bs : List UInt8) (q : Nat) (w : World) (hq : q ≤ bs.length) (hn : bs.length ≤ 1048576) :
    Calls Tryf.prog 23 #[.string (mk bs), .int .i64 q] w fun e w' => e = okRet (pv bs q bs.length) ∧ Below w.heap.size w w' := by
  have hz := mk_size bs
  have hi5 : Tryf.prog.info? 5 = some Tryf.t5 := by kernel_rfl
  have d1 := stop_ge spI bs q
  have d2 := stop_le spI bs q hq
  go_enter Tryf.func23, Tryf.ntmps23
  go_upto_block 0 with fail
  go_cut [1] (fun t wx => t = .int .i64 (stop spI bs q : Nat) ∧ w = wx)
  case first =>
    go_wp2_with fail
    go_loop [1] (fun t => ∃ sk : Nat, q ≤ sk ∧ sk ≤ bs.length ∧ t = .int .i64 sk ∧ Hid (stop spI bs sk = stop spI bs q)) (fun t => bs.length - (intOf t).toNat)
    case atStart => exact ⟨q, Nat.le_refl _, hq, rfl, rfl⟩
    case round =>
      obtain ⟨sk, hik, hsk, rfl, hst⟩ := hrel
      by_cases hlt : sk < bs.length
      · have hlt' : (sk : Int) < (bs.length : Int) := by omega
        have hgk := mk_get bs sk (by rw [hz]; exact hlt)
        cases hs : spI (byt bs sk) with
        | true =>
          go_wp2_with (go_at_call 22; refine (zzIsSpace_any _ _).mono ?_; rintro e1 w1 ⟨rfl, rfl⟩)
          go_round
          case rel => exact ⟨sk + 1, by omega, by omega, by go_num, by rw [Hid, ← hst.out, stop_yes spI bs sk hlt hs]⟩
          case measure => simp [intOf]; omega
        | false =>
          go_wp2_with (go_at_call 22; refine (zzIsSpace_any _ _).mono ?_; rintro e1 w1 ⟨rfl, rfl⟩)
          go_meet
          case rel => exact ⟨by rw [← hst.out, stop_no spI bs sk hlt hs], rfl⟩
      · have hlt' : decide (sk < bs.length) = false := by simp; omega
        go_wp2
        go_meet
        case rel => exact ⟨by rw [← hst.out, stop_end spI bs sk (by omega)], rfl⟩
  case rest =>
    obtain ⟨rfl, rfl⟩ := hcut
    generalize hd : stop spI bs q = d at *
    have Hd := hide hd
    clear hd
    by_cases hdn : d = bs.length
    · have hbe : ((d : Int) == (bs.length : Int)) = true := by simp [hdn]
      have HP : Hid (PV bs d = none) := by
        rw [Hid]
        unfold PV
        rw [if_neg (by omega), if_pos (stop_end tcI bs d (by omega))]
      go_wp2
      go_ret2
      exact ⟨by rw [pv_none bs q d Hd.out HP.out]; rfl, Below.refl _ _⟩
    · have hbe : ((d : Int) == (bs.length : Int)) = false := by simp; omega
      have hdl : d < bs.length := by omega
      have hgd := mk_get bs d (by rw [hz]; exact hdl)
      by_cases c34 : byt bs d = 34
      · have hc : (byt bs d == 34) = true := by simp [c34]
        have hPV : Hid (PV bs d = qs bs (d + 1) []) := by
          rw [Hid]
          unfold PV
          rw [if_pos ⟨by omega, c34⟩]
        clear c34
        go_wp2
        go_loopg [1, 7, 8] (bs.length - (d + 1)) (fun g t1 t7 t8 wr => zvRel bs d w g t1 t7 t8 wr)
        case atStart => exact ⟨d + 1, [], Nat.le_refl _, by omega, by go_num, rfl, World.ownsRow_nil _ _ _ _, Below.refl _ _, Nat.zero_le _, rfl⟩
        case round =>
          obtain ⟨k, acc, hdk, hkg, rfl, rfl, hown, hbel, hal, hqs⟩ := hrel
          have HO := hide hown
          have HB := hide hbel
          have Hg := hide hkg
          have HS := hide hqs
          have hkn : k ≤ bs.length := by omega
          clear hown hbel hkg hqs
          by_cases hk : k < bs.length
          · have hlt : (k : Int) < (bs.length : Int) := by omega
            have hgk := mk_get bs k (by rw [hz]; exact hk)
            have hq0 := hide (qs_get bs k acc hk)
            by_cases c34 : byt bs k = 34
            · have hc : (byt bs k == 34) = true := by simp [c34]
              have HP : Hid (PV bs d = some (acc, k + 1)) := by rw [Hid, hPV.out, ← HS.out, hq0.out, if_pos c34]
              have hstr := row_string HO.out
              clear c34 hq0
              go_upto_block 6 with fail
              go_cut [1] (fun t wx => t = .int .i64 (stop spI bs (k + 1) : Nat) ∧ wr = wx)
              case first =>
                go_wp2_with fail
                go_loop [1] (fun t => ∃ sk : Nat, (k + 1) ≤ sk ∧ sk ≤ bs.length ∧ t = .int .i64 sk ∧ Hid (stop spI bs sk = stop spI bs (k + 1))) (fun t => bs.length - (intOf t).toNat)
                case atStart => exact ⟨(k + 1), Nat.le_refl _, (by omega), rfl, rfl⟩
                case round =>
                  obtain ⟨sk, hik, hsk, rfl, hst⟩ := hrel
                  by_cases hlt : sk < bs.length
                  · have hlt' : (sk : Int) < (bs.length : Int) := by omega
                    have hgk := mk_get bs sk (by rw [hz]; exact hlt)
                    cases hs : spI (byt bs sk) with
                    | true =>
                      go_wp2_with (go_at_call 22; refine (zzIsSpace_any _ _).mono ?_; rintro e1 w1 ⟨rfl, rfl⟩)
                      go_round
                      case rel => exact ⟨sk + 1, by omega, by omega, by go_num, by rw [Hid, ← hst.out, stop_yes spI bs sk hlt hs]⟩
                      case measure => simp [intOf]; omega
                    | false =>
                      go_wp2_with (go_at_call 22; refine (zzIsSpace_any _ _).mono ?_; rintro e1 w1 ⟨rfl, rfl⟩)
                      go_meet
                      case rel => exact ⟨by rw [← hst.out, stop_no spI bs sk hlt hs], rfl⟩
                  · have hlt' : decide (sk < bs.length) = false := by simp; omega
                    go_wp2
                    go_meet
                    case rel => exact ⟨by rw [← hst.out, stop_end spI bs sk (by omega)], rfl⟩
              case rest =>
                obtain ⟨rfl, rfl⟩ := hcut
                generalize hf : stop spI bs (k + 1) = fm at *
                have Hf := hide hf
                have f2 : fm ≤ bs.length := by rw [← hf]; exact stop_le spI bs (k + 1) (by omega)
                clear hf
                by_cases hfn : fm = bs.length
                · have hbe : ((fm : Int) != (bs.length : Int)) = false := by simp [hfn]
                  go_wp2
                  go_ret2
                  refine ⟨?_, HB.out⟩
                  rw [pv_some bs q d (k + 1) _ Hd.out HP.out, if_pos (by rw [Hf.out]; exact hfn)]
                  rfl
                · have hbe : ((fm : Int) != (bs.length : Int)) = true := by simp; omega
                  go_wp2
                  go_ret2
                  refine ⟨?_, HB.out⟩
                  rw [pv_some bs q d (k + 1) _ Hd.out HP.out, if_neg (by rw [Hf.out]; exact hfn)]
                  rfl
            · have hc : (byt bs k == 34) = false := by simp [c34]
              by_cases esc : byt bs k = 92 ∧ k + 1 < bs.length
              · have h92 : (byt bs k == 92) = true := by simp [esc.1]
                have h1n : k + 1 < bs.length := esc.2
                have hlt2 : (k : Int) + 1 < (bs.length : Int) := by omega
                have hgk2 := mk_get bs (k + 1) (by rw [hz]; exact h1n)
                cases hqb : qbI (byt bs (k + 1)) with
                | true =>
                  have HQ : Hid (qs bs (k + 1 + 1) (acc ++ [bs.getD (k + 1) 0]) = qs bs (d + 1) []) := by
                    rw [Hid, ← HS.out, hq0.out, if_neg c34, if_pos esc, if_pos hqb]
                  clear c34 esc hq0
                  go_wp2_with (first
                    | (go_at_call 32; refine (zzIsQuotedByte_any _ _).mono ?_; rintro e4 w4 ⟨rfl, hw4⟩; have hw5 := hw4.symm; subst hw5)
                    | (at_builtin; refine wpList_append_own _ rfl _ _ 57 rfl w.heap.size 5 Tryf.t5 _ 1 1 Tryf.underlying57 hi5 rfl rfl rfl rfl (by decide) _ _ _ rfl (HO.out.alloc _) ⟨wr.heap.size, 0, none⟩ 1 1 [.int .u8 (byt bs (k + 1))] rfl rfl ?c1 ?c2 ?c3 ?c4 ?c5 ?_))
                  case c1 =>
                    intro jj u hj
                    match jj, hj with
                    | 0, hj => simp at hj; subst hj; simp [Addr.add]
                  case c2 => intro u hu; simp at hu; subst hu; rfl
                  case c3 => unfold maxLen; omega
                  case c4 => omega
                  case c5 => have := HB.out.size; simp; omega
                  intro v' w5 hown' hgrow hnil
                  have W5 := hide hown'
                  have G5 := hide hgrow
                  clear hnil hown' hgrow
                  go_wp2
                  go_roundg (bs.length - ((k + 1) + 1))
                  case measure => have := Hg.out; omega
                  case rel =>
                    have hs := HB.out.size
                    have hb := (HB.out.alloc hs (.cells #[.int .u8 (byt bs (k + 1))] 5)).grown G5.out (by simp; omega) (fun k hk => (HO.out.lt k hk).1)
                    have ho := W5.out
                    rw [bytes_push] at ho
                    exact ⟨(k + 1) + 1, acc ++ [bs.getD ((k + 1)) 0], by omega, by omega, by go_num, rfl, by rw [List.length_append, List.length_singleton]; exact ho, hb, by rw [List.length_append, List.length_singleton]; omega, HQ.out⟩
                | false =>
                  have HP : Hid (PV bs d = none) := by rw [Hid, hPV.out, ← HS.out, hq0.out, if_neg c34, if_pos esc, if_neg (by rw [hqb]; simp)]
                  clear c34 esc hq0
                  go_wp2_with (go_at_call 32; refine (zzIsQuotedByte_any _ _).mono ?_; rintro e4 w4 ⟨rfl, hw4⟩; have hw5 := hw4.symm; subst hw5)
                  go_ret2
                  exact ⟨by rw [pv_none bs q d Hd.out HP.out]; rfl, HB.out⟩
              · have hq1 : Hid (qs bs k acc = if qbI (byt bs k) = true then qs bs (k + 1) (acc ++ [bs.getD k 0]) else none) := by
                  rw [Hid, hq0.out, if_neg c34, if_neg esc]
                have hesc : (byt bs k == 92) = false ∨ ((byt bs k == 92) = true ∧ decide (k + 1 < bs.length) = false) := by
                  by_cases e : byt bs k = 92
                  · exact .inr ⟨by simp [e], by simp; exact Nat.le_of_not_lt (fun h => esc ⟨e, h⟩)⟩
                  · exact .inl (by simp [e])
                clear hq0 c34 esc
                cases hqb : qbI (byt bs k) with
                | true =>
                  have HQ : Hid (qs bs (k + 1) (acc ++ [bs.getD k 0]) = qs bs (d + 1) []) := by
                    rw [Hid, ← HS.out, hq1.out, if_pos hqb]
                  clear hq1
                  rcases hesc with h92 | ⟨h92, hdl⟩
                  · go_wp2_with (first
                      | (go_at_call 32; refine (zzIsQuotedByte_any _ _).mono ?_; rintro e4 w4 ⟨rfl, hw4⟩; have hw5 := hw4.symm; subst hw5)
                      | (at_builtin; refine wpList_append_own _ rfl _ _ 57 rfl w.heap.size 5 Tryf.t5 _ 1 1 Tryf.underlying57 hi5 rfl rfl rfl rfl (by decide) _ _ _ rfl (HO.out.alloc _) ⟨wr.heap.size, 0, none⟩ 1 1 [.int .u8 (byt bs k)] rfl rfl ?c1 ?c2 ?c3 ?c4 ?c5 ?_))
                    case c1 =>
                      intro jj u hj
                      match jj, hj with
                      | 0, hj => simp at hj; subst hj; simp [Addr.add]
                    case c2 => intro u hu; simp at hu; subst hu; rfl
                    case c3 => unfold maxLen; omega
                    case c4 => omega
                    case c5 => have := HB.out.size; simp; omega
                    intro v' w5 hown' hgrow hnil
                    have W5 := hide hown'
                    have G5 := hide hgrow
                    clear hnil hown' hgrow
                    go_wp2
                    go_roundg (bs.length - (k + 1))
                    case measure => have := Hg.out; omega
                    case rel =>
                      have hs := HB.out.size
                      have hb := (HB.out.alloc hs (.cells #[.int .u8 (byt bs k)] 5)).grown G5.out (by simp; omega) (fun k hk => (HO.out.lt k hk).1)
                      have ho := W5.out
                      rw [bytes_push] at ho
                      exact ⟨k + 1, acc ++ [bs.getD (k) 0], by omega, by omega, by go_num, rfl, by rw [List.length_append, List.length_singleton]; exact ho, hb, by rw [List.length_append, List.length_singleton]; omega, HQ.out⟩
                  · have hdl' : ¬ ((k : Int) + 1 < (bs.length : Int)) := by simp at hdl; omega
                    clear hdl
                    go_wp2_with (first
                      | (go_at_call 32; refine (zzIsQuotedByte_any _ _).mono ?_; rintro e4 w4 ⟨rfl, hw4⟩; have hw5 := hw4.symm; subst hw5)
                      | (at_builtin; refine wpList_append_own _ rfl _ _ 57 rfl w.heap.size 5 Tryf.t5 _ 1 1 Tryf.underlying57 hi5 rfl rfl rfl rfl (by decide) _ _ _ rfl (HO.out.alloc _) ⟨wr.heap.size, 0, none⟩ 1 1 [.int .u8 (byt bs k)] rfl rfl ?c1 ?c2 ?c3 ?c4 ?c5 ?_))
                    case c1 =>
                      intro jj u hj
                      match jj, hj with
                      | 0, hj => simp at hj; subst hj; simp [Addr.add]
                    case c2 => intro u hu; simp at hu; subst hu; rfl
                    case c3 => unfold maxLen; omega
                    case c4 => omega
                    case c5 => have := HB.out.size; simp; omega
                    intro v' w5 hown' hgrow hnil
                    have W5 := hide hown'
                    have G5 := hide hgrow
                    clear hnil hown' hgrow
                    go_wp2
                    go_roundg (bs.length - (k + 1))
                    case measure => have := Hg.out; omega
                    case rel =>
                      have hs := HB.out.size
                      have hb := (HB.out.alloc hs (.cells #[.int .u8 (byt bs k)] 5)).grown G5.out (by simp; omega) (fun k hk => (HO.out.lt k hk).1)
                      have ho := W5.out
                      rw [bytes_push] at ho
                      exact ⟨k + 1, acc ++ [bs.getD (k) 0], by omega, by omega, by go_num, rfl, by rw [List.length_append, List.length_singleton]; exact ho, hb, by rw [List.length_append, List.length_singleton]; omega, HQ.out⟩
                | false =>
                  have HP : Hid (PV bs d = none) := by rw [Hid, hPV.out, ← HS.out, hq1.out, if_neg (by rw [hqb]; simp)]
                  clear hq1
                  rcases hesc with h92 | ⟨h92, hdl⟩
                  · go_wp2_with (go_at_call 32; refine (zzIsQuotedByte_any _ _).mono ?_; rintro e4 w4 ⟨rfl, hw4⟩; have hw5 := hw4.symm; subst hw5)
                    go_ret2
                    exact ⟨by rw [pv_none bs q d Hd.out HP.out]; rfl, HB.out⟩
                  · have hdl' : ¬ ((k : Int) + 1 < (bs.length : Int)) := by simp at hdl; omega
                    clear hdl
                    go_wp2_with (go_at_call 32; refine (zzIsQuotedByte_any _ _).mono ?_; rintro e4 w4 ⟨rfl, hw4⟩; have hw5 := hw4.symm; subst hw5)
                    go_ret2
                    exact ⟨by rw [pv_none bs q d Hd.out HP.out]; rfl, HB.out⟩
          · have hlt : decide (k < bs.length) = false := by simp; omega
            have HP : Hid (PV bs d = none) := by rw [Hid, hPV.out, ← HS.out, qs_off bs k acc hk]
            go_wp2
            go_ret2
            exact ⟨by rw [pv_none bs q d Hd.out HP.out]; rfl, HB.out⟩

      · have hc : (byt bs d == 34) = false := by simp [c34]
        have HC := hide c34
        clear c34
        go_upto_block 4 with fail
        go_cut [1] (fun t wx => t = .int .i64 (stop tcI bs d : Nat) ∧ w = wx)
        case first =>
          go_wp2_with fail
          go_loop [1] (fun t => ∃ sk : Nat, d ≤ sk ∧ sk ≤ bs.length ∧ t = .int .i64 sk ∧ Hid (stop tcI bs sk = stop tcI bs d)) (fun t => bs.length - (intOf t).toNat)
          case atStart => exact ⟨d, Nat.le_refl _, d2, rfl, rfl⟩
          case round =>
            obtain ⟨sk, hik, hsk, rfl, hst⟩ := hrel
            by_cases hlt : sk < bs.length
            · have hlt' : (sk : Int) < (bs.length : Int) := by omega
              have hgk := mk_get bs sk (by rw [hz]; exact hlt)
              cases hs : tcI (byt bs sk) with
              | true =>
                go_wp2_with (go_at_call 21; refine (zzIsTchar_any _ _).mono ?_; rintro e1 w1 ⟨rfl, rfl⟩)
                go_round
                case rel => exact ⟨sk + 1, by omega, by omega, by go_num, by rw [Hid, ← hst.out, stop_yes tcI bs sk hlt hs]⟩
                case measure => simp [intOf]; omega
              | false =>
                go_wp2_with (go_at_call 21; refine (zzIsTchar_any _ _).mono ?_; rintro e1 w1 ⟨rfl, rfl⟩)
                go_meet
                case rel => exact ⟨by rw [← hst.out, stop_no tcI bs sk hlt hs], rfl⟩
            · have hlt' : decide (sk < bs.length) = false := by simp; omega
              go_wp2
              go_meet
              case rel => exact ⟨by rw [← hst.out, stop_end tcI bs sk (by omega)], rfl⟩
        case rest =>
          obtain ⟨rfl, rfl⟩ := hcut
          generalize hj : stop tcI bs d = j at *
          have Hj := hide hj
          have j2 : j ≤ bs.length := by rw [← hj]; exact stop_le tcI bs d d2
          have j1 : d ≤ j := by rw [← hj]; exact stop_ge tcI bs d
          have hPV : Hid (PV bs d = if j = d then none else some (fldOf bs d j, j)) := by
            rw [Hid]
            unfold PV
            rw [if_neg (fun e => HC.out e.2), hj]
          clear hj
          by_cases hjd : j = d
          · have hbe : ((j : Int) == (d : Int)) = true := by simp; omega
            go_wp2
            go_ret2
            exact ⟨by rw [pv_none bs q d Hd.out (hPV.out.trans (if_pos hjd))]; rfl, Below.refl _ _⟩
          · have hbe : ((j : Int) == (d : Int)) = false := by simp; omega
            have HP : Hid (PV bs d = some (fldOf bs d j, j)) := hPV.out.trans (if_neg hjd)
            go_upto_block 6 with fail
            go_cut [1] (fun t wx => t = .int .i64 (stop spI bs j : Nat) ∧ w = wx)
            case first =>
              go_wp2_with fail
              go_loop [1] (fun t => ∃ sk : Nat, j ≤ sk ∧ sk ≤ bs.length ∧ t = .int .i64 sk ∧ Hid (stop spI bs sk = stop spI bs j)) (fun t => bs.length - (intOf t).toNat)
              case atStart => exact ⟨j, Nat.le_refl _, j2, rfl, rfl⟩
              case round =>
                obtain ⟨sk, hik, hsk, rfl, hst⟩ := hrel
                by_cases hlt : sk < bs.length
                · have hlt' : (sk : Int) < (bs.length : Int) := by omega
                  have hgk := mk_get bs sk (by rw [hz]; exact hlt)
                  cases hs : spI (byt bs sk) with
                  | true =>
                    go_wp2_with (go_at_call 22; refine (zzIsSpace_any _ _).mono ?_; rintro e1 w1 ⟨rfl, rfl⟩)
                    go_round
                    case rel => exact ⟨sk + 1, by omega, by omega, by go_num, by rw [Hid, ← hst.out, stop_yes spI bs sk hlt hs]⟩
                    case measure => simp [intOf]; omega
                  | false =>
                    go_wp2_with (go_at_call 22; refine (zzIsSpace_any _ _).mono ?_; rintro e1 w1 ⟨rfl, rfl⟩)
                    go_meet
                    case rel => exact ⟨by rw [← hst.out, stop_no spI bs sk hlt hs], rfl⟩
                · have hlt' : decide (sk < bs.length) = false := by simp; omega
                  go_wp2
                  go_meet
                  case rel => exact ⟨by rw [← hst.out, stop_end spI bs sk (by omega)], rfl⟩
            case rest =>
              obtain ⟨rfl, rfl⟩ := hcut
              generalize hf : stop spI bs j = fm at *
              have Hf := hide hf
              have f2 : fm ≤ bs.length := by rw [← hf]; exact stop_le spI bs j j2
              clear hf
              by_cases hfn : fm = bs.length
              · have hbe : ((fm : Int) != (bs.length : Int)) = false := by simp [hfn]
                go_wp2
                go_ret2
                refine ⟨?_, Below.refl _ _⟩
                rw [pv_some bs q d j _ Hd.out HP.out, if_pos (by rw [Hf.out]; exact hfn)]
                unfold okRet; rw [mk_extract]; rfl
              · have hbe : ((fm : Int) != (bs.length : Int)) = true := by simp; omega
                go_wp2
                go_ret2
                refine ⟨?_, Below.refl _ _⟩
                rw [pv_some bs q d j _ Hd.out HP.out, if_neg (by rw [Hf.out]; exact hfn)]
                rfl

end Go.Proofs.Qxb6613049aFmt
