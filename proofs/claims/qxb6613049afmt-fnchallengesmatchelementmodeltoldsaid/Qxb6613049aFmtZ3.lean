import Derived.Test.Qxb6613049aFmtZ2
import Derived.BigRegion
namespace Go.Proofs.Qxb6613049aFmt
open Go.RowKit

/-- What an element is, as Go holds it. -/
def elC : Elem → Array Value
  | none => #[.int .i64 0, .string ⟨#[]⟩, .string ⟨#[]⟩, .string ⟨#[]⟩, .string ⟨#[]⟩, .bool false]
  | some none => #[.int .i64 1, .string ⟨#[]⟩, .string ⟨#[]⟩, .string ⟨#[]⟩, .string ⟨#[]⟩, .bool false]
  | some (some (.inl (n, v))) => #[.int .i64 2, .string ⟨#[]⟩, .string ⟨#[]⟩, .string (mk n), .string (mk v), .bool false]
  | some (some (.inr (.inl (s, o)))) => #[.int .i64 3, .string (mk s), .string ⟨#[]⟩, .string ⟨#[]⟩, .string ⟨#[]⟩, .bool o]
  | some (some (.inr (.inr (.inl (s, t))))) => #[.int .i64 4, .string (mk s), .string (mk t), .string ⟨#[]⟩, .string ⟨#[]⟩, .bool false]
  | some (some (.inr (.inr (.inr (s, n, v))))) => #[.int .i64 5, .string (mk s), .string ⟨#[]⟩, .string (mk n), .string (mk v), .bool false]

theorem cls_to (bs : List UInt8) (i j k b : Nat) (hi : stop spI bs 0 = i) (hj : stop tcI bs i = j) (hk : stop spI bs j = k) : cls bs 0 b = cls1 bs i j k b := by
  unfold cls
  rw [hi, hj, hk]
theorem c_empty (bs : List UInt8) (i j k b : Nat) (h1 : i = b) : cls1 bs i j k b = Elem.empty := by unfold cls1; rw [if_pos h1]
theorem c_bad1 (bs : List UInt8) (i j k b : Nat) (h1 : i ≠ b) (h2 : j = i) : cls1 bs i j k b = Elem.bad := by unfold cls1; rw [if_neg h1, if_pos h2]
theorem c_scheme (bs : List UInt8) (i j k b : Nat) (h1 : i ≠ b) (h2 : j ≠ i) (h3 : k = b) : cls1 bs i j k b = Elem.scheme (fldOf bs i j) (decide (j < b)) := by unfold cls1; rw [if_neg h1, if_neg h2, if_pos h3, h3]
theorem c_pbad (bs : List UInt8) (i j k b : Nat) (h1 : i ≠ b) (h2 : j ≠ i) (h3 : k ≠ b) (h4 : byt bs k = 61) (h5 : pv bs (k + 1) b = none) : cls1 bs i j k b = Elem.bad := by
  unfold cls1; rw [if_neg h1, if_neg h2, if_neg h3, if_pos h4, h5]
theorem c_param (bs : List UInt8) (i j k b : Nat) (v : List UInt8) (h1 : i ≠ b) (h2 : j ≠ i) (h3 : k ≠ b) (h4 : byt bs k = 61) (h5 : pv bs (k + 1) b = some v) : cls1 bs i j k b = Elem.param (fldOf bs i j) v := by
  unfold cls1; rw [if_neg h1, if_neg h2, if_neg h3, if_pos h4, h5]
theorem c_bad2 (bs : List UInt8) (i j k b : Nat) (h1 : i ≠ b) (h2 : j ≠ i) (h3 : k ≠ b) (h4 : byt bs k ≠ 61) (h5 : k = j) : cls1 bs i j k b = Elem.bad := by
  unfold cls1; rw [if_neg h1, if_neg h2, if_neg h3, if_neg h4, if_pos h5]
theorem c_two (bs : List UInt8) (i j k b : Nat) (h1 : i ≠ b) (h2 : j ≠ i) (h3 : k ≠ b) (h4 : byt bs k ≠ 61) (h5 : k ≠ j) : cls1 bs i j k b = cls2 bs i j k b := by
  unfold cls1; rw [if_neg h1, if_neg h2, if_neg h3, if_neg h4, if_neg h5]
theorem c2_tok (bs : List UInt8) (i j k b : Nat) (t : List UInt8) (h : t68 bs k b = some t) : cls2 bs i j k b = Elem.tok (fldOf bs i j) t := by
  unfold cls2; rw [h]
theorem c2_bad1 (bs : List UInt8) (i j k b m : Nat) (h : t68 bs k b = none) (hm : stop tcI bs k = m) (h1 : m = k) : cls2 bs i j k b = Elem.bad := by
  unfold cls2; rw [h]; simp only [hm]; rw [if_pos h1]
theorem c2_bad2 (bs : List UInt8) (i j k b m p : Nat) (h : t68 bs k b = none) (hm : stop tcI bs k = m) (hp : stop spI bs m = p) (h1 : m ≠ k) (h2 : p = b ∨ byt bs p ≠ 61) : cls2 bs i j k b = Elem.bad := by
  unfold cls2; rw [h]; simp only [hm, hp]; rw [if_neg h1, if_pos h2]
theorem c2_bad3 (bs : List UInt8) (i j k b m p : Nat) (h : t68 bs k b = none) (hm : stop tcI bs k = m) (hp : stop spI bs m = p) (h1 : m ≠ k) (h2 : ¬ (p = b ∨ byt bs p ≠ 61)) (h3 : pv bs (p + 1) b = none) : cls2 bs i j k b = Elem.bad := by
  unfold cls2; rw [h]; simp only [hm, hp]; rw [if_neg h1, if_neg h2, h3]
theorem c2_ok (bs : List UInt8) (i j k b m p : Nat) (v : List UInt8) (h : t68 bs k b = none) (hm : stop tcI bs k = m) (hp : stop spI bs m = p) (h1 : m ≠ k) (h2 : ¬ (p = b ∨ byt bs p ≠ 61)) (h3 : pv bs (p + 1) b = some v) : cls2 bs i j k b = Elem.sparam (fldOf bs i j) (fldOf bs k m) v := by
  unfold cls2; rw [h]; simp only [hm, hp]; rw [if_neg h1, if_neg h2, h3]

theorem block_cells {w : World} {g : Nat} {cs : Array Value} {t : TypeId} (h : w.heap[g]? = some (.cells cs t (0, 0))) (j : Nat) (v : Value) (hj : cs[j]? = some v) : w.cell? ⟨g, j, none⟩ = some v ∧ w.frozen? ⟨g, j, none⟩ = false :=
  ⟨(cell_of_row w g j cs t (0, 0) h).trans hj, frozen_of_row w g j cs t h⟩

theorem set6 {w : World} {g : Nat} {a0 a1 a2 a3 a4 a5 : Value} {t : TypeId} (h : w.heap[g]? = some (.cells #[a0, a1, a2, a3, a4, a5] t (0, 0))) (b0 b1 b2 b3 b4 b5 : Value) :
    ((((((w.setCell ⟨g, 0, none⟩ b0).setCell ⟨g, 1, none⟩ b1).setCell ⟨g, 2, none⟩ b2).setCell ⟨g, 3, none⟩ b3).setCell ⟨g, 4, none⟩ b4).setCell ⟨g, 5, none⟩ b5).heap[g]? = some (.cells #[b0, b1, b2, b3, b4, b5] t (0, 0)) :=
  heap_setCell_same _ g 5 _ t b5 (heap_setCell_same _ g 4 _ t b4 (heap_setCell_same _ g 3 _ t b3 (heap_setCell_same _ g 2 _ t b2 (heap_setCell_same _ g 1 _ t b1 (heap_setCell_same _ g 0 _ t b0 h)))))

theorem heap_drew (x : World) : x.drew.heap = x.heap := rfl
theorem set6d {w : World} {g : Nat} {a0 a1 a2 a3 a4 a5 : Value} {t : TypeId} (h : w.heap[g]? = some (.cells #[a0, a1, a2, a3, a4, a5] t (0, 0))) (b0 b1 b2 b3 b4 b5 : Value) :
    ((((((w.setCell ⟨g, 0, none⟩ b0).setCell ⟨g, 1, none⟩ b1).setCell ⟨g, 2, none⟩ b2).setCell ⟨g, 3, none⟩ b3).setCell ⟨g, 4, none⟩ b4).setCell ⟨g, 5, none⟩ b5).drew.heap[g]? = some (.cells #[b0, b1, b2, b3, b4, b5] t (0, 0)) := by
  rw [heap_drew]
  exact set6 h b0 b1 b2 b3 b4 b5
theorem below6 {B g : Nat} {a w : World} (h : Below B a w) (hg : B ≤ g) (b0 b1 b2 b3 b4 b5 : Value) :
    Below B a ((((((w.setCell ⟨g, 0, none⟩ b0).setCell ⟨g, 1, none⟩ b1).setCell ⟨g, 2, none⟩ b2).setCell ⟨g, 3, none⟩ b3).setCell ⟨g, 4, none⟩ b4).setCell ⟨g, 5, none⟩ b5) :=
  (((((h.setCell (p := ⟨g, 0, none⟩) hg b0).setCell (p := ⟨g, 1, none⟩) hg b1).setCell (p := ⟨g, 2, none⟩) hg b2).setCell (p := ⟨g, 3, none⟩) hg b3).setCell (p := ⟨g, 4, none⟩) hg b4).setCell (p := ⟨g, 5, none⟩) hg b5

set_option maxHeartbeats 8000000 in
set_option maxRecDepth 100000 in
theorem zzClassify_any (bs : List UInt8) (w : World) (hn : bs.length ≤ 1048576) :
    Calls Tryf.prog 18 #[.string (mk bs)] w fun e w' => e = .returned (.agg (elC (cls bs 0 bs.length))) ∧ Below w.heap.size w w' := by
  have hz := mk_size bs
  have hi49 : (Tryf.prog.info? 49).map (·.size) = some 6 := by kernel_rfl
  go_enter Tryf.func18, Tryf.ntmps18
  go_upto_block 0 with fail
  go_cut [3] (fun t wx => t = .int .i64 (stop spI bs 0 : Nat) ∧ (w.alloc (.cells #[.int .i64 0, .string ⟨#[]⟩, .string ⟨#[]⟩, .string ⟨#[]⟩, .string ⟨#[]⟩, .bool false] 49)) = wx)
  case first =>
    go_wp2_with fail
    go_loop [3] (fun t => ∃ sk : Nat, 0 ≤ sk ∧ sk ≤ bs.length ∧ t = .int .i64 sk ∧ Hid (stop spI bs sk = stop spI bs 0)) (fun t => bs.length - (intOf t).toNat)
    case atStart => exact ⟨0, Nat.le_refl _, (by omega), rfl, rfl⟩
    case round =>
      obtain ⟨sk, hik, hsk, rfl, hst⟩ := hrel
      by_cases hlt : sk < bs.length
      · have hlt' : (sk : Int) < (bs.length : Int) := by omega
        have hgk := mk_get bs sk (by rw [hz]; exact hlt)
        cases hs : spI (byt bs sk) with
        | true =>
          go_wp2_with (go_at_call 22; refine (zzIsSpace_any _ _).mono ?_; rintro e1 w1 ⟨rfl, rfl⟩)
          go_round
          case rel => exact ⟨sk + 1, by omega, by omega, by go_num, by rw [Hid, ← hst.out, stop_yes spI bs sk hlt hs]⟩
          case measure => simp [intOf]; omega
        | false =>
          go_wp2_with (go_at_call 22; refine (zzIsSpace_any _ _).mono ?_; rintro e1 w1 ⟨rfl, rfl⟩)
          go_meet
          case rel => exact ⟨by rw [← hst.out, stop_no spI bs sk hlt hs], rfl⟩
      · have hlt' : decide (sk < bs.length) = false := by simp; omega
        go_wp2
        go_meet
        case rel => exact ⟨by rw [← hst.out, stop_end spI bs sk (by omega)], rfl⟩
  case rest =>
    obtain ⟨rfl, rfl⟩ := hcut
    generalize hi : stop spI bs 0 = i at *
    have Hi := hide hi
    have i2 : i ≤ bs.length := by rw [← hi]; exact stop_le spI bs 0 (by omega)
    clear hi
    by_cases hin : i = bs.length
    · have hbe : ((i : Int) == (bs.length : Int)) = true := by simp [hin]
      go_wp2
      go_returns
      refine ⟨?_, ?_⟩
      · rw [cls_to bs i _ _ _ Hi.out rfl rfl, c_empty bs i _ _ _ hin]
        simp only [elC]
      · exact (Below.refl _ _).alloc (Nat.le_refl _) _

    · have hbe : ((i : Int) == (bs.length : Int)) = false := by simp; omega
      go_upto_block 2 with fail
      go_cut [4] (fun t wx => t = .int .i64 (stop tcI bs i : Nat) ∧ (w.alloc (.cells #[.int .i64 0, .string ⟨#[]⟩, .string ⟨#[]⟩, .string ⟨#[]⟩, .string ⟨#[]⟩, .bool false] 49)) = wx)
      case first =>
        go_wp2_with fail
        go_loop [4] (fun t => ∃ sk : Nat, i ≤ sk ∧ sk ≤ bs.length ∧ t = .int .i64 sk ∧ Hid (stop tcI bs sk = stop tcI bs i)) (fun t => bs.length - (intOf t).toNat)
        case atStart => exact ⟨i, Nat.le_refl _, i2, rfl, rfl⟩
        case round =>
          obtain ⟨sk, hik, hsk, rfl, hst⟩ := hrel
          by_cases hlt : sk < bs.length
          · have hlt' : (sk : Int) < (bs.length : Int) := by omega
            have hgk := mk_get bs sk (by rw [hz]; exact hlt)
            cases hs : tcI (byt bs sk) with
            | true =>
              go_wp2_with (go_at_call 21; refine (zzIsTchar_any _ _).mono ?_; rintro e1 w1 ⟨rfl, rfl⟩)
              go_round
              case rel => exact ⟨sk + 1, by omega, by omega, by go_num, by rw [Hid, ← hst.out, stop_yes tcI bs sk hlt hs]⟩
              case measure => simp [intOf]; omega
            | false =>
              go_wp2_with (go_at_call 21; refine (zzIsTchar_any _ _).mono ?_; rintro e1 w1 ⟨rfl, rfl⟩)
              go_meet
              case rel => exact ⟨by rw [← hst.out, stop_no tcI bs sk hlt hs], rfl⟩
          · have hlt' : decide (sk < bs.length) = false := by simp; omega
            go_wp2
            go_meet
            case rel => exact ⟨by rw [← hst.out, stop_end tcI bs sk (by omega)], rfl⟩
      case rest =>
        obtain ⟨rfl, rfl⟩ := hcut
        generalize hj : stop tcI bs i = j at *
        have Hj := hide hj
        have j2 : j ≤ bs.length := by rw [← hj]; exact stop_le tcI bs i i2
        have j1 : i ≤ j := by rw [← hj]; exact stop_ge tcI bs i
        clear hj
        by_cases hji : j = i
        · have hbe : ((j : Int) == (i : Int)) = true := by simp [hji]
          go_wp2
          go_returns
          refine ⟨?_, ?_⟩
          · rw [cls_to bs i j _ _ Hi.out Hj.out rfl, c_bad1 bs i j _ _ hin hji]
            simp only [elC]
          · exact (Below.refl _ _).alloc (Nat.le_refl _) _

        · have hbe : ((j : Int) == (i : Int)) = false := by simp; omega
          go_upto_block 4 with fail
          go_cut [5] (fun t wx => t = .int .i64 (stop spI bs j : Nat) ∧ (w.alloc (.cells #[.int .i64 0, .string ⟨#[]⟩, .string ⟨#[]⟩, .string ⟨#[]⟩, .string ⟨#[]⟩, .bool false] 49)) = wx)
          case first =>
            go_wp2_with fail
            go_loop [5] (fun t => ∃ sk : Nat, j ≤ sk ∧ sk ≤ bs.length ∧ t = .int .i64 sk ∧ Hid (stop spI bs sk = stop spI bs j)) (fun t => bs.length - (intOf t).toNat)
            case atStart => exact ⟨j, Nat.le_refl _, j2, rfl, rfl⟩
            case round =>
              obtain ⟨sk, hik, hsk, rfl, hst⟩ := hrel
              by_cases hlt : sk < bs.length
              · have hlt' : (sk : Int) < (bs.length : Int) := by omega
                have hgk := mk_get bs sk (by rw [hz]; exact hlt)
                cases hs : spI (byt bs sk) with
                | true =>
                  go_wp2_with (go_at_call 22; refine (zzIsSpace_any _ _).mono ?_; rintro e1 w1 ⟨rfl, rfl⟩)
                  go_round
                  case rel => exact ⟨sk + 1, by omega, by omega, by go_num, by rw [Hid, ← hst.out, stop_yes spI bs sk hlt hs]⟩
                  case measure => simp [intOf]; omega
                | false =>
                  go_wp2_with (go_at_call 22; refine (zzIsSpace_any _ _).mono ?_; rintro e1 w1 ⟨rfl, rfl⟩)
                  go_meet
                  case rel => exact ⟨by rw [← hst.out, stop_no spI bs sk hlt hs], rfl⟩
              · have hlt' : decide (sk < bs.length) = false := by simp; omega
                go_wp2
                go_meet
                case rel => exact ⟨by rw [← hst.out, stop_end spI bs sk (by omega)], rfl⟩
          case rest =>
            obtain ⟨rfl, rfl⟩ := hcut
            generalize hk : stop spI bs j = k at *
            have Hk := hide hk
            have k2 : k ≤ bs.length := by rw [← hk]; exact stop_le spI bs j j2
            have k1 : j ≤ k := by rw [← hk]; exact stop_ge spI bs j
            clear hk
            by_cases hkn : k = bs.length
            · have hbe : ((k : Int) == (bs.length : Int)) = true := by simp [hkn]
              go_wp2
              go_returns
              refine ⟨?_, ?_⟩
              · rw [cls_to bs i j k _ Hi.out Hj.out Hk.out, c_scheme bs i j k _ hin hji hkn]
                simp only [elC, mk_extract]
              · exact (Below.refl _ _).alloc (Nat.le_refl _) _

            · have hbe : ((k : Int) == (bs.length : Int)) = false := by simp; omega
              have hkl : k < bs.length := by omega
              have hgk := mk_get bs k (by rw [hz]; exact hkl)
              by_cases c61 : byt bs k = 61
              · have hc : (byt bs k == 61) = true := by simp [c61]
                have C61 := hide c61
                clear c61
                have c23 := zzParamValue_any bs (k + 1) (w.alloc (.cells #[.int .i64 0, .string ⟨#[]⟩, .string ⟨#[]⟩, .string ⟨#[]⟩, .string ⟨#[]⟩, .bool false] 49)) (by omega) hn
                cases hpv : pv bs (k + 1) bs.length with
                | none =>
                  rw [hpv] at c23
                  have Hpv := hide hpv
                  clear hpv
                  simp only [okRet] at c23
                  go_wp2_with (go_at_call 23; refine c23.mono ?_; clear c23; rintro e4 w4 ⟨rfl, hb4⟩; have HB4 := hide (((Below.refl w.heap.size w).alloc (Nat.le_refl _) _).trans (hb4.mono (by simp))); have hrow := (hb4.block w.heap.size (by simp)).trans (heap_alloc_new w _); have HROW := hide hrow; clear hb4; obtain ⟨q0, f0⟩ := block_cells hrow 0 _ rfl; obtain ⟨q1, f1⟩ := block_cells hrow 1 _ rfl; obtain ⟨q2, f2⟩ := block_cells hrow 2 _ rfl; obtain ⟨q3, f3⟩ := block_cells hrow 3 _ rfl; obtain ⟨q4, f4⟩ := block_cells hrow 4 _ rfl; obtain ⟨q5, f5⟩ := block_cells hrow 5 _ rfl; clear hrow)
                  (try simp only [Exit.inBlock, Exit.then])
                  refine bodyPost_ret (results_cell_row (P := Tryf.prog) Tryf.results18 _ _ w.heap.size 49 #[.int .i64 1, .string ⟨#[]⟩, .string ⟨#[]⟩, .string ⟨#[]⟩, .string ⟨#[]⟩, .bool false] (0, 0) _ rfl (by exact set6 HROW.out _ _ _ _ _ _) Tryf.underlying49 rfl hi49) rfl ?_
                  refine ⟨?_, ?_⟩
                  · rw [cls_to bs i j k _ Hi.out Hj.out Hk.out, c_pbad bs i j k _ hin hji hkn C61.out Hpv.out]
                    simp only [elC]
                  · exact below6 HB4.out (Nat.le_refl _) _ _ _ _ _ _

                | some v =>
                  rw [hpv] at c23
                  have Hpv := hide hpv
                  clear hpv
                  simp only [okRet] at c23
                  go_wp2_with (go_at_call 23; refine c23.mono ?_; clear c23; rintro e4 w4 ⟨rfl, hb4⟩; have HB4 := hide (((Below.refl w.heap.size w).alloc (Nat.le_refl _) _).trans (hb4.mono (by simp))); have hrow := (hb4.block w.heap.size (by simp)).trans (heap_alloc_new w _); have HROW := hide hrow; clear hb4; obtain ⟨q0, f0⟩ := block_cells hrow 0 _ rfl; obtain ⟨q1, f1⟩ := block_cells hrow 1 _ rfl; obtain ⟨q2, f2⟩ := block_cells hrow 2 _ rfl; obtain ⟨q3, f3⟩ := block_cells hrow 3 _ rfl; obtain ⟨q4, f4⟩ := block_cells hrow 4 _ rfl; obtain ⟨q5, f5⟩ := block_cells hrow 5 _ rfl; clear hrow)
                  (try simp only [Exit.inBlock, Exit.then])
                  refine bodyPost_ret (results_cell_row (P := Tryf.prog) Tryf.results18 _ _ w.heap.size 49 #[.int .i64 2, .string ⟨#[]⟩, .string ⟨#[]⟩, .string ((mk bs).extract i j), .string (mk v), .bool false] (0, 0) _ rfl (by exact set6 HROW.out _ _ _ _ _ _) Tryf.underlying49 rfl hi49) rfl ?_
                  refine ⟨?_, ?_⟩
                  · rw [cls_to bs i j k _ Hi.out Hj.out Hk.out, c_param bs i j k _ v hin hji hkn C61.out Hpv.out]
                    simp only [elC, mk_extract]
                  · exact below6 HB4.out (Nat.le_refl _) _ _ _ _ _ _

              · have hc : (byt bs k == 61) = false := by simp [c61]
                have C61 := hide c61
                clear c61
                by_cases hkj : k = j
                · have hbe2 : ((k : Int) == (j : Int)) = true := by simp [hkj]
                  have KJ := hide hkj
                  clear hkj
                  go_wp2
                  go_returns
                  refine ⟨?_, ?_⟩
                  · rw [cls_to bs i j k _ Hi.out Hj.out Hk.out, c_bad2 bs i j k _ hin hji hkn C61.out KJ.out]
                    simp only [elC]
                  · exact (Below.refl _ _).alloc (Nat.le_refl _) _

                · have hbe2 : ((k : Int) == (j : Int)) = false := by simp; omega
                  have c24 := zzToken68_any bs k (w.alloc (.cells #[.int .i64 0, .string ⟨#[]⟩, .string ⟨#[]⟩, .string ⟨#[]⟩, .string ⟨#[]⟩, .bool false] 49)) k2 hn
                  cases ht : t68 bs k bs.length with
                  | some t =>
                    rw [ht] at c24
                    have Ht := hide ht
                    clear ht
                    simp only [okRet] at c24
                    go_wp2_with (go_at_call 24; refine c24.mono ?_; clear c24; rintro e4 w4 ⟨rfl, rfl⟩)
                    go_returns
                    refine ⟨?_, ?_⟩
                    · rw [cls_to bs i j k _ Hi.out Hj.out Hk.out, c_two bs i j k _ hin hji hkn C61.out hkj, c2_tok bs i j k _ t Ht.out]
                      simp only [elC, mk_extract]
                    · exact (Below.refl _ _).alloc (Nat.le_refl _) _

                  | none =>
                    rw [ht] at c24
                    have Ht := hide ht
                    clear ht
                    simp only [okRet] at c24
                    go_upto_block 6 with (go_at_call 24; refine c24.mono ?_; clear c24; rintro e4 w4 ⟨rfl, hw4⟩; have hw5 := hw4.symm; subst hw5)
                    go_cut [10] (fun t wx => t = .int .i64 (stop tcI bs k : Nat) ∧ (w.alloc (.cells #[.int .i64 0, .string ⟨#[]⟩, .string ⟨#[]⟩, .string ⟨#[]⟩, .string ⟨#[]⟩, .bool false] 49)) = wx)
                    case first =>
                      go_wp2_with fail
                      go_loop [10] (fun t => ∃ sk : Nat, k ≤ sk ∧ sk ≤ bs.length ∧ t = .int .i64 sk ∧ Hid (stop tcI bs sk = stop tcI bs k)) (fun t => bs.length - (intOf t).toNat)
                      case atStart => exact ⟨k, Nat.le_refl _, k2, rfl, rfl⟩
                      case round =>
                        obtain ⟨sk, hik, hsk, rfl, hst⟩ := hrel
                        by_cases hlt : sk < bs.length
                        · have hlt' : (sk : Int) < (bs.length : Int) := by omega
                          have hgk := mk_get bs sk (by rw [hz]; exact hlt)
                          cases hs : tcI (byt bs sk) with
                          | true =>
                            go_wp2_with (go_at_call 21; refine (zzIsTchar_any _ _).mono ?_; rintro e1 w1 ⟨rfl, rfl⟩)
                            go_round
                            case rel => exact ⟨sk + 1, by omega, by omega, by go_num, by rw [Hid, ← hst.out, stop_yes tcI bs sk hlt hs]⟩
                            case measure => simp [intOf]; omega
                          | false =>
                            go_wp2_with (go_at_call 21; refine (zzIsTchar_any _ _).mono ?_; rintro e1 w1 ⟨rfl, rfl⟩)
                            go_meet
                            case rel => exact ⟨by rw [← hst.out, stop_no tcI bs sk hlt hs], rfl⟩
                        · have hlt' : decide (sk < bs.length) = false := by simp; omega
                          go_wp2
                          go_meet
                          case rel => exact ⟨by rw [← hst.out, stop_end tcI bs sk (by omega)], rfl⟩
                    case rest =>
                      obtain ⟨rfl, rfl⟩ := hcut
                      generalize hm : stop tcI bs k = m at *
                      have Hm := hide hm
                      have m2 : m ≤ bs.length := by rw [← hm]; exact stop_le tcI bs k k2
                      have m1 : k ≤ m := by rw [← hm]; exact stop_ge tcI bs k
                      clear hm
                      by_cases hmk : m = k
                      · have hbe : ((m : Int) == (k : Int)) = true := by simp [hmk]
                        go_wp2
                        go_returns
                        refine ⟨?_, ?_⟩
                        · rw [cls_to bs i j k _ Hi.out Hj.out Hk.out, c_two bs i j k _ hin hji hkn C61.out hkj, c2_bad1 bs i j k _ m Ht.out Hm.out hmk]
                          simp only [elC]
                        · exact (Below.refl _ _).alloc (Nat.le_refl _) _

                      · have hbe : ((m : Int) == (k : Int)) = false := by simp; omega
                        go_upto_block 8 with fail
                        go_cut [11] (fun t wx => t = .int .i64 (stop spI bs m : Nat) ∧ (w.alloc (.cells #[.int .i64 0, .string ⟨#[]⟩, .string ⟨#[]⟩, .string ⟨#[]⟩, .string ⟨#[]⟩, .bool false] 49)) = wx)
                        case first =>
                          go_wp2_with fail
                          go_loop [11] (fun t => ∃ sk : Nat, m ≤ sk ∧ sk ≤ bs.length ∧ t = .int .i64 sk ∧ Hid (stop spI bs sk = stop spI bs m)) (fun t => bs.length - (intOf t).toNat)
                          case atStart => exact ⟨m, Nat.le_refl _, m2, rfl, rfl⟩
                          case round =>
                            obtain ⟨sk, hik, hsk, rfl, hst⟩ := hrel
                            by_cases hlt : sk < bs.length
                            · have hlt' : (sk : Int) < (bs.length : Int) := by omega
                              have hgk := mk_get bs sk (by rw [hz]; exact hlt)
                              cases hs : spI (byt bs sk) with
                              | true =>
                                go_wp2_with (go_at_call 22; refine (zzIsSpace_any _ _).mono ?_; rintro e1 w1 ⟨rfl, rfl⟩)
                                go_round
                                case rel => exact ⟨sk + 1, by omega, by omega, by go_num, by rw [Hid, ← hst.out, stop_yes spI bs sk hlt hs]⟩
                                case measure => simp [intOf]; omega
                              | false =>
                                go_wp2_with (go_at_call 22; refine (zzIsSpace_any _ _).mono ?_; rintro e1 w1 ⟨rfl, rfl⟩)
                                go_meet
                                case rel => exact ⟨by rw [← hst.out, stop_no spI bs sk hlt hs], rfl⟩
                            · have hlt' : decide (sk < bs.length) = false := by simp; omega
                              go_wp2
                              go_meet
                              case rel => exact ⟨by rw [← hst.out, stop_end spI bs sk (by omega)], rfl⟩
                        case rest =>
                          obtain ⟨rfl, rfl⟩ := hcut
                          generalize hp : stop spI bs m = p at *
                          have Hp := hide hp
                          have p2 : p ≤ bs.length := by rw [← hp]; exact stop_le spI bs m m2
                          have p1 : m ≤ p := by rw [← hp]; exact stop_ge spI bs m
                          clear hp
                          by_cases hpn : p = bs.length
                          · have hbe : ((p : Int) == (bs.length : Int)) = true := by simp [hpn]
                            go_wp2
                            go_returns
                            refine ⟨?_, ?_⟩
                            · rw [cls_to bs i j k _ Hi.out Hj.out Hk.out, c_two bs i j k _ hin hji hkn C61.out hkj, c2_bad2 bs i j k _ m p Ht.out Hm.out Hp.out hmk (.inl hpn)]
                              simp only [elC]
                            · exact (Below.refl _ _).alloc (Nat.le_refl _) _

                          · have hbe : ((p : Int) == (bs.length : Int)) = false := by simp; omega
                            have hgp := mk_get bs p (by rw [hz]; omega)
                            by_cases p61 : byt bs p = 61
                            · have hc : (byt bs p == 61) = true := by simp [p61]
                              have P61 : Hid (¬ (p = bs.length ∨ byt bs p ≠ 61)) := by
                                rintro (e | e)
                                · exact hpn e
                                · exact e p61
                              clear p61
                              have c23 := zzParamValue_any bs (p + 1) (w.alloc (.cells #[.int .i64 0, .string ⟨#[]⟩, .string ⟨#[]⟩, .string ⟨#[]⟩, .string ⟨#[]⟩, .bool false] 49)) (by omega) hn
                              cases hpv : pv bs (p + 1) bs.length with
                              | none =>
                                rw [hpv] at c23
                                have Hpv := hide hpv
                                clear hpv
                                simp only [okRet] at c23
                                go_wp2_with (go_at_call 23; refine c23.mono ?_; clear c23; rintro e4 w4 ⟨rfl, hb4⟩; have HB4 := hide (((Below.refl w.heap.size w).alloc (Nat.le_refl _) _).trans (hb4.mono (by simp))); have hrow := (hb4.block w.heap.size (by simp)).trans (heap_alloc_new w _); have HROW := hide hrow; clear hb4; obtain ⟨q0, f0⟩ := block_cells hrow 0 _ rfl; obtain ⟨q1, f1⟩ := block_cells hrow 1 _ rfl; obtain ⟨q2, f2⟩ := block_cells hrow 2 _ rfl; obtain ⟨q3, f3⟩ := block_cells hrow 3 _ rfl; obtain ⟨q4, f4⟩ := block_cells hrow 4 _ rfl; obtain ⟨q5, f5⟩ := block_cells hrow 5 _ rfl; clear hrow)
                                (try simp only [Exit.inBlock, Exit.then])
                                refine bodyPost_ret (results_cell_row (P := Tryf.prog) Tryf.results18 _ _ w.heap.size 49 #[.int .i64 1, .string ⟨#[]⟩, .string ⟨#[]⟩, .string ⟨#[]⟩, .string ⟨#[]⟩, .bool false] (0, 0) _ rfl (by exact set6 HROW.out _ _ _ _ _ _) Tryf.underlying49 rfl hi49) rfl ?_
                                refine ⟨?_, ?_⟩
                                · rw [cls_to bs i j k _ Hi.out Hj.out Hk.out, c_two bs i j k _ hin hji hkn C61.out hkj, c2_bad3 bs i j k _ m p Ht.out Hm.out Hp.out hmk P61.out Hpv.out]
                                  simp only [elC]
                                · exact below6 HB4.out (Nat.le_refl _) _ _ _ _ _ _

                              | some v =>
                                rw [hpv] at c23
                                have Hpv := hide hpv
                                clear hpv
                                simp only [okRet] at c23
                                go_wp2_with (go_at_call 23; refine c23.mono ?_; clear c23; rintro e4 w4 ⟨rfl, hb4⟩; have HB4 := hide (((Below.refl w.heap.size w).alloc (Nat.le_refl _) _).trans (hb4.mono (by simp))); have hrow := (hb4.block w.heap.size (by simp)).trans (heap_alloc_new w _); have HROW := hide hrow; clear hb4; obtain ⟨q0, f0⟩ := block_cells hrow 0 _ rfl; obtain ⟨q1, f1⟩ := block_cells hrow 1 _ rfl; obtain ⟨q2, f2⟩ := block_cells hrow 2 _ rfl; obtain ⟨q3, f3⟩ := block_cells hrow 3 _ rfl; obtain ⟨q4, f4⟩ := block_cells hrow 4 _ rfl; obtain ⟨q5, f5⟩ := block_cells hrow 5 _ rfl; clear hrow)
                                go_region
                                all_goals go_wp2
                                (try simp only [Exit.inBlock, Exit.then])
                                refine bodyPost_ret (results_cell_row (P := Tryf.prog) Tryf.results18 _ _ w.heap.size 49 #[.int .i64 5, .string ((mk bs).extract i j), .string ⟨#[]⟩, .string ((mk bs).extract k m), .string (mk v), .bool false] (0, 0) _ rfl (by exact set6d HROW.out _ _ _ _ _ _) Tryf.underlying49 rfl hi49) rfl ?_
                                refine ⟨?_, ?_⟩
                                · rw [cls_to bs i j k _ Hi.out Hj.out Hk.out, c_two bs i j k _ hin hji hkn C61.out hkj, c2_ok bs i j k _ m p v Ht.out Hm.out Hp.out hmk P61.out Hpv.out]
                                  simp only [elC, mk_extract]
                                · first | exact (below6 HB4.out (Nat.le_refl _) _ _ _ _ _ _).drew | exact below6 HB4.out (Nat.le_refl _) _ _ _ _ _ _

                            · have hc : (byt bs p == 61) = false := by simp [p61]
                              have P61 := hide p61
                              clear p61
                              go_wp2
                              go_returns
                              refine ⟨?_, ?_⟩
                              · rw [cls_to bs i j k _ Hi.out Hj.out Hk.out, c_two bs i j k _ hin hji hkn C61.out hkj, c2_bad2 bs i j k _ m p Ht.out Hm.out Hp.out hmk (.inr P61.out)]
                                simp only [elC]
                              · exact (Below.refl _ _).alloc (Nat.le_refl _) _

end Go.Proofs.Qxb6613049aFmt
