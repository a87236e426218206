import Derived.Test.Qxb6613049aFmtR6
namespace Go.Proofs.Qxb6613049aFmt
open Go.RowKit Go.Extern.Stop Go.Stop Go.Extern

/-- Where the loop over a quoted string stands. -/
def vRel (b : Nat) (bs : List UInt8) (d r : Nat) (w : World) (B : Nat) (g : Nat) (wr : World) : Prop :=
  ∃ k acc, d + 1 ≤ k ∧ k + g = bs.length ∧ RD b bs k (r + (k - d)) wr ∧ Turn (fun k => k = b) B w wr ∧ Lib.IsBuilder 73 5 B B (Lib.byteCells acc) wr ∧ acc.length ≤ k ∧ qs bs k acc = qs bs (d + 1) []

theorem Only.turn1 {b : Nat} {w w' : World} (h : Only b w w') (B : Nat) : Turn (fun k => k = b) B w w' := h.turn (fun k => k = b) rfl B
theorem Turn.set1 {b B : Nat} {w w' : World} (h : Turn (fun k => k = b) B w w') (o : Nat) (v : Value) : Turn (fun k => k = b) B w (w'.setCell ⟨b, o, none⟩ v) := h.setCell _ _ (.inr rfl)
theorem size_drewN (x : World) (n : Nat) : (x.drewN n).heap.size = x.heap.size := rfl
theorem byt_get (bs : List UInt8) (k : Nat) : byt bs k = ((bs.getD k 0).toNat : Int) := rfl

theorem vRel_start (b : Nat) (bs : List UInt8) (d r : Nat) (w w1 : World) (hd : d < bs.length) (h1 : RD b bs d (r + 1) w1) (o1 : Only b w w1) :
    vRel b bs d r w w1.heap.size (bs.length - (d + 1)) ((w1.setCell ⟨b, 1, none⟩ (.int .i64 ((d : Int) + 1))).alloc (.cells #[.pointer none, .slice none 0 0] 73)) := by
  have hl := h1.lt
  have hm := h1.move (d + 1)
  have hb := Lib.fresh_isBuilder 73 5 (w1.setCell ⟨b, 1, none⟩ (.int .i64 ((d : Int) + 1)))
  rw [size_setCell] at hb
  refine ⟨d + 1, [], Nat.le_refl _, by omega, ?_, ?_, hb, Nat.zero_le _, rfl⟩
  · rw [show r + (d + 1 - d) = r + 1 from by omega]
    exact hm.turn (turn_below ((Below.refl w1.heap.size _).alloc (by show _ ≤ (w1.setCell _ _).heap.size; rw [size_setCell]; exact Nat.le_refl _) _) (fun _ => False)) hl (fun e => e)
  · exact ((o1.turn1 _).set1 1 _).alloc (by rw [size_setCell]; exact Nat.le_refl _) _

/-- One byte more. -/
theorem vRel_step (b : Nat) (bs : List UInt8) (d r : Nat) (w wr w1 w2 : World) (B k k' p1 r1 : Nat) (acc : List UInt8) (c : UInt8) (x : Int) (hdk : d + 1 ≤ k) (hkk : k < k') (hk' : k' ≤ bs.length) (ht : Turn (fun k => k = b) B w wr) (ho : Only b wr w1) (h1 : RD b bs p1 r1 w1) (hr1 : r1 = r + (k' - d)) (hx : x = (k' : Int))
    (hb2 : Lib.IsBuilder 73 5 B B (Lib.byteCells (acc ++ [c])) w2) (hbe : Below B w1 w2) (hbl : b < B) (hacc : acc.length ≤ k) (hqs : qs bs k' (acc ++ [c]) = qs bs (d + 1) []) :
    vRel b bs d r w B (bs.length - k') (w2.setCell ⟨b, 1, none⟩ (.int .i64 x)) := by
  subst hx
  refine ⟨k', acc ++ [c], by omega, by omega, ?_, ?_, ?_, ?_, hqs⟩
  · rw [← hr1]
    exact (h1.turn (turn_below hbe (fun _ => False)) hbl (fun e => e)).move k'
  · exact ((ht.trans (ho.turn1 _)).trans (turn_below hbe _)).set1 1 _
  · exact bld_only hb2 ((Only.refl b w2).setCell 1 _) hbl
  · rw [List.length_append, List.length_singleton]; omega

set_option maxHeartbeats 8000000 in
set_option maxRecDepth 100000 in
theorem value_quoted (F : Interp) (b : Nat) (bs : List UInt8) (d r : Nat) (w : World) (hF : F.answers w.tape) (h : RD b bs d r w) (hd : d < bs.length) (hr : r ≤ 3000000000000) (hn : bs.length ≤ 1048576) (hq : byt bs d = 34) :
    Calls Tryf.prog 40 #[.pointer (some ⟨b, 0, none⟩)] w (valPost b bs d r w) := by
  have hat := at_yes b bs d r 34 w h hd (by omega) hn
  have hz := mk_size bs
  have e34 : (byt bs d == 34) = true := by simp [hq]
  rw [e34] at hat
  clear e34
  have hPV : Hid (PV bs d = qs bs (d + 1) []) := by
    show PV bs d = _
    unfold PV
    rw [if_pos ⟨hd, hq⟩]
  have hbl := h.lt
  clear hq h
  go_enter Tryf.func40, Tryf.ntmps40
  go_wp2_with (go_at_call 34; refine hat.mono ?_; clear hat; rintro e1 w1 ⟨rfl, hrd1, ho1⟩; have H1 := hide hrd1; have O1 := hide ho1; clear ho1; obtain ⟨g0, g1, g2, gf1, gf2⟩ := hrd1)
  go_loopg [6] (bs.length - (d + 1)) (fun g _ wr => vRel b bs d r w w1.heap.size g wr)
  case atStart => exact vRel_start b bs d r w w1 hd H1.out O1.out
  case round =>
    obtain ⟨k, acc, hdk, hkn, hrd, ht, hbld, hacc, hqs0⟩ := hrel
    have Hs : Hid (w1.heap.size = w.heap.size) := O1.out.size
    have hbl1 : b < w1.heap.size := by rw [Hs.out]; exact hbl
    clear g0 g1 g2 gf1 gf2 H1
    have hqs := hide hqs0
    have HR := hide hrd
    have T := hide ht
    have HB := hide hbld
    have Hg := hide hkn
    have hB : Hid (w1.heap.size ≤ wr.heap.size) := by rw [Hid, Hs.out]; exact T.out.size
    have hkl : k ≤ bs.length := by omega
    clear hqs0 ht hbld hkn
    generalize hrr : r + (k - d) = r' at *
    have Hr := hide hrr
    have hr2 : r' ≤ 3000001048576 := by omega
    clear hrr
    obtain ⟨g0, g1, g2, gf1, gf2⟩ := hrd
    have hFr : F.answers wr.tape := by rw [T.out.tape]; exact hF
    by_cases hk : k < bs.length
    · have hlt : (k : Int) < (bs.length : Int) := by omega
      by_cases c34 : byt bs k = 34
      · have hc : (byt bs k == 34) = true := by simp [c34]
        have HP : Hid (PV bs d = some (acc, k + 1)) := by rw [Hid, hPV.out, ← hqs.out, qs_in bs k acc hk, if_pos c34]
        clear c34
        go_wp2
        go_quiet (fail)
        go_wp2_with (first
          | (go_at_call 36; refine (byteAt_any b bs k r' k _ (by exact HR.out) hk (by omega) hn).mono ?_; rintro e2 w2 ⟨rfl, rfl⟩)
          | (go_at_call 45; refine (Tryf.Builder_String_any w1.heap.size w1.heap.size acc _ (bld_only HB.out ((((Only.refl b wr).drewN _).setCell 2 _).setCell 1 _) hbl1) (by rw [size_setCell, size_setCell]; exact hB.out)).mono ?_; rintro e3 w3 ⟨rfl, hb3⟩))
        go_ret2
        have hm := (HR.out.read).move (k + 1)
        have hhr := Hr.out
        refine valPost_some acc (k + 1) HP.out rfl (r' + 1) (RD.turn (X := fun _ => False) (by exact hm) (turn_below hb3 _) hbl1 (fun e => e)) ?_ (by omega) (by omega)
        rw [← Hs.out]
        exact (((T.out.drewN _).set1 2 _).set1 1 _).trans (turn_below hb3 _)
      · have hc : (byt bs k == 34) = false := by simp [c34]
        by_cases esc : byt bs k = 92 ∧ k + 1 < bs.length
        · have h92 : (byt bs k == 92) = true := by simp [esc.1]
          have h1n : k + 1 < bs.length := esc.2
          have hlt2 : (k : Int) + 1 < (bs.length : Int) := by omega
          have hqi := hide (qs_in bs k acc hk)
          rw [if_neg c34, if_pos esc] at hqi
          have HW := hide ((HR.out.read).move (k + 1)).read
          clear c34 esc
          cases hqb : qbI (byt bs (k + 1)) with
          | true =>
            have HQ : Hid (qs bs (k + 2) (acc ++ [bs.getD (k + 1) 0]) = qs bs (d + 1) []) := by
              rw [Hid, ← hqs.out, hqi.out, if_pos hqb]
            clear hqi
            go_wp2
            go_quiet (fail)
            go_wp2_with (go_at_call 36; refine (byteAt_any b bs k r' k _ (by exact HR.out) hk (by omega) hn).mono ?_; rintro e2 w2 ⟨rfl, rfl⟩)
            go_quiet (fail)
            go_wp2_with (first
              | (go_at_call 36; refine (byteAt_any b bs (k + 1) (r' + 1) (k + 1) _ (by exact (HR.out.read).move (k + 1)) h1n (by omega) hn).mono ?_; rintro e3 w3 ⟨rfl, rfl⟩)
              | (go_at_call 46; refine (isQuotedByte_any _ _).mono ?_; rintro e4 w4 ⟨rfl, rfl⟩)
              | (go_at_call 47; refine (WriteByte_any w1.heap.size w1.heap.size acc (bs.getD (k + 1) 0) _ (bld_only HB.out ((((((Only.refl b wr).drewN _).setCell 2 _).drewN _).setCell 1 _).setCell 2 _) hbl1) (by omega) (by simp only [size_setCell, size_drewN]; exact hB.out)).mono ?_; rintro e5 w5 ⟨rfl, hb5, hbe5⟩; have H5 := hide (RD.turn (X := fun _ => False) (by exact HW.out) (turn_below hbe5 _) hbl1 (fun e => e)); have HB5 := hide hb5; have HE5 := hide hbe5; have H5b := H5.out; clear hb5 hbe5; obtain ⟨i0, i1, i2, if1, if2⟩ := H5b))
            go_roundg (bs.length - (k + 2))
            case measure => have := Hg.out; omega
            case rel => exact vRel_step b bs d r w wr _ w5 w1.heap.size k (k + 2) (k + 1) (r' + 1 + 1) acc (bs.getD (k + 1) 0) _ hdk (by omega) (by omega) T.out ((((((Only.refl b wr).drewN _).setCell 2 _).drewN _).setCell 1 _).setCell 2 _) (by exact HW.out) (by have := Hr.out; omega) (by omega) HB5.out HE5.out hbl1 hacc HQ.out
          | false =>
            have HP : Hid (PV bs d = none) := by
              rw [Hid, hPV.out, ← hqs.out, hqi.out, if_neg (by rw [hqb]; simp)]
            clear hqi
            go_wp2
            go_quiet (fail)
            go_wp2_with (go_at_call 36; refine (byteAt_any b bs k r' k _ (by exact HR.out) hk (by omega) hn).mono ?_; rintro e2 w2 ⟨rfl, rfl⟩)
            go_quiet (fail)
            go_wp2_with (first
              | (go_at_call 36; refine (byteAt_any b bs (k + 1) (r' + 1) (k + 1) _ (by exact (HR.out.read).move (k + 1)) h1n (by omega) hn).mono ?_; rintro e3 w3 ⟨rfl, rfl⟩)
              | (go_at_call 46; refine (isQuotedByte_any _ _).mono ?_; rintro e4 w4 ⟨rfl, rfl⟩)
              | (go_at_call 27; refine (errorf_any F b bs (k + 1) (r' + 1 + 1) _ _ (by exact hFr) (by exact HW.out)).mono ?_; rintro e5 w5 ⟨qq, rfl, hb5⟩))
            go_ret2
            have hhr := Hr.out
            refine valPost_none HP.out qq rfl (k + 1) (r' + 1 + 1) (RD.turn (X := fun _ => False) (by exact HW.out) (turn_below hb5 _) (by exact HW.out.lt) (fun e => e)) ?_ (by omega) (by omega) (by omega) (by omega)
            rw [← Hs.out]
            exact (((((T.out.drewN _).set1 2 _).drewN _).set1 1 _).set1 2 _).trans (turn_below (hb5.mono (by simp only [size_setCell, size_drewN]; exact hB.out)) _)
        · have hqi := hide (qs_in bs k acc hk)
          rw [if_neg c34, if_neg esc] at hqi
          have HW := hide (HR.out.read)
          cases h92 : (byt bs k == 92) with
          | true =>
            have hlt2 : decide (k + 1 < bs.length) = false := by
              rw [decide_eq_false_iff_not]
              intro e
              exact esc ⟨eq_of_beq h92, e⟩
            have hlt3 : decide ((k : Int) + 1 < (bs.length : Int)) = false := by
              rw [decide_eq_false_iff_not]
              intro e
              exact esc ⟨eq_of_beq h92, by omega⟩
            clear c34 esc
            cases hqb : qbI (byt bs k) with
            | true =>
              have HQ : Hid (qs bs (k + 1) (acc ++ [bs.getD k 0]) = qs bs (d + 1) []) := by
                rw [Hid, ← hqs.out, hqi.out, if_pos hqb]
              clear hqi
              go_wp2
              go_quiet (fail)
              go_wp2_with (go_at_call 36; refine (byteAt_any b bs k r' k _ (by exact HR.out) hk (by omega) hn).mono ?_; rintro e2 w2 ⟨rfl, rfl⟩)
              go_quiet (fail)
              go_wp2_with (first
                | (go_at_call 46; refine (isQuotedByte_any _ _).mono ?_; rintro e4 w4 ⟨rfl, rfl⟩)
                | (go_at_call 47; refine (WriteByte_any w1.heap.size w1.heap.size acc (bs.getD k 0) _ (bld_only HB.out (((((Only.refl b wr).drewN _).setCell 2 _).drewN _)) hbl1) (by omega) (by simp only [size_setCell, size_drewN]; exact hB.out)).mono ?_; rintro e5 w5 ⟨rfl, hb5, hbe5⟩; have H5 := hide (RD.turn (X := fun _ => False) (by exact HW.out) (turn_below hbe5 _) hbl1 (fun e => e)); have HB5 := hide hb5; have HE5 := hide hbe5; have H5b := H5.out; clear hb5 hbe5; obtain ⟨i0, i1, i2, if1, if2⟩ := H5b))
              go_roundg (bs.length - (k + 1))
              case measure => have := Hg.out; omega
              case rel => exact vRel_step b bs d r w wr _ w5 w1.heap.size k (k + 1) k (r' + 1) acc (bs.getD k 0) _ hdk (by omega) (by omega) T.out (((((Only.refl b wr).drewN _).setCell 2 _).drewN _)) (by exact HW.out) (by have := Hr.out; omega) (by omega) HB5.out HE5.out hbl1 hacc HQ.out
            | false =>
              have HP : Hid (PV bs d = none) := by
                rw [Hid, hPV.out, ← hqs.out, hqi.out, if_neg (by rw [hqb]; simp)]
              clear hqi
              go_wp2
              go_quiet (fail)
              go_wp2_with (go_at_call 36; refine (byteAt_any b bs k r' k _ (by exact HR.out) hk (by omega) hn).mono ?_; rintro e2 w2 ⟨rfl, rfl⟩)
              go_quiet (fail)
              go_wp2_with (first
                | (go_at_call 46; refine (isQuotedByte_any _ _).mono ?_; rintro e4 w4 ⟨rfl, rfl⟩)
                | (go_at_call 27; refine (errorf_any F b bs k (r' + 1) _ _ (by exact hFr) (by exact HW.out)).mono ?_; rintro e5 w5 ⟨qq, rfl, hb5⟩))
              go_ret2
              have hhr := Hr.out
              refine valPost_none HP.out qq rfl k (r' + 1) (RD.turn (X := fun _ => False) (by exact HW.out) (turn_below hb5 _) (by exact HW.out.lt) (fun e => e)) ?_ (by omega) (by omega) (by omega) (by omega)
              rw [← Hs.out]
              exact (((T.out.drewN _).set1 2 _).drewN _).trans (turn_below (hb5.mono (by simp only [size_setCell, size_drewN]; exact hB.out)) _)
          | false =>
            clear c34 esc
            cases hqb : qbI (byt bs k) with
            | true =>
              have HQ : Hid (qs bs (k + 1) (acc ++ [bs.getD k 0]) = qs bs (d + 1) []) := by
                rw [Hid, ← hqs.out, hqi.out, if_pos hqb]
              clear hqi
              go_wp2
              go_quiet (fail)
              go_wp2_with (go_at_call 36; refine (byteAt_any b bs k r' k _ (by exact HR.out) hk (by omega) hn).mono ?_; rintro e2 w2 ⟨rfl, rfl⟩)
              go_quiet (fail)
              go_wp2_with (first
                | (go_at_call 46; refine (isQuotedByte_any _ _).mono ?_; rintro e4 w4 ⟨rfl, rfl⟩)
                | (go_at_call 47; refine (WriteByte_any w1.heap.size w1.heap.size acc (bs.getD k 0) _ (bld_only HB.out (((((Only.refl b wr).drewN _).setCell 2 _).drewN _)) hbl1) (by omega) (by simp only [size_setCell, size_drewN]; exact hB.out)).mono ?_; rintro e5 w5 ⟨rfl, hb5, hbe5⟩; have H5 := hide (RD.turn (X := fun _ => False) (by exact HW.out) (turn_below hbe5 _) hbl1 (fun e => e)); have HB5 := hide hb5; have HE5 := hide hbe5; have H5b := H5.out; clear hb5 hbe5; obtain ⟨i0, i1, i2, if1, if2⟩ := H5b))
              go_roundg (bs.length - (k + 1))
              case measure => have := Hg.out; omega
              case rel => exact vRel_step b bs d r w wr _ w5 w1.heap.size k (k + 1) k (r' + 1) acc (bs.getD k 0) _ hdk (by omega) (by omega) T.out (((((Only.refl b wr).drewN _).setCell 2 _).drewN _)) (by exact HW.out) (by have := Hr.out; omega) (by omega) HB5.out HE5.out hbl1 hacc HQ.out
            | false =>
              have HP : Hid (PV bs d = none) := by
                rw [Hid, hPV.out, ← hqs.out, hqi.out, if_neg (by rw [hqb]; simp)]
              clear hqi
              go_wp2
              go_quiet (fail)
              go_wp2_with (go_at_call 36; refine (byteAt_any b bs k r' k _ (by exact HR.out) hk (by omega) hn).mono ?_; rintro e2 w2 ⟨rfl, rfl⟩)
              go_quiet (fail)
              go_wp2_with (first
                | (go_at_call 46; refine (isQuotedByte_any _ _).mono ?_; rintro e4 w4 ⟨rfl, rfl⟩)
                | (go_at_call 27; refine (errorf_any F b bs k (r' + 1) _ _ (by exact hFr) (by exact HW.out)).mono ?_; rintro e5 w5 ⟨qq, rfl, hb5⟩))
              go_ret2
              have hhr := Hr.out
              refine valPost_none HP.out qq rfl k (r' + 1) (RD.turn (X := fun _ => False) (by exact HW.out) (turn_below hb5 _) (by exact HW.out.lt) (fun e => e)) ?_ (by omega) (by omega) (by omega) (by omega)
              rw [← Hs.out]
              exact (((T.out.drewN _).set1 2 _).drewN _).trans (turn_below (hb5.mono (by simp only [size_setCell, size_drewN]; exact hB.out)) _)
    · have hlt : decide (k < bs.length) = false := by simp; omega
      have HP : Hid (PV bs d = none) := by rw [Hid, hPV.out, ← hqs.out, qs_end bs k acc (by omega)]
      go_wp2
      go_quiet (fail)
      go_wp2_with (go_at_call 27; refine (errorf_any F b bs k r' _ _ (by exact hFr) (by exact HR.out)).mono ?_; rintro e3 w3 ⟨qq, rfl, hb3⟩)
      go_ret2
      have hhr := Hr.out
      refine valPost_none HP.out qq rfl k r' (RD.turn (X := fun _ => False) (by exact HR.out) (turn_below hb3 _) (by exact HR.out.lt) (fun e => e)) ?_ (by omega) hkl (by omega) (by omega)
      rw [← Hs.out]
      exact (T.out.drewN _).trans (turn_below (hb3.mono hB.out) _)

end Go.Proofs.Qxb6613049aFmt
