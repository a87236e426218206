import Derived.Test.Qxb6003863aFmtW7
import Derived.Test.Qxb6003863aFmtPlain2
import Derived.Deep.RegionWith
namespace Go.Proofs.Qxb6003863aFmt
open Go.RowKit Go.Extern.Stop Go.Stop Go.Extern

def parRel (bs : List UInt8) (w : World) (c ev i : Value) (wr : World) : Prop :=
  ∃ (k cn : Nat) (x0 x1 : Int) (ok : Bool), k ≤ bs.length ∧ cn ≤ k ∧ c = .int .i64 cn ∧ i = .int .i64 k ∧ ErrV ok ev ∧ PState bs k x0 x1 ok cn ∧
    wr.cell? ⟨w.heap.size, 0, none⟩ = some (.int .i64 x0) ∧ wr.cell? ⟨w.heap.size, 1, none⟩ = some (.int .i64 x1) ∧
    wr.frozen? ⟨w.heap.size, 0, none⟩ = false ∧ wr.frozen? ⟨w.heap.size, 1, none⟩ = false ∧ Below w.heap.size w wr ∧ w.heap.size < wr.heap.size

def parsePost (bs : List UInt8) (w : World) (e : Ending) (w' : World) : Prop :=
  ∃ (x0 x1 nn : Int) (ok : Bool) (ev : Value), e = .returned (.tuple #[.agg #[.int .i64 x0, .int .i64 x1], .int .i64 nn, ev]) ∧ ErrV ok ev ∧ Want bs x0 x1 nn ok ∧ Below w.heap.size w w'

theorem byt_drop (bs : List UInt8) (k j : Nat) : byt (bs.drop k) j = byt bs (k + j) := by
  unfold byt; rw [List.getD_eq_getElem?_getD, List.getD_eq_getElem?_getD, List.getElem?_drop]
theorem box_cell {wr w1 : World} {o : Obj} {p : Addr} {v : Value} (hb : Below (wr.alloc o).drew.heap.size (wr.alloc o).drew w1) (hp : p.block < wr.heap.size) (h : wr.cell? p = some v) : w1.cell? p = some v := by
  rw [hb.cell (p := p) (by simp; omega)]
  exact (World.cell?_alloc_lt _ _ _ hp).trans h
theorem box_frozen {wr w1 : World} {o : Obj} {p : Addr} (hb : Below (wr.alloc o).drew.heap.size (wr.alloc o).drew w1) (hp : p.block < wr.heap.size) (h : wr.frozen? p = false) : w1.frozen? p = false := by
  rw [hb.frozen (p := p) (by simp; omega)]
  exact (((Below.refl _ wr).alloc (Nat.le_refl _) o).frozen (p := p) hp).trans h
theorem box_below {B : Nat} {w wr w1 : World} {o : Obj} (h : Below B w wr) (hB : B ≤ wr.heap.size) (hb : Below (wr.alloc o).drew.heap.size (wr.alloc o).drew w1) : Below B w w1 :=
  (h.alloc hB o).drew.trans (hb.mono (by simp; omega))

theorem set_here {w : World} {p : Addr} {u v : Value} (h : w.cell? p = some u) : (w.setCell p v).cell? p = some v := World.cell?_setCell_same _ _ _ h
theorem set_there0 {w : World} {b : Nat} {u v : Value} (h : w.cell? ⟨b, 1, none⟩ = some u) : (w.setCell ⟨b, 0, none⟩ v).cell? ⟨b, 1, none⟩ = some u := by
  exact (World.cell?_setCell_other _ _ _ _ (by simp)).trans h
theorem set_there1 {w : World} {b : Nat} {u v : Value} (h : w.cell? ⟨b, 0, none⟩ = some u) : (w.setCell ⟨b, 1, none⟩ v).cell? ⟨b, 0, none⟩ = some u := by
  exact (World.cell?_setCell_other _ _ _ _ (by simp)).trans h

set_option maxRecDepth 100000 in
set_option maxHeartbeats 1000000 in
theorem parse_any (F : Interp) (b off n cap : Nat) (bs : List UInt8) (w : World) (hF : F.answers w.tape) (hn : bs.length = n) (h0 : 0 < n) (hmax : n ≤ 1048576) (hcap : n ≤ cap) (hbig : cap ≤ 9223372036854775807)
    (hlt : b < w.heap.size) (hc : ∀ j, j < n → w.cell? ⟨b, off + j, none⟩ = some (.int .u8 (byt bs j))) :
    Calls Tryf.prog 24 #[.slice (some ⟨b, off, none⟩) n cap] w fun e w' => parsePost bs w e w' := by
  have Hc := hide hc
  clear hc
  go_enter Tryf.func24, Tryf.ntmps24
  go_wp2
  go_loopw [3, 4, 5, 6, 7, 8] (fun _ _ c ev i _ wr => parRel bs w c ev i wr) (fun _ _ _ _ i _ _ => n - (intOf i).toNat)
  case atStart => exact ⟨0, 0, 0, 0, true, Nat.zero_le _, Nat.le_refl _, rfl, rfl, rfl, ⟨rfl, rfl⟩, by simp, by simp, by simp, by simp, (Below.refl _ _).alloc (Nat.le_refl _) _, by simp⟩
  case round =>
    obtain ⟨k, cn, x0, x1, ok, hk, hck, rfl, rfl, hev, hP0, hi0, hi1, hf0, hf1, hB, hsz⟩ := hrel
    have hP := hide hP0
    clear hP0
    rw [hn] at hk
    have Hcr : Hid (∀ j, j < n → wr.cell? ⟨b, off + j, none⟩ = some (.int .u8 (byt bs j))) := fun j hj => by rw [hB.cell (p := ⟨b, off + j, none⟩) hlt]; exact Hc.out j hj
    have hFr : F.answers wr.tape := by rw [hB.tape]; exact hF
    have hltr : b < wr.heap.size := by have := hB.size; omega
    by_cases hkn : k < n
    · have hcell := Hcr.out k hkn
      by_cases hb : blankI (byt bs k) = true
      · go_wp2_with (go_at_call 34; refine (isBlank_any _ _).mono ?_; rintro e0 w0 ⟨rfl, rfl⟩)
        go_roundw
        case rel => exact ⟨k + 1, cn, x0, x1, ok, by omega, by omega, rfl, by go_num, hev, P_blank (by omega) hb hP.out, hi0, hi1, hf0, hf1, hB, hsz⟩
        case measure => simp [intOf]; omega
      · have hb' : blankI (byt bs k) = false := by simpa using hb
        clear hb
        rcases Nat.lt_or_ge cn 1 with hc0 | hc1
        · obtain rfl : cn = 0 := by omega
          by_cases h35 : byt bs k = 35
          · have h35' : (byt bs k == 35) = true := by simp [h35]
            have H35 := hide h35
            clear h35
            go_wp2_with (go_at_call 34; refine (isBlank_any _ _).mono ?_; rintro e0 w0 ⟨rfl, rfl⟩)
            exact bodyPost_ret (v := .tuple #[.agg #[.int .i64 x0, .int .i64 x1], .int .i64 0, .nilIface]) (by simp [results, Tryf.results24, go_sem, hi0, hi1]) rfl ⟨x0, x1, 0, true, .nilIface, rfl, rfl, P_hash (by omega) hb' H35.out hP.out, (hB.setCell (Nat.le_refl _) _).setCell (Nat.le_refl _) _⟩
          · have hok : ok = true := hP.out.2
            have hu6 : u6 = .nilIface := by rw [hok] at hev; exact hev
            subst hu6
            have h35' : (byt bs k == 35) = false := by simp [h35]
            have hsc := scanID_any F b off n cap bs k wr hFr hn hkn hmax hcap hbig hltr Hcr.out
            have hP' := P_scan0 (by omega) hb' h35 hP.out
            have he1 := stop_more nblankI bs k k (Nat.le_refl _) (stop_ge _ _ _) (by omega) (by simp [nblankI, hb'])
            have he2 := stop_le nblankI bs k (by omega)
            generalize (idAcc (fldOf bs k (stop nblankI bs k)) 0).isSome = okr at hsc hP'
            generalize (((idAcc (fldOf bs k (stop nblankI bs k)) 0).getD 0 : Nat) : Int) = xr at hsc hP'
            generalize stop nblankI bs k = e at hsc hP' he1 he2
            have HP' := hide hP'
            clear hP'
            go_wp2_with (go_at_call 34; refine (isBlank_any _ _).mono ?_; rintro e0 w0 ⟨rfl, rfl⟩)
            refine hsc.mono ?_
            rintro e1 w1 ⟨ev1, rfl, hev1, hB1⟩
            have gi0 := hB1.cell (p := ⟨w.heap.size, 0, none⟩) hsz
            have gi1 := hB1.cell (p := ⟨w.heap.size, 1, none⟩) hsz
            have gf0 := hB1.frozen (p := ⟨w.heap.size, 0, none⟩) hsz
            have gf1 := hB1.frozen (p := ⟨w.heap.size, 1, none⟩) hsz
            rw [hi0] at gi0
            rw [hi1] at gi1
            rw [hf0] at gf0
            rw [hf1] at gf1
            go_wp2
            go_roundw
            case rel => exact ⟨e, 1, xr, x1, okr, by omega, by omega, rfl, rfl, hev1, HP'.out, set_here gi0, set_there0 gi1, by simp [gf0], by simp [gf1], (hB.trans (hB1.mono (by omega))).setCell (Nat.le_refl _) _, by have := hB1.size; simp; omega⟩
            case measure => simp [intOf]; omega
        · rcases Nat.lt_or_ge cn 2 with hc1' | hc2
          · obtain rfl : cn = 1 := by omega
            have hsc := scanID_any F b off n cap bs k wr hFr hn hkn hmax hcap hbig hltr Hcr.out
            have hP' := P_scan1 (by omega) hb' hP.out
            have he1 := stop_more nblankI bs k k (Nat.le_refl _) (stop_ge _ _ _) (by omega) (by simp [nblankI, hb'])
            have he2 := stop_le nblankI bs k (by omega)
            generalize (idAcc (fldOf bs k (stop nblankI bs k)) 0).isSome = okr at hsc hP'
            generalize (((idAcc (fldOf bs k (stop nblankI bs k)) 0).getD 0 : Nat) : Int) = xr at hsc hP'
            generalize stop nblankI bs k = e at hsc hP' he1 he2
            have HP' := hide hP'
            clear hP'
            cases ok with
            | true =>
              have hu6 : u6 = .nilIface := hev
              subst hu6
              go_wp2_with (go_at_call 34; refine (isBlank_any _ _).mono ?_; rintro e0 w0 ⟨rfl, rfl⟩)
              refine hsc.mono ?_
              rintro e1 w1 ⟨ev1, rfl, hev1, hB1⟩
              have gi0 := hB1.cell (p := ⟨w.heap.size, 0, none⟩) hsz
              have gi1 := hB1.cell (p := ⟨w.heap.size, 1, none⟩) hsz
              have gf0 := hB1.frozen (p := ⟨w.heap.size, 0, none⟩) hsz
              have gf1 := hB1.frozen (p := ⟨w.heap.size, 1, none⟩) hsz
              rw [hi0] at gi0
              rw [hi1] at gi1
              rw [hf0] at gf0
              rw [hf1] at gf1
              go_wp2
              go_roundw
              case rel => exact ⟨e, 2, x0, xr, okr, by omega, by omega, rfl, rfl, hev1, HP'.out, set_there1 gi0, set_here gi1, by simp [gf0], by simp [gf1], (hB.trans (hB1.mono (by omega))).setCell (Nat.le_refl _) _, by have := hB1.size; simp; omega⟩
              case measure => simp [intOf]; omega
            | false =>
              obtain ⟨q, hu6⟩ : ∃ q, u6 = .iface 90 (.pointer (some q)) := hev
              subst hu6
              go_wp2_with (go_at_call 34; refine (isBlank_any _ _).mono ?_; rintro e0 w0 ⟨rfl, rfl⟩)
              refine hsc.mono ?_
              rintro e1 w1 ⟨ev1, rfl, hev1, hB1⟩
              have gi0 := hB1.cell (p := ⟨w.heap.size, 0, none⟩) hsz
              have gi1 := hB1.cell (p := ⟨w.heap.size, 1, none⟩) hsz
              have gf0 := hB1.frozen (p := ⟨w.heap.size, 0, none⟩) hsz
              have gf1 := hB1.frozen (p := ⟨w.heap.size, 1, none⟩) hsz
              rw [hi0] at gi0
              rw [hi1] at gi1
              rw [hf0] at gf0
              rw [hf1] at gf1
              go_wp2
              go_roundw
              case rel => exact ⟨e, 2, x0, xr, false, by omega, by omega, rfl, rfl, ⟨q, rfl⟩, HP'.out, set_there1 gi0, set_here gi1, by simp [gf0], by simp [gf1], (hB.trans (hB1.mono (by omega))).setCell (Nat.le_refl _) _, by have := hB1.size; simp; omega⟩
              case measure => simp [intOf]; omega
          · have hfe := fun (wx : World) (hcx : ∀ j, j < n → wx.cell? ⟨b, off + j, none⟩ = some (.int .u8 (byt bs j))) => fieldEnd_any b off n cap bs k wx hn (by omega) hmax hcx
            have he1 := stop_more nblankI bs k k (Nat.le_refl _) (stop_ge _ _ _) (by omega) (by simp [nblankI, hb'])
            have he2 := stop_le nblankI bs k (by omega)
            generalize stop nblankI bs k = e at hfe he1 he2
            have Hfe := hide hfe
            clear hfe
            rcases Nat.lt_or_ge cn 3 with hc2' | hc3
            · obtain rfl : cn = 2 := by omega
              cases ok with
              | true =>
                have hu6 : u6 = .nilIface := hev
                subst hu6
                have hat := isAttributeField_any b (off + k) (n - k) (cap - k) (bs.drop k) wr (by rw [List.length_drop, hn]) (by omega) (by omega) (by omega) (by omega) hltr
                  (fun j hj => by rw [byt_drop, Nat.add_assoc]; exact Hcr.out (k + j) (by omega))
                cases hA : attrB (bs.drop k) with
                | true =>
                  have hW := hide (P_attr (by omega) hb' rfl hA hP.out)
                  rw [hA] at hat
                  clear hA
                  go_wp2_with (go_at_call 34; refine (isBlank_any _ _).mono ?_; rintro e0 w0 ⟨rfl, rfl⟩)
                  refine hat.mono ?_
                  rintro e1 w1 ⟨rfl, hB1⟩
                  have gi0 := hB1.cell (p := ⟨w.heap.size, 0, none⟩) hsz
                  have gi1 := hB1.cell (p := ⟨w.heap.size, 1, none⟩) hsz
                  have gf0 := hB1.frozen (p := ⟨w.heap.size, 0, none⟩) hsz
                  have gf1 := hB1.frozen (p := ⟨w.heap.size, 1, none⟩) hsz
                  rw [hi0] at gi0
                  rw [hi1] at gi1
                  rw [hf0] at gf0
                  rw [hf1] at gf1
                  go_wp2
                  exact bodyPost_ret (v := .tuple #[.agg #[.int .i64 x0, .int .i64 x1], .int .i64 2, .nilIface]) (by simp [results, Tryf.results24, go_sem, gi0, gi1]) rfl ⟨x0, x1, 2, true, .nilIface, rfl, rfl, hW.out, ((hB.trans (hB1.mono (by omega))).setCell (Nat.le_refl _) _).setCell (Nat.le_refl _) _⟩
                | false =>
                  have HP' := hide (P_third (by omega) hb' (by rw [hA]; rfl) hP.out e)
                  rw [hA] at hat
                  clear hA
                  go_wp2_with (go_at_call 34; refine (isBlank_any _ _).mono ?_; rintro e0 w0 ⟨rfl, rfl⟩)
                  refine hat.mono ?_
                  rintro e1 w1 ⟨rfl, hB1⟩
                  have gi0 := hB1.cell (p := ⟨w.heap.size, 0, none⟩) hsz
                  have gi1 := hB1.cell (p := ⟨w.heap.size, 1, none⟩) hsz
                  have gf0 := hB1.frozen (p := ⟨w.heap.size, 0, none⟩) hsz
                  have gf1 := hB1.frozen (p := ⟨w.heap.size, 1, none⟩) hsz
                  rw [hi0] at gi0
                  rw [hi1] at gi1
                  rw [hf0] at gf0
                  rw [hf1] at gf1
                  go_wp2_with fail
                  refine (Hfe.out w1 (fun j hj => by rw [hB1.cell (p := ⟨b, off + j, none⟩) hltr]; exact Hcr.out j hj)).mono ?_
                  rintro e2 w2 ⟨rfl, rfl⟩
                  go_wp2
                  go_roundw
                  case rel => exact ⟨e, 3, x0, x1, true, by omega, by omega, rfl, rfl, rfl, HP'.out, gi0, gi1, gf0, gf1, hB.trans (hB1.mono (by omega)), by have := hB1.size; omega⟩
                  case measure => simp [intOf]; omega
              | false =>
                obtain ⟨q, hu6⟩ : ∃ q, u6 = .iface 90 (.pointer (some q)) := hev
                subst hu6
                have HP' := hide (P_third (by omega) hb' (by rfl) hP.out e)
                go_wp2_with (go_at_call 34; refine (isBlank_any _ _).mono ?_; rintro e0 w0 ⟨rfl, rfl⟩)
                refine (Hfe.out w0 Hcr.out).mono ?_
                rintro e2 w2 ⟨rfl, rfl⟩
                go_wp2
                go_roundw
                case rel => exact ⟨e, 3, x0, x1, false, by omega, by omega, rfl, rfl, ⟨q, rfl⟩, HP'.out, hi0, hi1, hf0, hf1, hB, hsz⟩
                case measure => simp [intOf]; omega
            · obtain ⟨m, rfl⟩ : ∃ m, cn = m + 3 := ⟨cn - 3, by omega⟩
              have HP' := hide (P_more hP.out e)
              have hm0 : (((m + 3 : Nat) : Int) == 0) = false := by simp; omega
              have hm2 : (((m + 3 : Nat) : Int) == 2) = false := by simp; omega
              go_wp2_with (go_at_call 34; refine (isBlank_any _ _).mono ?_; rintro e0 w0 ⟨rfl, rfl⟩)
              refine (Hfe.out w0 Hcr.out).mono ?_
              rintro e2 w2 ⟨rfl, rfl⟩
              go_wp2
              go_roundw
              case rel => exact ⟨e, m + 4, x0, x1, ok, by omega, by omega, by go_num, rfl, hev, HP'.out, hi0, hi1, hf0, hf1, hB, hsz⟩
              case measure => simp [intOf]; omega
    · obtain rfl : k = bs.length := by omega
      rcases Nat.lt_or_ge cn 3 with hc2 | hc3
      · have hg : ¬ (2 : Int) < (cn : Int) := by omega
        cases ok with
        | true =>
          have hu6 : u6 = .nilIface := hev
          subst hu6
          have hW := hide (P_end (by omega) hP.out (cn : Int) (fun _ => rfl))
          go_wp2
          exact bodyPost_ret (v := .tuple #[.agg #[.int .i64 x0, .int .i64 x1], .int .i64 cn, .nilIface]) (by simp [results, Tryf.results24, go_sem, hi0, hi1]) rfl ⟨x0, x1, cn, true, .nilIface, rfl, rfl, hW.out, (hB.setCell (Nat.le_refl _) _).setCell (Nat.le_refl _) _⟩
        | false =>
          obtain ⟨q, hu6⟩ : ∃ q, u6 = .iface 90 (.pointer (some q)) := hev
          subst hu6
          have hW := hide (P_end (by omega) hP.out (0 : Int) (fun h => by cases h))
          go_wp2
          exact bodyPost_ret (v := .tuple #[.agg #[.int .i64 x0, .int .i64 x1], .int .i64 0, .iface 90 (.pointer (some q))]) (by simp [results, Tryf.results24, go_sem, hi0, hi1]) rfl ⟨x0, x1, 0, false, _, rfl, ⟨q, rfl⟩, hW.out, (hB.setCell (Nat.le_refl _) _).setCell (Nat.le_refl _) _⟩
      · obtain ⟨m, rfl⟩ : ∃ m, cn = m + 3 := ⟨cn - 3, by omega⟩
        have hW := hide (P_end3 hP.out (0 : Int))
        go_wp2
        go_region_with (go_at_call 38; refine (errorf2_any F _ (by exact hFr) _ ((m : Int) + 3) ⟨#[117, 32, 118]⟩ ⟨#[117]⟩ (by simp) (by simp) (by simp)).mono ?_; rintro e1 w1 ⟨q, rfl, hb1⟩; have gi0 := box_cell hb1 hsz hi0; have gi1 := box_cell hb1 hsz hi1; have gf0 := box_frozen hb1 hsz hf0; have gf1 := box_frozen hb1 hsz hf1; have gB := box_below hB (Nat.le_of_lt hsz) hb1)
        all_goals
          go_wp2
          exact bodyPost_ret (v := .tuple #[.agg #[.int .i64 x0, .int .i64 x1], .int .i64 0, .iface 90 (.pointer (some q))]) (by simp [results, Tryf.results24, go_sem, gi0, gi1]) rfl ⟨x0, x1, 0, false, _, rfl, ⟨q, rfl⟩, hW.out, (gB.setCell (Nat.le_refl _) _).setCell (Nat.le_refl _) _⟩

end Go.Proofs.Qxb6003863aFmt
