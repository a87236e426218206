import Derived.Test.Qxb6003863aFmtW6
namespace Go.Proofs.Qxb6003863aFmt
open Go.RowKit Go.Extern.Stop Go.Stop Go.Extern

/-- nil where ok, else a new error of errors.New's make. -/
def ErrV (ok : Bool) (v : Value) : Prop := if ok = true then v = .nilIface else ∃ q, v = .iface 90 (.pointer (some q))

def scanRel (bs : List UInt8) (i e : Nat) (t u : Value) : Prop := ∃ k v : Nat, i ≤ k ∧ k ≤ e ∧ v ≤ top63 ∧ t = .int .i64 k ∧ u = .int .u64 v ∧ idAcc (fldOf bs k e) v = idAcc (fldOf bs i e) 0

/-- A slice's bytes lie still in a world that is as the first was below its end. -/
theorem Bytes.later {w w' : World} {b o : Nat} {xs : List Int} (h : Bytes w b o xs) (hlt : b < w.heap.size) (hB : Below w.heap.size w w') : Bytes w' b o xs := fun j v hj => by
  have hj' := h j v hj
  rw [Addr.add_lit] at hj' ⊢
  rw [hB.cell (p := ⟨b, o + j, none⟩) hlt]
  exact hj'

theorem below_box {w w2 w3 : World} {o : Obj} (h1 : Below w.heap.size w w2) (h3 : Below (w2.alloc o).heap.size (w2.alloc o) w3) : Below w.heap.size w w3 :=
  (h1.trans ((Below.refl _ _).alloc h1.size _)).trans (h3.mono (by have := h1.size; simp; omega))

set_option maxRecDepth 100000 in
set_option maxHeartbeats 1000000 in
theorem scanID_any (F : Interp) (b off n cap : Nat) (bs : List UInt8) (i : Nat) (w : World) (hF : F.answers w.tape) (hn : bs.length = n) (hi : i < n) (hmax : n ≤ 1048576) (hcap : n ≤ cap) (hbig : cap ≤ 9223372036854775807)
    (hlt : b < w.heap.size) (hc : ∀ j, j < n → w.cell? ⟨b, off + j, none⟩ = some (.int .u8 (byt bs j))) :
    Calls Tryf.prog 35 #[.slice (some ⟨b, off, none⟩) n cap, .int .i64 i] w fun e w' => ∃ ev, e = .returned (.tuple #[.int .i64 (((idAcc (fldOf bs i (stop nblankI bs i)) 0).getD 0 : Nat) : Int), .int .i64 (stop nblankI bs i : Nat), ev]) ∧ ErrV (idAcc (fldOf bs i (stop nblankI bs i)) 0).isSome ev ∧ Below w.heap.size w w' := by
  have he1 := stop_ge nblankI bs i
  have he2 := stop_le nblankI bs i (by omega)
  have hmid : ∀ k, i ≤ k → k ≤ stop nblankI bs i → stop nblankI bs k = stop nblankI bs i := fun k h1 h2 => stop_mid nblankI bs (k - i) i k (Nat.le_refl _) h1 h2 (by omega)
  have hbl : ∀ k, i ≤ k → k ≤ stop nblankI bs i → k < bs.length → blankI (byt bs k) = true → stop nblankI bs i = k := fun k h1 h2 h3 h4 => stop_blank nblankI bs i k h1 h2 h3 (by simp [nblankI, h4])
  have hmo : ∀ k, i ≤ k → k ≤ stop nblankI bs i → k < bs.length → nblankI (byt bs k) = true → k < stop nblankI bs i := fun k h1 h2 h3 h4 => stop_more nblankI bs i k h1 h2 h3 h4
  have hfe := fun (k : Nat) (h1 : i ≤ k) (h2 : k ≤ stop nblankI bs i) (wx : World) (hcx : ∀ j, j < n → wx.cell? ⟨b, off + j, none⟩ = some (.int .u8 (byt bs j))) => fieldEnd_any b off n cap bs k wx hn (by omega) hmax hcx
  have Hmid := hide hmid
  have Hbl := hide hbl
  have Hmo := hide hmo
  have Hfe := hide hfe
  have Hc := hide hc
  have hcl : ∀ wx, wx = w → Calls Tryf.prog 41 #[.slice (some ⟨b, off + i, none⟩) (stop nblankI bs i - i) (cap - i)] wx fun e w' => ∃ b' o' cap' xs, e = .returned (.slice (some ⟨b', o', none⟩) xs.length cap') ∧ Bytes w' b' o' xs ∧ b' < w'.heap.size ∧ Below wx.heap.size wx w' := fun wx hwx => by
    subst hwx
    exact clip_any b (off + i) (stop nblankI bs i - i) (cap - i) (fldOf bs i (stop nblankI bs i)) wx (fldOf_length _ _ _ he2) (by omega) (by omega) (by omega) hlt (fun j hj => by rw [byt_fldOf _ _ _ _ hj, Nat.add_assoc]; exact hc (i + j) (by omega))
  have Hcl := hide hcl
  clear hcl
  clear hmid hbl hmo hfe hc
  generalize stop nblankI bs i = e at *
  go_enter Tryf.func35, Tryf.ntmps35
  go_wp2
  go_loop [1, 4, 5, 6, 8] (fun t _ _ _ u => scanRel bs i e t u) (fun t _ _ _ _ => n - (intOf t).toNat)
  case atStart => exact ⟨i, 0, Nat.le_refl _, he1, by unfold top63; omega, rfl, rfl, rfl⟩
  case round =>
    obtain ⟨k, v, hik, hke, hv, rfl, rfl, hst0⟩ := hrel
    have hst := hide hst0
    clear hst0
    have hv' : (v : Int) ≤ 9223372036854775807 := by unfold top63 at hv; omega
    have hv0 : 0 ≤ (v : Int) := by omega
    generalize hz : (v : Int) = z at hv' hv0 ⊢
    have Hz := hide hz
    clear hz
    by_cases hkn : k < n
    · have hcell := Hc.out k hkn
      have hx0 := byt_nonneg bs k
      have hx1 := byt_le bs k
      by_cases hd : 48 ≤ byt bs k ∧ byt bs k ≤ 57
      · obtain ⟨hd1, hd2⟩ := hd
        have hk2 : k < e := Hmo.out k hik hke (by omega) (digit_nblank _ hd1)
        by_cases hov : z * 10 + (byt bs k - 48) ≤ 9223372036854775807
        · obtain ⟨e1, e2, e3⟩ := idF_yes bs k e v hk2 he2 ⟨hd1, hd2⟩ (by rw [Hz.out]; unfold top63; exact hov)
          have E1 : Hid (idAcc (fldOf bs (k + 1) e) (v * 10 + (byt bs k - 48).toNat) = idAcc (fldOf bs i e) 0) := by rw [Hid, ← e1]; exact hst.out
          have E2 : Hid (((v * 10 + (byt bs k - 48).toNat : Nat) : Int) = 10 * z + (byt bs k - 48)) := by rw [Hid, e2, Hz.out]; omega
          clear e1 e2 hst
          by_cases hq : z < 922337203685477580
          · go_wp2
            go_round
            case rel => exact ⟨k + 1, v * 10 + (byt bs k - 48).toNat, by omega, by omega, e3, by go_num, by rw [E2.out], E1.out⟩
            case measure => simp [intOf]; omega
          · have hq1 : ¬ 922337203685477580 < z := by omega
            have hq2 : ¬ 7 < byt bs k - 48 := by omega
            have hq0 : 922337203685477580 ≤ z := by omega
            go_wp2
            go_round
            case rel => exact ⟨k + 1, v * 10 + (byt bs k - 48).toNat, by omega, by omega, e3, by go_num, by rw [E2.out], E1.out⟩
            case measure => simp [intOf]; omega
        · have E1 : Hid (idAcc (fldOf bs i e) 0 = none) := by rw [Hid, ← hst.out]; exact idF_big bs k e v hk2 he2 (by rw [Hz.out]; unfold top63; omega)
          have hq0 : 922337203685477580 ≤ z := by omega
          have hm := Hmid.out k hik hke
          have hfe := Hfe.out k hik hke w Hc.out
          rw [hm] at hfe
          clear hm
          by_cases hq1 : 922337203685477580 < z
          · go_wp2_with fail
            refine hfe.mono ?_
            rintro e1 w1 ⟨rfl, rfl⟩
            go_wp2_with fail
            refine (Hcl.out w1 rfl).mono ?_
            rintro e2 w2 ⟨b', o', cap', xs, rfl, hB, hlt2, hbel⟩
            go_wp2_with fail
            refine (errorf0_any F _ (by show F.answers w2.tape; rw [hbel.tape]; exact hF) _ b' o' cap' xs (by simp) (hB.later hlt2 ((Below.refl _ _).alloc (Nat.le_refl _) _))).mono ?_
            rintro e3 w3 ⟨q, rfl, hb3⟩
            go_wp2
            go_ret3
            exact ⟨_, by rw [E1.out]; rfl, by rw [E1.out]; exact ⟨q, rfl⟩, below_box hbel hb3⟩
          · have hq2 : 7 < byt bs k - 48 := by omega
            go_wp2_with fail
            refine hfe.mono ?_
            rintro e1 w1 ⟨rfl, rfl⟩
            go_wp2_with fail
            refine (Hcl.out w1 rfl).mono ?_
            rintro e2 w2 ⟨b', o', cap', xs, rfl, hB, hlt2, hbel⟩
            go_wp2_with fail
            refine (errorf0_any F _ (by show F.answers w2.tape; rw [hbel.tape]; exact hF) _ b' o' cap' xs (by simp) (hB.later hlt2 ((Below.refl _ _).alloc (Nat.le_refl _) _))).mono ?_
            rintro e3 w3 ⟨q, rfl, hb3⟩
            go_wp2
            go_ret3
            exact ⟨_, by rw [E1.out]; rfl, by rw [E1.out]; exact ⟨q, rfl⟩, below_box hbel hb3⟩
      · by_cases hb : blankI (byt bs k) = true
        · have E1 : Hid (idAcc (fldOf bs i e) 0 = some v) := by rw [Hid, ← hst.out, fldOf_nil bs k e (by rw [Hbl.out k hik hke (by omega) hb]; omega)]; rfl
          have E2 : Hid ((k : Int) = (e : Int)) := by rw [Hid, ← Hbl.out k hik hke (by omega) hb]
          by_cases hlo : byt bs k < 48
          · have hwr : IntKind.u8.wrap (byt bs k - 48) = byt bs k + 208 := by rw [IntKind.wrap_u8]; omega
            go_wp2_with (go_at_call 34; refine (isBlank_any _ _).mono ?_; rintro e0 w0 ⟨rfl, rfl⟩)
            go_ret3
            exact ⟨_, by rw [E1.out, ← E2.out, ← Hz.out]; rfl, by rw [E1.out]; rfl, Below.refl _ _⟩
          · have hhi : 57 < byt bs k := by omega
            go_wp2_with (go_at_call 34; refine (isBlank_any _ _).mono ?_; rintro e0 w0 ⟨rfl, rfl⟩)
            go_ret3
            exact ⟨_, by rw [E1.out, ← E2.out, ← Hz.out]; rfl, by rw [E1.out]; rfl, Below.refl _ _⟩
        · have hb' : blankI (byt bs k) = false := by simpa using hb
          have hk2 : k < e := Hmo.out k hik hke (by omega) (by simp [nblankI, hb'])
          have E1 : Hid (idAcc (fldOf bs i e) 0 = none) := by rw [Hid, ← hst.out]; exact idF_no bs k e v hk2 he2 hd
          have hm := Hmid.out k hik hke
          have hfe := Hfe.out k hik hke w Hc.out
          rw [hm] at hfe
          clear hm
          by_cases hlo : byt bs k < 48
          · have hwr : IntKind.u8.wrap (byt bs k - 48) = byt bs k + 208 := by rw [IntKind.wrap_u8]; omega
            go_wp2_with (go_at_call 34; refine (isBlank_any _ _).mono ?_; rintro e0 w0 ⟨rfl, rfl⟩)
            refine hfe.mono ?_
            rintro e1 w1 ⟨rfl, rfl⟩
            go_wp2_with fail
            refine (Hcl.out w1 rfl).mono ?_
            rintro e2 w2 ⟨b', o', cap', xs, rfl, hB, hlt2, hbel⟩
            go_wp2_with fail
            refine (errorf1_any F _ (by show F.answers w2.tape; rw [hbel.tape]; exact hF) _ b' o' cap' xs (by simp) (hB.later hlt2 ((Below.refl _ _).alloc (Nat.le_refl _) _))).mono ?_
            rintro e3 w3 ⟨q, rfl, hb3⟩
            go_wp2
            go_ret3
            exact ⟨_, by rw [E1.out]; rfl, by rw [E1.out]; exact ⟨q, rfl⟩, below_box hbel hb3⟩
          · have hhi : 57 < byt bs k := by omega
            go_wp2_with (go_at_call 34; refine (isBlank_any _ _).mono ?_; rintro e0 w0 ⟨rfl, rfl⟩)
            refine hfe.mono ?_
            rintro e1 w1 ⟨rfl, rfl⟩
            go_wp2_with fail
            refine (Hcl.out w1 rfl).mono ?_
            rintro e2 w2 ⟨b', o', cap', xs, rfl, hB, hlt2, hbel⟩
            go_wp2_with fail
            refine (errorf1_any F _ (by show F.answers w2.tape; rw [hbel.tape]; exact hF) _ b' o' cap' xs (by simp) (hB.later hlt2 ((Below.refl _ _).alloc (Nat.le_refl _) _))).mono ?_
            rintro e3 w3 ⟨q, rfl, hb3⟩
            go_wp2
            go_ret3
            exact ⟨_, by rw [E1.out]; rfl, by rw [E1.out]; exact ⟨q, rfl⟩, below_box hbel hb3⟩
    · have hke2 : e = k := by omega
      have E1 : Hid (idAcc (fldOf bs i e) 0 = some v) := by rw [Hid, ← hst.out, fldOf_nil bs k e (by omega)]; rfl
      have E2 : Hid ((k : Int) = (e : Int)) := by rw [Hid, hke2]
      clear hke2
      go_wp2
      go_ret3
      exact ⟨_, by rw [E1.out, ← E2.out, ← Hz.out]; rfl, by rw [E1.out]; rfl, Below.refl _ _⟩

end Go.Proofs.Qxb6003863aFmt
