import Derived.Test.Qxb6613049aFmtRows
import Derived.Test.Qxb6613049aFmtText
import Derived.Lib.Strings
import Derived.WalkKit
import Derived.WalkSpells
import Derived.WalkLawsBesides
import Derived.Handy
import Derived.Deep.QuietTactic
import Derived.BigQuiet
import Derived.Deep.RegionWith
import Derived.Deep.RegionHeld
import Derived.Deep.LoopGhost
namespace Go.Proofs.Qxb6613049aFmt
open Go.RowKit

theorem hide {p : Prop} (h : p) : Hid p := h
theorem ret_bool {a b : Bool} (h : a = b) : Ending.returned (.bool a) = .returned (.bool b) := by rw [h]
theorem mk_extract (bs : List UInt8) (i j : Nat) : (mk bs).extract i j = mk (fldOf bs i j) := by
  apply ext_data
  rw [Lib.extract_data, mk_data, mk_data]
  rfl

/-- The reader in block b: the text, the place, the count of reads. -/
def RD (b : Nat) (bs : List UInt8) (p r : Nat) (w : World) : Prop :=
  w.cell? ⟨b, 0, none⟩ = some (.string (mk bs)) ∧ w.cell? ⟨b, 1, none⟩ = some (.int .i64 p) ∧ w.cell? ⟨b, 2, none⟩ = some (.int .i64 r) ∧ w.frozen? ⟨b, 1, none⟩ = false ∧ w.frozen? ⟨b, 2, none⟩ = false

/-- Nothing but block b has turned; no block is new. -/
structure Only (b : Nat) (w w' : World) : Prop where
  os : w'.os = w.os
  tape : w'.tape = w.tape
  output : w'.output = w.output
  size : w'.heap.size = w.heap.size
  block : ∀ k, k ≠ b → w'.heap[k]? = w.heap[k]?
theorem Only.refl (b : Nat) (w : World) : Only b w w := ⟨rfl, rfl, rfl, rfl, fun _ _ => rfl⟩
theorem Only.trans {b : Nat} {w w' w'' : World} (h : Only b w w') (k : Only b w' w'') : Only b w w'' :=
  ⟨k.os.trans h.os, k.tape.trans h.tape, k.output.trans h.output, k.size.trans h.size, fun i hi => (k.block i hi).trans (h.block i hi)⟩
theorem Only.drew {b : Nat} {w w' : World} (h : Only b w w') : Only b w w'.drew := ⟨h.os, h.tape, h.output, h.size, h.block⟩
theorem Only.drewN {b : Nat} {w w' : World} (h : Only b w w') (n : Nat) : Only b w (w'.drewN n) := ⟨h.os, h.tape, h.output, h.size, h.block⟩
theorem Only.setCell {b : Nat} {w w' : World} (h : Only b w w') (o : Nat) (v : Value) : Only b w (w'.setCell ⟨b, o, none⟩ v) :=
  h.trans ⟨rfl, rfl, rfl, by simp [World.setCell], fun k hk => Below.heap_setCell _ _ _ _ hk⟩

/-- The count of reads goes up by one. -/
theorem RD.read {b : Nat} {bs : List UInt8} {p r : Nat} {w : World} (h : RD b bs p r w) : RD b bs p (r + 1) (w.setCell ⟨b, 2, none⟩ (.int .i64 ((r : Int) + 1))) := by
  obtain ⟨h0, h1, h2, f1, f2⟩ := h
  refine ⟨?_, ?_, ?_, by simpa using f1, by simpa using f2⟩
  · rw [World.cell?_setCell_other _ _ _ _ (by simp)]; exact h0
  · rw [World.cell?_setCell_other _ _ _ _ (by simp)]; exact h1
  · rw [World.cell?_setCell_same _ _ _ h2]; rfl
theorem RD.move {b : Nat} {bs : List UInt8} {p r : Nat} {w : World} (h : RD b bs p r w) (q : Nat) : RD b bs q r (w.setCell ⟨b, 1, none⟩ (.int .i64 (q : Int))) := by
  obtain ⟨h0, h1, h2, f1, f2⟩ := h
  refine ⟨?_, ?_, ?_, by simpa using f1, by simpa using f2⟩
  · rw [World.cell?_setCell_other _ _ _ _ (by simp)]; exact h0
  · rw [World.cell?_setCell_same _ _ _ h1]
  · rw [World.cell?_setCell_other _ _ _ _ (by simp)]; exact h2

set_option maxHeartbeats 400000 in
theorem byteAt_any (b : Nat) (bs : List UInt8) (p r i : Nat) (w : World) (h : RD b bs p r w) (hi : i < bs.length) (hr : r ≤ 4611686018427387904) (_hn : bs.length ≤ 1048576) :
    Calls Tryf.prog 36 #[.pointer (some ⟨b, 0, none⟩), .int .i64 i] w fun e w' => e = .returned (.int .u8 (byt bs i)) ∧ w' = w.setCell ⟨b, 2, none⟩ (.int .i64 ((r : Int) + 1)) := by
  obtain ⟨h0, h1, h2, f1, f2⟩ := h
  have hg := mk_get bs
  have hz := mk_size bs
  have h0' : (w.setCell ⟨b, 2, none⟩ (.int .i64 ((r : Int) + 1))).cell? ⟨b, 0, none⟩ = some (.string (mk bs)) := by rw [World.cell?_setCell_other _ _ _ _ (by simp)]; exact h0
  go_enter Tryf.func36, Tryf.ntmps36
  go_wp2
  go_ret
  exact ⟨rfl, rfl⟩

set_option maxHeartbeats 400000 in
theorem isSpace_any (x : Int) (w : World) : Calls Tryf.prog 38 #[.int .u8 x] w fun e w' => e = .returned (.bool (spI x)) ∧ w' = w := by
  unfold spI
  cases h1 : (x == 32) with
  | true =>
    go_enter Tryf.func38, Tryf.ntmps38
    go_wp2
    go_ret
    exact ⟨by simp, rfl⟩
  | false =>
    go_enter Tryf.func38, Tryf.ntmps38
    go_wp2
    go_ret
    exact ⟨by simp, rfl⟩

set_option maxHeartbeats 400000 in
theorem at_yes (b : Nat) (bs : List UInt8) (p r : Nat) (c : Int) (w : World) (h : RD b bs p r w) (hp : p < bs.length) (hr : r ≤ 4611686018427387904) (hn : bs.length ≤ 1048576) :
    Calls Tryf.prog 34 #[.pointer (some ⟨b, 0, none⟩), .int .u8 c] w fun e w' => e = .returned (.bool (byt bs p == c)) ∧ RD b bs p (r + 1) w' ∧ Only b w w' := by
  have H := hide h
  obtain ⟨h0, h1, h2, f1, f2⟩ := h
  have hz := mk_size bs
  have hlt : (p : Int) < (bs.length : Int) := by omega
  go_enter Tryf.func34, Tryf.ntmps34
  go_wp2
  go_region_held (fun w' => w'.cell? ⟨b, 0, none⟩ = some (.string (mk bs)) ∧ w'.cell? ⟨b, 1, none⟩ = some (.int .i64 p)) (simp [*, World.cell?_setCell_other])
    (first | (go_at_call 36; refine (byteAt_any b bs p r p _ (by exact H.out) hp hr hn).mono ?_; rintro e1 w1 ⟨rfl, rfl⟩))
  all_goals
    go_wp2
    go_ret
    exact ⟨rfl, H.out.read, ((Only.refl b w).setCell 2 _).drew⟩

set_option maxHeartbeats 400000 in
theorem at_no (b : Nat) (bs : List UInt8) (p r : Nat) (c : Int) (w : World) (h : RD b bs p r w) (hp : bs.length ≤ p) :
    Calls Tryf.prog 34 #[.pointer (some ⟨b, 0, none⟩), .int .u8 c] w fun e w' => e = .returned (.bool false) ∧ RD b bs p r w' ∧ Only b w w' := by
  have H := hide h
  obtain ⟨h0, h1, h2, f1, f2⟩ := h
  have hz := mk_size bs
  have hlt : decide (p < bs.length) = false := by simp; omega
  go_enter Tryf.func34, Tryf.ntmps34
  go_wp2
  go_quiet (fail)
  go_wp2
  go_ret
  exact ⟨rfl, H.out, (Only.refl b w).drewN _⟩

/-- Is the byte at the reader's place c? -/
def atB (bs : List UInt8) (p : Nat) (c : Int) : Bool := decide (p < bs.length) && (byt bs p == c)
/-- Is there a byte to read? -/
def one (bs : List UInt8) (p : Nat) : Nat := if p < bs.length then 1 else 0

theorem at_any (b : Nat) (bs : List UInt8) (p r : Nat) (c : Int) (w : World) (h : RD b bs p r w) (hr : r ≤ 4611686018427387904) (hn : bs.length ≤ 1048576) :
    Calls Tryf.prog 34 #[.pointer (some ⟨b, 0, none⟩), .int .u8 c] w fun e w' => e = .returned (.bool (atB bs p c)) ∧ RD b bs p (r + one bs p) w' ∧ Only b w w' := by
  unfold atB one
  by_cases hp : p < bs.length
  · rw [if_pos hp, decide_eq_true hp, Bool.true_and]
    exact at_yes b bs p r c w h hp hr hn
  · rw [if_neg hp, decide_eq_false hp, Bool.false_and]
    exact at_no b bs p r c w h (by omega)

/-- Where the loop of skipSpace and of token stands. -/
def runRel (q : Int → Bool) (b : Nat) (bs : List UInt8) (p r : Nat) (w : World) (g : Nat) (wr : World) : Prop :=
  ∃ k r', p ≤ k ∧ k + g = bs.length ∧ r' = r + (k - p) ∧ RD b bs k r' wr ∧ Only b w wr ∧ stop q bs k = stop q bs p

theorem RD.step {b : Nat} {bs : List UInt8} {p r : Nat} {w : World} (h : RD b bs p r w) : RD b bs (p + 1) (r + 1) ((w.setCell ⟨b, 2, none⟩ (.int .i64 ((r : Int) + 1))).setCell ⟨b, 1, none⟩ (.int .i64 ((p : Int) + 1))).drew :=
  (h.read).move (p + 1)
theorem Only.step {b : Nat} {w wr : World} (h : Only b w wr) (u v : Value) : Only b w ((wr.setCell ⟨b, 2, none⟩ u).setCell ⟨b, 1, none⟩ v).drew := ((h.setCell 2 u).setCell 1 v).drew

set_option maxHeartbeats 1000000 in
theorem skipSpace_any (b : Nat) (bs : List UInt8) (p r : Nat) (w : World) (h : RD b bs p r w) (hp : p ≤ bs.length) (hr : r ≤ 4000000000000) (hn : bs.length ≤ 1048576) :
    Calls Tryf.prog 28 #[.pointer (some ⟨b, 0, none⟩)] w fun e w' => e = .returned (.bool (decide (p < stop spI bs p))) ∧ RD b bs (stop spI bs p) (r + (stop spI bs p - p) + one bs (stop spI bs p)) w' ∧ Only b w w' := by
  have H := hide h
  obtain ⟨h0, h1, h2, f1, f2⟩ := h
  have hz := mk_size bs
  go_enter Tryf.func28, Tryf.ntmps28
  go_wp2
  go_loopg [26] (bs.length - p) (fun g _ wr => runRel spI b bs p r w g wr)
  case atStart => exact ⟨p, r, Nat.le_refl _, by omega, by omega, H.out, Only.refl _ _, rfl⟩
  case round =>
    obtain ⟨k, r', hpk, hkn, hr', hrd, ho, hst0⟩ := hrel
    have hst := hide hst0
    have HR := hide hrd
    have Hr := hide hr'
    have hr2 : r' ≤ 4000002000000 := by omega
    have Hg := hide hkn
    have hkl : k ≤ bs.length := by omega
    clear hst0 hr' hkn
    obtain ⟨g0, g1, g2, gf1, gf2⟩ := hrd
    by_cases hk : k < bs.length
    · have hlt : (k : Int) < (bs.length : Int) := by omega
      cases hs : spI (byt bs k) with
      | true =>
        go_wp2
        go_region_held (fun w' => w'.cell? ⟨b, 0, none⟩ = some (.string (mk bs)) ∧ w'.cell? ⟨b, 1, none⟩ = some (.int .i64 k)) (simp [*, World.cell?_setCell_other])
          (first | (go_at_call 36; refine (byteAt_any b bs k r' k _ (by exact HR.out) hk (by omega) hn).mono ?_; rintro e1 w1 ⟨rfl, rfl⟩) | (go_at_call 38; refine (isSpace_any _ _).mono ?_; rintro e2 w2 ⟨rfl, rfl⟩))
        all_goals
          go_wp2
          go_roundg (gk - 1)
          case measure => have := Hg.out; omega
          case rel => exact ⟨k + 1, r' + 1, by omega, by have := Hg.out; omega, by have := Hr.out; omega, HR.out.step, ho.step _ _, by rw [← hst.out, stop_yes spI bs k hk hs]⟩
      | false =>
        have E : Hid (stop spI bs p = k) := by rw [Hid, ← hst.out]; exact stop_no spI bs k hk hs
        go_wp2
        go_region_held (fun w' => w'.cell? ⟨b, 0, none⟩ = some (.string (mk bs)) ∧ w'.cell? ⟨b, 1, none⟩ = some (.int .i64 k)) (simp [*, World.cell?_setCell_other])
          (first | (go_at_call 36; refine (byteAt_any b bs k r' k _ (by exact HR.out) hk (by omega) hn).mono ?_; rintro e1 w1 ⟨rfl, rfl⟩) | (go_at_call 38; refine (isSpace_any _ _).mono ?_; rintro e2 w2 ⟨rfl, rfl⟩))
        all_goals
          go_wp2
          go_ret
          refine ⟨ret_bool (by rw [E.out]), ?_, (ho.setCell 2 _).drew⟩
          rw [E.out, ← Hr.out, one, if_pos hk]
          exact HR.out.read
    · have hlt : decide (k < bs.length) = false := by simp; omega
      have E : Hid (stop spI bs p = k) := by rw [Hid, ← hst.out]; exact stop_end spI bs k (by omega)
      go_wp2
      go_quiet (fail)
      go_wp2
      go_ret
      refine ⟨ret_bool (by rw [E.out]), ?_, ho.drewN _⟩
      rw [E.out, ← Hr.out, one, if_neg hk]
      exact HR.out

end Go.Proofs.Qxb6613049aFmt
