import Derived.Test.Qxb6613049aFmtR4
import Derived.Deep.CutBlock
import Derived.Deep.DeepCutAuto
namespace Go.Proofs.Qxb6613049aFmt
open Go.RowKit

/-- Of the blocks below B only those in X have turned. -/
structure Turn (X : Nat → Prop) (B : Nat) (w w' : World) : Prop where
  os : w'.os = w.os
  tape : w'.tape = w.tape
  output : w'.output = w.output
  size : w.heap.size ≤ w'.heap.size
  block : ∀ k, k < B → ¬ X k → w'.heap[k]? = w.heap[k]?
theorem Turn.refl (X : Nat → Prop) (B : Nat) (w : World) : Turn X B w w := ⟨rfl, rfl, rfl, Nat.le_refl _, fun _ _ _ => rfl⟩
theorem Turn.trans {X : Nat → Prop} {B : Nat} {w w' w'' : World} (h : Turn X B w w') (k : Turn X B w' w'') : Turn X B w w'' :=
  ⟨k.os.trans h.os, k.tape.trans h.tape, k.output.trans h.output, Nat.le_trans h.size k.size, fun i hi hx => (k.block i hi hx).trans (h.block i hi hx)⟩
theorem Only.turn {b : Nat} {w w' : World} (h : Only b w w') (X : Nat → Prop) (hX : X b) (B : Nat) : Turn X B w w' :=
  ⟨h.os, h.tape, h.output, Nat.le_of_eq h.size.symm, fun k _ hx => h.block k (fun e => hx (e ▸ hX))⟩
theorem turn_below {B : Nat} {w w' : World} (h : Below B w w') (X : Nat → Prop) : Turn X B w w' :=
  ⟨h.os, h.tape, h.output, h.size, fun k hk _ => h.block k hk⟩
theorem Turn.drew {X : Nat → Prop} {B : Nat} {w w' : World} (h : Turn X B w w') : Turn X B w w'.drew := ⟨h.os, h.tape, h.output, h.size, h.block⟩
theorem Turn.drewN {X : Nat → Prop} {B : Nat} {w w' : World} (h : Turn X B w w') (n : Nat) : Turn X B w (w'.drewN n) := ⟨h.os, h.tape, h.output, h.size, h.block⟩
theorem Turn.setCell {X : Nat → Prop} {B : Nat} {w w' : World} (h : Turn X B w w') (a : Addr) (v : Value) (ha : B ≤ a.block ∨ X a.block) : Turn X B w (w'.setCell a v) :=
  h.trans ⟨rfl, rfl, rfl, by simp [World.setCell], fun k hk hx => Below.heap_setCell _ _ _ _ (by rintro rfl; rcases ha with ha | ha; omega; exact hx ha)⟩
theorem Turn.alloc {X : Nat → Prop} {B : Nat} {w w' : World} (h : Turn X B w w') (hB : B ≤ w'.heap.size) (o : Obj) : Turn X B w (w'.alloc o) :=
  h.trans (turn_below ((Below.refl B w').alloc hB o) X)
theorem Turn.mono {X Y : Nat → Prop} {B C : Nat} {w w' : World} (h : Turn X B w w') (hC : C ≤ B) (hX : ∀ k, k < C → X k → Y k) : Turn Y C w w' :=
  ⟨h.os, h.tape, h.output, h.size, fun k hk hy => h.block k (Nat.lt_of_lt_of_le hk hC) (fun hx => hy (hX k hk hx))⟩
theorem Turn.cell {X : Nat → Prop} {B : Nat} {w w' : World} (h : Turn X B w w') {p : Addr} (hp : p.block < B) (hx : ¬ X p.block) : w'.cell? p = w.cell? p := World.cell?_of_block (w := w) (h.block p.block hp hx)
theorem Turn.frozen {X : Nat → Prop} {B : Nat} {w w' : World} (h : Turn X B w w') {p : Addr} (hp : p.block < B) (hx : ¬ X p.block) : w'.frozen? p = w.frozen? p := World.frozen?_of_block (w := w) (h.block p.block hp hx)
theorem Only.cell {b : Nat} {w w' : World} (h : Only b w w') {p : Addr} (hx : p.block ≠ b) : w'.cell? p = w.cell? p := World.cell?_of_block (w := w) (h.block p.block hx)
theorem Only.frozen {b : Nat} {w w' : World} (h : Only b w w') {p : Addr} (hx : p.block ≠ b) : w'.frozen? p = w.frozen? p := World.frozen?_of_block (w := w) (h.block p.block hx)
theorem RD.turn {X : Nat → Prop} {B b : Nat} {bs : List UInt8} {p r : Nat} {w w' : World} (h : RD b bs p r w) (t : Turn X B w w') (hb : b < B) (hx : ¬ X b) : RD b bs p r w' := by
  obtain ⟨h0, h1, h2, f1, f2⟩ := h
  exact ⟨(t.cell (p := ⟨b, 0, none⟩) hb hx).trans h0, (t.cell (p := ⟨b, 1, none⟩) hb hx).trans h1, (t.cell (p := ⟨b, 2, none⟩) hb hx).trans h2, (t.frozen (p := ⟨b, 1, none⟩) hb hx).trans f1, (t.frozen (p := ⟨b, 2, none⟩) hb hx).trans f2⟩
theorem RD.lt {b : Nat} {bs : List UInt8} {p r : Nat} {w : World} (h : RD b bs p r w) : b < w.heap.size := World.block_lt_of_cell? _ _ h.1

/-- Where a scan of token68's stands: from i on at k; the reader's place stays. -/
def scRel (f : Int → Bool) (b : Nat) (bs : List UInt8) (i q r : Nat) (w : World) (g : Nat) (t : Value) (wr : World) : Prop :=
  ∃ k r', i ≤ k ∧ k + g = bs.length ∧ t = .int .i64 k ∧ r + (k - i) = r' ∧ RD b bs q r' wr ∧ Only b w wr ∧ stop f bs k = stop f bs i
/-- Where it has ended. -/
def scEnd (f : Int → Bool) (b : Nat) (bs : List UInt8) (i q r : Nat) (w : World) (t : Value) (wr : World) : Prop :=
  ∃ r', t = .int .i64 (stop f bs i : Nat) ∧ RD b bs q r' wr ∧ Only b w wr ∧ r + (stop f bs i - i) ≤ r' ∧ r' ≤ r + (stop f bs i - i) + 1

/-- What token68 does at the reader's place q. -/
def t6Post (b cb : Nat) (bs : List UInt8) (q r : Nat) (w : World) (e : Ending) (w' : World) : Prop :=
  if t6m bs q = q ∨ ¬ En bs (stop spI bs (t6e bs q)) then
    e = .returned (.bool false) ∧ ∃ r', RD b bs q r' w' ∧ Only b w w' ∧ r ≤ r' ∧ r' ≤ r + (stop spI bs (t6e bs q) - q) + 4
  else
    e = .returned (.bool true) ∧ ∃ r', RD b bs (stop spI bs (t6e bs q)) r' w' ∧ Turn (fun k => k = b ∨ k = cb) w.heap.size w w' ∧ w'.heap.size = w.heap.size ∧
      w'.cell? ⟨cb, 0, none⟩ = w.cell? ⟨cb, 0, none⟩ ∧ w'.cell? ⟨cb, 1, none⟩ = some (.string (mk (fldOf bs q (t6e bs q)))) ∧ w'.cell? ⟨cb, 2, none⟩ = w.cell? ⟨cb, 2, none⟩ ∧
      r + (stop spI bs (t6e bs q) - q) ≤ r' ∧ r' ≤ r + (stop spI bs (t6e bs q) - q) + 4

theorem size_setCell (x : World) (a : Addr) (v : Value) : (x.setCell a v).heap.size = x.heap.size := by simp [World.setCell]
theorem t6_done (b cb : Nat) (bs : List UInt8) (q em fm r' : Nat) (s0 : ByteArray) (w w4 : World) (O : Only b w w4) (H : RD b bs fm r' w4) (hne : cb ≠ b) (hc : w4.cell? ⟨cb, 1, none⟩ = some (.string s0)) :
    RD b bs fm r' (w4.setCell ⟨cb, 1, none⟩ (.string ((mk bs).extract q em))) ∧ Turn (fun k => k = b ∨ k = cb) w.heap.size w (w4.setCell ⟨cb, 1, none⟩ (.string ((mk bs).extract q em))) ∧
      (w4.setCell ⟨cb, 1, none⟩ (.string ((mk bs).extract q em))).heap.size = w.heap.size ∧
      (w4.setCell ⟨cb, 1, none⟩ (.string ((mk bs).extract q em))).cell? ⟨cb, 0, none⟩ = w.cell? ⟨cb, 0, none⟩ ∧
      (w4.setCell ⟨cb, 1, none⟩ (.string ((mk bs).extract q em))).cell? ⟨cb, 1, none⟩ = some (.string (mk (fldOf bs q em))) ∧
      (w4.setCell ⟨cb, 1, none⟩ (.string ((mk bs).extract q em))).cell? ⟨cb, 2, none⟩ = w.cell? ⟨cb, 2, none⟩ := by
  refine ⟨?_, ?_, ?_, ?_, ?_, ?_⟩
  · exact H.turn (X := fun k => k = cb) (B := w4.heap.size) ((Turn.refl _ _ _).setCell _ _ (.inr rfl)) H.lt (fun e => hne e.symm)
  · exact (O.turn _ (.inl rfl) _).setCell _ _ (.inr (.inr rfl))
  · rw [size_setCell, O.size]
  · rw [World.cell?_setCell_other _ _ _ _ (by simp)]
    exact O.cell (p := ⟨cb, 0, none⟩) hne
  · rw [World.cell?_setCell_same _ _ _ hc, mk_extract]
  · rw [World.cell?_setCell_other _ _ _ _ (by simp)]
    exact O.cell (p := ⟨cb, 2, none⟩) hne

set_option maxHeartbeats 4000000 in
theorem token68_any (b cb : Nat) (bs : List UInt8) (q r : Nat) (s0 : ByteArray) (w : World) (h : RD b bs q r w) (hq : q ≤ bs.length) (hr : r ≤ 3000000000000) (hn : bs.length ≤ 1048576) (hne : cb ≠ b)
    (hc : w.cell? ⟨cb, 1, none⟩ = some (.string s0)) (hcf : w.frozen? ⟨cb, 1, none⟩ = false) :
    Calls Tryf.prog 29 #[.pointer (some ⟨b, 0, none⟩), .pointer (some ⟨cb, 0, none⟩)] w (t6Post b cb bs q r w) := by
  have H := hide h
  have hz := mk_size bs
  have m1 := stop_ge t6I bs q
  have m2 := stop_le t6I bs q hq
  obtain ⟨h0, h1, h2, f1, f2⟩ := h
  go_enter Tryf.func29, Tryf.ntmps29
  go_upto_block 0 with fail
  go_cut [5] (fun t wx => scEnd t6I b bs q q r w t wx)
  case first =>
    go_wp2_with fail
    go_loopg [5] (bs.length - q) (fun g t wr => scRel t6I b bs q q r w g t wr)
    case atStart => exact ⟨q, r, Nat.le_refl _, by omega, rfl, by omega, H.out, Only.refl _ _, rfl⟩
    case round =>
      obtain ⟨k, r', hqk, hkn, rfl, hr', hrd, ho, hst0⟩ := hrel
      have hst := hide hst0
      have HR := hide hrd
      have Hr := hide hr'
      have hr2 : r' ≤ 3000002000000 := by omega
      have Hg := hide hkn
      have hkl : k ≤ bs.length := by omega
      have O := hide ho
      clear hst0 hr' hkn ho
      obtain ⟨g0, g1, g2, gf1, gf2⟩ := hrd
      by_cases hk : k < bs.length
      · have hlt : (k : Int) < (bs.length : Int) := by omega
        cases hs : t6I (byt bs k) with
        | true =>
          go_wp2_with (first | (go_at_call 36; refine (byteAt_any b bs q r' k _ (by exact HR.out) hk (by omega) hn).mono ?_; rintro e1 w1 ⟨rfl, rfl⟩) | (go_at_call 39; refine (isToken68Char_any _ (byt_nonneg bs k) (byt_le bs k) _).mono ?_; rintro e2 w2 ⟨rfl, rfl⟩))
          go_roundg (gk - 1)
          case measure => have := Hg.out; omega
          case rel => exact ⟨k + 1, r' + 1, by omega, by have := Hg.out; omega, by rfl, by have := Hr.out; omega, HR.out.read, O.out.setCell 2 _, by rw [← hst.out, stop_yes t6I bs k hk hs]⟩
        | false =>
          have Es : Hid (stop t6I bs q = k) := by rw [Hid, ← hst.out]; exact stop_no t6I bs k hk hs
          go_wp2_with (first | (go_at_call 36; refine (byteAt_any b bs q r' k _ (by exact HR.out) hk (by omega) hn).mono ?_; rintro e1 w1 ⟨rfl, rfl⟩) | (go_at_call 39; refine (isToken68Char_any _ (byt_nonneg bs k) (byt_le bs k) _).mono ?_; rintro e2 w2 ⟨rfl, rfl⟩))
          go_meet
          case rel => exact ⟨r' + 1, by rw [Es.out], HR.out.read, O.out.setCell 2 _, by rw [Es.out]; have := Hr.out; omega, by rw [Es.out]; have := Hr.out; omega⟩
      · have hlt : decide (k < bs.length) = false := by simp; omega
        have Es : Hid (stop t6I bs q = k) := by rw [Hid, ← hst.out]; exact stop_end t6I bs k (by omega)
        go_wp2
        go_meet
        case rel => exact ⟨r', by rw [Es.out], HR.out, O.out, by rw [Es.out]; have := Hr.out; omega, by rw [Es.out]; have := Hr.out; omega⟩
  case rest =>
    obtain ⟨r1, rfl, hrd1, ho1, hb1, hb2⟩ := hcut
    have H1 := hide hrd1
    have O1 := hide ho1
    have hr1 : r1 ≤ 3000002000000 := by omega
    obtain ⟨g0, g1, g2, gf1, gf2⟩ := hrd1
    clear ho1
    have hx1 := hide hb1
    have hx2 := hide hb2
    clear hb1 hb2 h0 h1 h2 f1 f2
    generalize hm : stop t6I bs q = m at *
    have Hm : Hid (t6m bs q = m) := hm
    clear hm
    by_cases hmq : m = q
    · have hbe : ((m : Int) == (q : Int)) = true := by simp; omega
      go_wp2
      go_ret
      unfold t6Post
      rw [if_pos (.inl (by rw [Hm.out]; exact hmq))]
      have := hx1.out
      have := hx2.out
      exact ⟨rfl, r1, H1.out, O1.out, by omega, by omega⟩
    · have hbe : ((m : Int) == (q : Int)) = false := by simp; omega
      go_upto_block 2 with fail
      go_cut [5] (fun t wx => scEnd eqI b bs m q r1 w t wx)
      case first =>
        go_wp2_with fail
        go_loopg [5] (bs.length - m) (fun g t wr => scRel eqI b bs m q r1 w g t wr)
        case atStart => exact ⟨m, r1, Nat.le_refl _, by omega, rfl, by omega, H1.out, O1.out, rfl⟩
        case round =>
          obtain ⟨k, r', hqk, hkn, rfl, hr', hrd, ho, hst0⟩ := hrel
          have hst := hide hst0
          have HR := hide hrd
          have Hr := hide hr'
          have hr2 : r' ≤ 3000004000000 := by omega
          have Hg := hide hkn
          have hkl : k ≤ bs.length := by omega
          have O := hide ho
          clear hst0 hr' hkn ho g0 g1 g2 gf1 gf2
          obtain ⟨g0, g1, g2, gf1, gf2⟩ := hrd
          by_cases hk : k < bs.length
          · have hlt : (k : Int) < (bs.length : Int) := by omega
            cases hs : (byt bs k == 61) with
            | true =>
              go_wp2_with (go_at_call 36; refine (byteAt_any b bs q r' k _ (by exact HR.out) hk (by omega) hn).mono ?_; rintro e1 w1 ⟨rfl, rfl⟩)
              go_roundg (gk - 1)
              case measure => have := Hg.out; omega
              case rel => exact ⟨k + 1, r' + 1, by omega, by have := Hg.out; omega, by rfl, by have := Hr.out; omega, HR.out.read, O.out.setCell 2 _, by rw [← hst.out, stop_yes eqI bs k hk hs]⟩
            | false =>
              have Es : Hid (stop eqI bs m = k) := by rw [Hid, ← hst.out]; exact stop_no eqI bs k hk hs
              go_wp2_with (go_at_call 36; refine (byteAt_any b bs q r' k _ (by exact HR.out) hk (by omega) hn).mono ?_; rintro e1 w1 ⟨rfl, rfl⟩)
              go_meet
              case rel => exact ⟨r' + 1, by rw [Es.out], HR.out.read, O.out.setCell 2 _, by rw [Es.out]; have := Hr.out; omega, by rw [Es.out]; have := Hr.out; omega⟩
          · have hlt : decide (k < bs.length) = false := by simp; omega
            have Es : Hid (stop eqI bs m = k) := by rw [Hid, ← hst.out]; exact stop_end eqI bs k (by omega)
            go_wp2
            go_meet
            case rel => exact ⟨r', by rw [Es.out], HR.out, O.out, by rw [Es.out]; have := Hr.out; omega, by rw [Es.out]; have := Hr.out; omega⟩
      case rest =>
        obtain ⟨r2, rfl, hrd2, ho2, hb3, hb4⟩ := hcut
        have e1 := stop_ge eqI bs m
        have e2 := stop_le eqI bs m m2
        have H2 := hide hrd2
        have O2 := hide ho2
        have hr2 : r2 ≤ 3000004000000 := by omega
        clear g0 g1 g2 gf1 gf2 H1 O1 ho2
        obtain ⟨g0, g1, g2, gf1, gf2⟩ := hrd2
        have hx3 := hide hb3
        have hx4 := hide hb4
        clear hb3 hb4
        generalize hem : stop eqI bs m = em at *
        have He : Hid (t6e bs q = em) := by rw [Hid]; unfold t6e; rw [Hm.out]; exact hem
        clear hem
        have hsp := skipSpace_any b bs em r2 (wc.setCell ⟨b, 1, none⟩ (.int .i64 (em : Int))) (H2.out.move em) e2 (by omega) hn
        have s1 := stop_ge spI bs em
        have s2 := stop_le spI bs em e2
        generalize hfm : stop spI bs em = fm at *
        have Hf : Hid (stop spI bs (t6e bs q) = fm) := by rw [Hid, He.out]; exact hfm
        clear hfm
        have o1 := one_le bs fm
        by_cases hlf : fm < bs.length
        · have hlt : (fm : Int) < (bs.length : Int) := by omega
          have hra : r2 + (fm - em) + one bs fm ≤ 4611686018427387904 := by omega
          have o2 : one bs fm = 1 := by unfold one; rw [if_pos hlf]
          cases hco : (byt bs fm == 44) with
          | true =>
            go_wp2_with (go_at_call 28; refine hsp.mono ?_; clear hsp; rintro e1 w1 ⟨rfl, hrd3, ho3⟩; have H3 := hide hrd3; have O3 := hide ho3; clear ho3 g0 g1 g2 gf1 gf2; obtain ⟨g0, g1, g2, gf1, gf2⟩ := hrd3)
            go_region_held (fun w' => w'.cell? ⟨b, 0, none⟩ = some (.string (mk bs)) ∧ w'.cell? ⟨b, 1, none⟩ = some (.int .i64 fm)) (simp [*])
              (first | (go_at_call 34; refine (at_yes b bs fm _ 44 _ (by exact H3.out) hlf hra hn).mono ?_; rintro e4 w4 ⟨rfl, hrd4, ho4⟩; have H4 := hide hrd4; have O4 := hide ho4; clear ho4 g0 g1 g2 gf1 gf2; obtain ⟨g0, g1, g2, gf1, gf2⟩ := hrd4))
            all_goals
              have OA := (((O2.out.setCell 1 (.int .i64 (em : Int))).trans O3.out).drew).trans O4.out
              have hc4 := (OA.cell (p := ⟨cb, 1, none⟩) hne).trans hc
              have hcf4 := (OA.frozen (p := ⟨cb, 1, none⟩) hne).trans hcf
              have OB := hide OA
              clear OA
              go_wp2
              go_ret
              unfold t6Post
              have := hx1.out
              have := hx2.out
              have := hx3.out
              have := hx4.out
              rw [if_neg (by rw [Hm.out, Hf.out]; rintro (e | e); exact hmq e; exact e (.inr (eq_of_beq hco))), Hf.out, He.out]
              obtain ⟨t1, t2, t3, t4, t5, t6⟩ := t6_done b cb bs q em fm _ s0 w _ OB.out H4.out hne hc4
              exact ⟨rfl, r2 + (fm - em) + one bs fm + 1, t1, t2, t3, t4, t5, t6, by omega, by omega⟩
          | false =>
            go_wp2_with (go_at_call 28; refine hsp.mono ?_; clear hsp; rintro e1 w1 ⟨rfl, hrd3, ho3⟩; have H3 := hide hrd3; have O3 := hide ho3; clear ho3 g0 g1 g2 gf1 gf2; obtain ⟨g0, g1, g2, gf1, gf2⟩ := hrd3)
            go_region_held (fun w' => w'.cell? ⟨b, 0, none⟩ = some (.string (mk bs)) ∧ w'.cell? ⟨b, 1, none⟩ = some (.int .i64 fm)) (simp [*])
              (first | (go_at_call 34; refine (at_yes b bs fm _ 44 _ (by exact H3.out) hlf hra hn).mono ?_; rintro e4 w4 ⟨rfl, hrd4, ho4⟩; have H4 := hide hrd4; have O4 := hide ho4; clear ho4 g0 g1 g2 gf1 gf2; obtain ⟨g0, g1, g2, gf1, gf2⟩ := hrd4))
            all_goals
              have OA := hide ((((O2.out.setCell 1 (.int .i64 (em : Int))).trans O3.out).drew).trans O4.out)
              go_wp2
              go_ret
              unfold t6Post
              have := hx1.out
              have := hx2.out
              have := hx3.out
              have := hx4.out
              rw [if_pos (.inr (by rw [Hf.out]; rintro (e | e); omega; rw [e] at hco; cases hco)), Hf.out]
              exact ⟨rfl, r2 + (fm - em) + one bs fm + 1, H4.out.move q, OA.out.setCell 1 _, by omega, by omega⟩
        · have hlt : decide (fm < bs.length) = false := by simp; omega
          have o2 : one bs fm = 0 := by unfold one; rw [if_neg hlf]
          go_wp2_with (go_at_call 28; refine hsp.mono ?_; clear hsp; rintro e1 w1 ⟨rfl, hrd3, ho3⟩; have H3 := hide hrd3; have O3 := hide ho3; clear ho3 g0 g1 g2 gf1 gf2; obtain ⟨g0, g1, g2, gf1, gf2⟩ := hrd3)
          go_quiet (fail)
          have OA := ((O2.out.setCell 1 (.int .i64 (em : Int))).trans O3.out).drewN nq
          have hc4 := (OA.cell (p := ⟨cb, 1, none⟩) hne).trans hc
          have hcf4 := (OA.frozen (p := ⟨cb, 1, none⟩) hne).trans hcf
          have OB := hide OA
          clear OA
          go_wp2
          go_ret
          unfold t6Post
          have := hx1.out
          have := hx2.out
          have := hx3.out
          have := hx4.out
          rw [if_neg (by rw [Hm.out, Hf.out]; rintro (e | e); exact hmq e; exact e (.inl (by omega))), Hf.out, He.out]
          obtain ⟨t1, t2, t3, t4, t5, t6⟩ := t6_done b cb bs q em fm _ s0 w (w1.drewN nq) OB.out H3.out hne hc4
          exact ⟨rfl, r2 + (fm - em) + one bs fm, t1, t2, t3, t4, t5, t6, by omega, by omega⟩

end Go.Proofs.Qxb6613049aFmt
