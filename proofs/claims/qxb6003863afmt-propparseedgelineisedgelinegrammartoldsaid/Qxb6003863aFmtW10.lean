import Derived.Test.Qxb6003863aFmtW9
namespace Go.Proofs.Qxb6003863aFmt
open Go.RowKit Go.Extern.Stop Go.Stop Go.Extern

/-- The line's bytes lie in this world. -/
def Lies (b off n : Nat) (bs : List UInt8) (w : World) : Prop := ∀ j, j < n → w.cell? ⟨b, off + j, none⟩ = some (.int .u8 (byt bs j))

theorem Lies.later {b off n : Nat} {bs : List UInt8} {w w' : World} (h : Lies b off n bs w) (hlt : b < w.heap.size) (hB : Below w.heap.size w w') : Lies b off n bs w' := fun j hj => by
  rw [hB.cell (p := ⟨b, off + j, none⟩) hlt]; exact h j hj

theorem next0 (b off n cap : Nat) (bs : List UInt8) (w : World) (hn : bs.length = n) (hmax : n ≤ 1048576) (h : Lies b off n bs w) : Calls Tryf.prog 8 #[.slice (some ⟨b, off, none⟩) n cap, .int .i64 0] w fun e w' => e = .returned (.tuple #[.int .i64 (S0 bs : Nat), .int .i64 (E0 bs : Nat)]) ∧ w' = w :=
  zzNextField_any b off n cap bs 0 w hn (by omega) hmax h
theorem next1 (b off n cap : Nat) (bs : List UInt8) (w : World) (hn : bs.length = n) (hmax : n ≤ 1048576) (h : Lies b off n bs w) : Calls Tryf.prog 8 #[.slice (some ⟨b, off, none⟩) n cap, .int .i64 (E0 bs : Nat)] w fun e w' => e = .returned (.tuple #[.int .i64 (S1 bs : Nat), .int .i64 (E1 bs : Nat)]) ∧ w' = w :=
  zzNextField_any b off n cap bs (E0 bs) w hn (by have := E0_le bs; omega) hmax h
theorem next2 (b off n cap : Nat) (bs : List UInt8) (w : World) (hn : bs.length = n) (hmax : n ≤ 1048576) (h : Lies b off n bs w) : Calls Tryf.prog 8 #[.slice (some ⟨b, off, none⟩) n cap, .int .i64 (E1 bs : Nat)] w fun e w' => e = .returned (.tuple #[.int .i64 (S2 bs : Nat), .int .i64 (stop nblankI bs (S2 bs) : Nat)]) ∧ w' = w :=
  zzNextField_any b off n cap bs (E1 bs) w hn (by have := E1_le bs; omega) hmax h
theorem id0 (b off n cap : Nat) (bs : List UInt8) (w : World) (hn : bs.length = n) (hmax : n ≤ 1048576) (h : Lies b off n bs w) (hs : S0 bs < E0 bs) :
    Calls Tryf.prog 9 #[.slice (some ⟨b, off + S0 bs, none⟩) (E0 bs - S0 bs) (cap - S0 bs)] w fun e w' => e = .returned (idV (IdA bs)) ∧ w' = w := by
  have := E0_le bs
  exact zzID_any b (off + S0 bs) (E0 bs - S0 bs) (cap - S0 bs) (fldOf bs (S0 bs) (E0 bs)) w (fldOf_length _ _ _ (by omega)) (by omega) (by omega) (fun j hj => by rw [byt_fldOf _ _ _ _ hj, Nat.add_assoc]; exact h (S0 bs + j) (by omega))
theorem id1 (b off n cap : Nat) (bs : List UInt8) (w : World) (hn : bs.length = n) (hmax : n ≤ 1048576) (h : Lies b off n bs w) (hs : S1 bs < E1 bs) :
    Calls Tryf.prog 9 #[.slice (some ⟨b, off + S1 bs, none⟩) (E1 bs - S1 bs) (cap - S1 bs)] w fun e w' => e = .returned (idV (IdB bs)) ∧ w' = w := by
  have := E1_le bs
  exact zzID_any b (off + S1 bs) (E1 bs - S1 bs) (cap - S1 bs) (fldOf bs (S1 bs) (E1 bs)) w (fldOf_length _ _ _ (by omega)) (by omega) (by omega) (fun j hj => by rw [byt_fldOf _ _ _ _ hj, Nat.add_assoc]; exact h (S1 bs + j) (by omega))
theorem att2 (b off n cap : Nat) (bs : List UInt8) (w : World) (hn : bs.length = n) (hmax : n ≤ 1048576) (h : Lies b off n bs w) (hs : S2 bs < n) :
    Calls Tryf.prog 10 #[.slice (some ⟨b, off + S2 bs, none⟩) (n - S2 bs) (cap - S2 bs)] w fun e w' => e = .returned (.bool (Att bs)) ∧ w' = w :=
  zzAttribute_any b (off + S2 bs) (n - S2 bs) (cap - S2 bs) (bs.drop (S2 bs)) w (by rw [List.length_drop, hn]) (by omega) (by omega) (fun j hj => by rw [byt_drop, Nat.add_assoc]; exact h (S2 bs + j) (by omega))

theorem nblank_of (bs : List UInt8) (i : Nat) (h : stop blankI bs i < bs.length) : stop blankI bs i < stop nblankI bs (stop blankI bs i) := by
  have h1 := stop_at blankI bs bs.length i (by omega) h
  exact stop_more nblankI bs _ _ (Nat.le_refl _) (stop_ge _ _ _) h (by simp [nblankI, h1])
theorem S0_lt (bs : List UInt8) (h : S0 bs < bs.length) : S0 bs < E0 bs := nblank_of bs 0 h
theorem S1_lt (bs : List UInt8) (h : S1 bs < bs.length) : S1 bs < E1 bs := nblank_of bs (E0 bs) h

theorem idV_some (v : Nat) : idV (some v) = .tuple #[.int .i64 (v : Int), .bool true] := rfl
theorem idV_none : idV none = .tuple #[.int .i64 0, .bool false] := rfl

def CN (b off n cap : Nat) (bs : List UInt8) (i : Int) (s e : Nat) : Prop := ∀ wx, Lies b off n bs wx → Calls Tryf.prog 8 #[.slice (some ⟨b, off, none⟩) n cap, .int .i64 i] wx fun r w' => r = .returned (.tuple #[.int .i64 (s : Int), .int .i64 (e : Int)]) ∧ w' = wx
def CI (b off n cap : Nat) (bs : List UInt8) (s e : Nat) (v : Value) : Prop := ∀ wx, Lies b off n bs wx → Calls Tryf.prog 9 #[.slice (some ⟨b, off + s, none⟩) (e - s) (cap - s)] wx fun r w' => r = .returned v ∧ w' = wx
def CA (b off n cap : Nat) (bs : List UInt8) (s : Nat) (t : Bool) : Prop := ∀ wx, Lies b off n bs wx → Calls Tryf.prog 10 #[.slice (some ⟨b, off + s, none⟩) (n - s) (cap - s)] wx fun r w' => r = .returned (.bool t) ∧ w' = wx
/-- parseEdgeLine's answer without an error. -/
def PGood (b off n cap : Nat) (w : World) (nn : Int) (y : Int → Int → Prop) : Prop := Calls Tryf.prog 7 #[.slice (some ⟨b, off, none⟩) n cap] w fun r w' => ∃ x0 x1 : Int, r = .returned (.tuple #[.agg #[.int .i64 x0, .int .i64 x1], .int .i64 nn, .nilIface]) ∧ y x0 x1 ∧ Below w.heap.size w w'
def PBad (b off n cap : Nat) (w : World) : Prop := Calls Tryf.prog 7 #[.slice (some ⟨b, off, none⟩) n cap] w fun r w' => ∃ (x0 x1 nn : Int) (q : Addr), r = .returned (.tuple #[.agg #[.int .i64 x0, .int .i64 x1], .int .i64 nn, .iface 90 (.pointer (some q))]) ∧ Below w.heap.size w w'

set_option maxRecDepth 100000 in
set_option maxHeartbeats 1000000 in
theorem law_c1 (b off n cap : Nat) (bs : List UInt8) (w : World) (hmax : n ≤ 1048576) (_hcap : n ≤ cap) (hlt : b < w.heap.size) (h : Lies b off n bs w)
    (e0 : Nat) (hN0 : CN b off n cap bs 0 n e0) (hpar : PGood b off n cap w 0 fun _ _ => True) :
    Calls Tryf.prog 3 #[.slice (some ⟨b, off, none⟩) n cap] w fun e w' => e = .returned (.bool true) ∧ Below w.heap.size w w' := by
  have H := hide h
  clear h
  go_enter Tryf.func3, Tryf.ntmps3
  go_wp2_with fail
  refine Calls.mono hpar ?_
  rintro e1 w1 ⟨x0, x1, rfl, hy, hB⟩
  clear hy
  have HL : Hid (∀ o, Lies b off n bs (w1.alloc o)) := fun o => H.out.later hlt (hB.alloc hB.size o)
  go_wp2_with fail
  refine Calls.mono (hN0 _ (HL.out _)) ?_
  rintro e2 w2 ⟨rfl, rfl⟩
  go_wp2
  go_ret
  exact ⟨rfl, hB.alloc hB.size _⟩

set_option maxRecDepth 100000 in
set_option maxHeartbeats 1000000 in
theorem law_c2 (b off n cap : Nat) (bs : List UInt8) (w : World) (hmax : n ≤ 1048576) (_hcap : n ≤ cap) (hlt : b < w.heap.size) (h : Lies b off n bs w)
    (s0 e0 : Nat) (hs0 : s0 < n) (h35 : (byt bs s0 == 35) = true) (hN0 : CN b off n cap bs 0 s0 e0) (hpar : PGood b off n cap w 0 fun _ _ => True) :
    Calls Tryf.prog 3 #[.slice (some ⟨b, off, none⟩) n cap] w fun e w' => e = .returned (.bool true) ∧ Below w.heap.size w w' := by
  have H := hide h
  clear h
  have hsn : ((s0 : Int) == (n : Int)) = false := by simp; omega
  go_enter Tryf.func3, Tryf.ntmps3
  go_wp2_with fail
  refine Calls.mono hpar ?_
  rintro e1 w1 ⟨x0, x1, rfl, hy, hB⟩
  clear hy
  have HL : Hid (∀ o, Lies b off n bs (w1.alloc o)) := fun o => H.out.later hlt (hB.alloc hB.size o)
  have hcell : ∀ o, (w1.alloc o).cell? ⟨b, off + s0, none⟩ = some (.int .u8 (byt bs s0)) := fun o => HL.out o s0 (by omega)
  have hbl : b < w1.heap.size := by have := hB.size; omega
  have hcell1 := hcell (.cells #[] 0)
  have hcell0 : w1.cell? ⟨b, off + s0, none⟩ = some (.int .u8 (byt bs s0)) := by rw [← hcell1]; exact (World.cell?_alloc_lt _ _ _ hbl).symm
  clear hcell hcell1
  go_wp2_with fail
  refine Calls.mono (hN0 _ (HL.out _)) ?_
  rintro e2 w2 ⟨rfl, rfl⟩
  go_wp2
  go_ret
  exact ⟨rfl, hB.alloc hB.size _⟩

set_option maxRecDepth 100000 in
set_option maxHeartbeats 1000000 in
theorem law_c3 (b off n cap : Nat) (bs : List UInt8) (w : World) (hmax : n ≤ 1048576) (_hcap : n ≤ cap) (hlt : b < w.heap.size) (h : Lies b off n bs w)
    (s0 e0 : Nat) (hs0 : s0 < n) (hse : s0 < e0) (he0 : e0 ≤ n) (h35 : (byt bs s0 == 35) = false) (hN0 : CN b off n cap bs 0 s0 e0) (a e1 : Nat) (hI0 : CI b off n cap bs s0 e0 (.tuple #[.int .i64 (a : Int), .bool true])) (hN1 : CN b off n cap bs e0 n e1) (hpar : PGood b off n cap w 1 fun x0 _ => x0 = (a : Int)) :
    Calls Tryf.prog 3 #[.slice (some ⟨b, off, none⟩) n cap] w fun e w' => e = .returned (.bool true) ∧ Below w.heap.size w w' := by
  have H := hide h
  clear h
  have hsn : ((s0 : Int) == (n : Int)) = false := by simp; omega
  go_enter Tryf.func3, Tryf.ntmps3
  go_wp2_with fail
  refine Calls.mono hpar ?_
  rintro e1 w1 ⟨_, x1, rfl, rfl, hB⟩
  have HL : Hid (∀ o, Lies b off n bs (w1.alloc o)) := fun o => H.out.later hlt (hB.alloc hB.size o)
  have hcell : ∀ o, (w1.alloc o).cell? ⟨b, off + s0, none⟩ = some (.int .u8 (byt bs s0)) := fun o => HL.out o s0 (by omega)
  have hbl : b < w1.heap.size := by have := hB.size; omega
  have hcell1 := hcell (.cells #[] 0)
  have hcell0 : w1.cell? ⟨b, off + s0, none⟩ = some (.int .u8 (byt bs s0)) := by rw [← hcell1]; exact (World.cell?_alloc_lt _ _ _ hbl).symm
  clear hcell hcell1
  go_wp2_with fail
  refine Calls.mono (hN0 _ (HL.out _)) ?_
  rintro e2 w2 ⟨rfl, rfl⟩
  go_wp2_with fail
  refine Calls.mono (hI0 _ (HL.out _)) ?_
  rintro e3 w3 ⟨rfl, rfl⟩
  go_wp2_with fail
  refine Calls.mono (hN1 _ (HL.out _)) ?_
  rintro e4 w4 ⟨rfl, rfl⟩
  go_wp2
  go_ret
  exact ⟨rfl, hB.alloc hB.size _⟩

set_option maxRecDepth 100000 in
set_option maxHeartbeats 1000000 in
theorem law_c4 (b off n cap : Nat) (bs : List UInt8) (w : World) (hmax : n ≤ 1048576) (_hcap : n ≤ cap) (hlt : b < w.heap.size) (h : Lies b off n bs w)
    (s0 e0 : Nat) (hs0 : s0 < n) (hse : s0 < e0) (he0 : e0 ≤ n) (h35 : (byt bs s0 == 35) = false) (hN0 : CN b off n cap bs 0 s0 e0) (e1 : Nat) (hI0 : CI b off n cap bs s0 e0 (.tuple #[.int .i64 0, .bool false])) (hN1 : CN b off n cap bs e0 n e1) (hpar : PBad b off n cap w) :
    Calls Tryf.prog 3 #[.slice (some ⟨b, off, none⟩) n cap] w fun e w' => e = .returned (.bool true) ∧ Below w.heap.size w w' := by
  have H := hide h
  clear h
  have hsn : ((s0 : Int) == (n : Int)) = false := by simp; omega
  go_enter Tryf.func3, Tryf.ntmps3
  go_wp2_with fail
  refine Calls.mono hpar ?_
  rintro e1 w1 ⟨x0, x1, nn, q, rfl, hB⟩
  have HL : Hid (∀ o, Lies b off n bs (w1.alloc o)) := fun o => H.out.later hlt (hB.alloc hB.size o)
  have hcell : ∀ o, (w1.alloc o).cell? ⟨b, off + s0, none⟩ = some (.int .u8 (byt bs s0)) := fun o => HL.out o s0 (by omega)
  have hbl : b < w1.heap.size := by have := hB.size; omega
  have hcell1 := hcell (.cells #[] 0)
  have hcell0 : w1.cell? ⟨b, off + s0, none⟩ = some (.int .u8 (byt bs s0)) := by rw [← hcell1]; exact (World.cell?_alloc_lt _ _ _ hbl).symm
  clear hcell hcell1
  go_wp2_with fail
  refine Calls.mono (hN0 _ (HL.out _)) ?_
  rintro e2 w2 ⟨rfl, rfl⟩
  go_wp2_with fail
  refine Calls.mono (hI0 _ (HL.out _)) ?_
  rintro e3 w3 ⟨rfl, rfl⟩
  go_wp2_with fail
  refine Calls.mono (hN1 _ (HL.out _)) ?_
  rintro e4 w4 ⟨rfl, rfl⟩
  go_wp2
  go_ret
  exact ⟨rfl, hB.alloc hB.size _⟩

set_option maxRecDepth 100000 in
set_option maxHeartbeats 1000000 in
theorem law_c5 (b off n cap : Nat) (bs : List UInt8) (w : World) (hmax : n ≤ 1048576) (_hcap : n ≤ cap) (hlt : b < w.heap.size) (h : Lies b off n bs w)
    (s0 e0 : Nat) (hs0 : s0 < n) (hse : s0 < e0) (he0 : e0 ≤ n) (h35 : (byt bs s0 == 35) = false) (hN0 : CN b off n cap bs 0 s0 e0) (s1 e1 : Nat) (hs1 : s1 < n) (hse1 : s1 < e1) (he1 : e1 ≤ n) (hN1 : CN b off n cap bs e0 s1 e1) (a c e2 : Nat) (hI0 : CI b off n cap bs s0 e0 (.tuple #[.int .i64 (a : Int), .bool true])) (hI1 : CI b off n cap bs s1 e1 (.tuple #[.int .i64 (c : Int), .bool true])) (hN2 : CN b off n cap bs e1 n e2) (hpar : PGood b off n cap w 2 fun x0 x1 => x0 = (a : Int) ∧ x1 = (c : Int)) :
    Calls Tryf.prog 3 #[.slice (some ⟨b, off, none⟩) n cap] w fun e w' => e = .returned (.bool true) ∧ Below w.heap.size w w' := by
  have H := hide h
  clear h
  have hsn : ((s0 : Int) == (n : Int)) = false := by simp; omega
  have hs1n : ((s1 : Int) == (n : Int)) = false := by simp; omega
  go_enter Tryf.func3, Tryf.ntmps3
  go_wp2_with fail
  refine Calls.mono hpar ?_
  rintro e1 w1 ⟨_, _, rfl, ⟨rfl, rfl⟩, hB⟩
  have HL : Hid (∀ o, Lies b off n bs (w1.alloc o)) := fun o => H.out.later hlt (hB.alloc hB.size o)
  have hcell : ∀ o, (w1.alloc o).cell? ⟨b, off + s0, none⟩ = some (.int .u8 (byt bs s0)) := fun o => HL.out o s0 (by omega)
  have hbl : b < w1.heap.size := by have := hB.size; omega
  have hcell1 := hcell (.cells #[] 0)
  have hcell0 : w1.cell? ⟨b, off + s0, none⟩ = some (.int .u8 (byt bs s0)) := by rw [← hcell1]; exact (World.cell?_alloc_lt _ _ _ hbl).symm
  clear hcell hcell1
  go_wp2_with fail
  refine Calls.mono (hN0 _ (HL.out _)) ?_
  rintro e2 w2 ⟨rfl, rfl⟩
  go_wp2_with fail
  refine Calls.mono (hI0 _ (HL.out _)) ?_
  rintro e3 w3 ⟨rfl, rfl⟩
  go_wp2_with fail
  refine Calls.mono (hN1 _ (HL.out _)) ?_
  rintro e4 w4 ⟨rfl, rfl⟩
  go_wp2_with fail
  refine Calls.mono (hI1 _ (HL.out _)) ?_
  rintro e5 w5 ⟨rfl, rfl⟩
  go_wp2_with fail
  refine Calls.mono (hN2 _ (HL.out _)) ?_
  rintro e6 w6 ⟨rfl, rfl⟩
  go_wp2
  go_ret
  exact ⟨rfl, hB.alloc hB.size _⟩

set_option maxRecDepth 100000 in
set_option maxHeartbeats 1000000 in
theorem law_c6 (b off n cap : Nat) (bs : List UInt8) (w : World) (hmax : n ≤ 1048576) (_hcap : n ≤ cap) (hlt : b < w.heap.size) (h : Lies b off n bs w)
    (s0 e0 : Nat) (hs0 : s0 < n) (hse : s0 < e0) (he0 : e0 ≤ n) (h35 : (byt bs s0 == 35) = false) (hN0 : CN b off n cap bs 0 s0 e0) (s1 e1 : Nat) (hs1 : s1 < n) (hse1 : s1 < e1) (he1 : e1 ≤ n) (hN1 : CN b off n cap bs e0 s1 e1) (a c s2 e2 : Nat) (hI0 : CI b off n cap bs s0 e0 (.tuple #[.int .i64 (a : Int), .bool true])) (hI1 : CI b off n cap bs s1 e1 (.tuple #[.int .i64 (c : Int), .bool true])) (hs2 : s2 < n) (hN2 : CN b off n cap bs e1 s2 e2) (hA : CA b off n cap bs s2 true) (hpar : PGood b off n cap w 2 fun x0 x1 => x0 = (a : Int) ∧ x1 = (c : Int)) :
    Calls Tryf.prog 3 #[.slice (some ⟨b, off, none⟩) n cap] w fun e w' => e = .returned (.bool true) ∧ Below w.heap.size w w' := by
  have H := hide h
  clear h
  have hsn : ((s0 : Int) == (n : Int)) = false := by simp; omega
  have hs1n : ((s1 : Int) == (n : Int)) = false := by simp; omega
  have hs2n : ((s2 : Int) == (n : Int)) = false := by simp; omega
  go_enter Tryf.func3, Tryf.ntmps3
  go_wp2_with fail
  refine Calls.mono hpar ?_
  rintro e1 w1 ⟨_, _, rfl, ⟨rfl, rfl⟩, hB⟩
  have HL : Hid (∀ o, Lies b off n bs (w1.alloc o)) := fun o => H.out.later hlt (hB.alloc hB.size o)
  have hcell : ∀ o, (w1.alloc o).cell? ⟨b, off + s0, none⟩ = some (.int .u8 (byt bs s0)) := fun o => HL.out o s0 (by omega)
  have hbl : b < w1.heap.size := by have := hB.size; omega
  have hcell1 := hcell (.cells #[] 0)
  have hcell0 : w1.cell? ⟨b, off + s0, none⟩ = some (.int .u8 (byt bs s0)) := by rw [← hcell1]; exact (World.cell?_alloc_lt _ _ _ hbl).symm
  clear hcell hcell1
  go_wp2_with fail
  refine Calls.mono (hN0 _ (HL.out _)) ?_
  rintro e2 w2 ⟨rfl, rfl⟩
  go_wp2_with fail
  refine Calls.mono (hI0 _ (HL.out _)) ?_
  rintro e3 w3 ⟨rfl, rfl⟩
  go_wp2_with fail
  refine Calls.mono (hN1 _ (HL.out _)) ?_
  rintro e4 w4 ⟨rfl, rfl⟩
  go_wp2_with fail
  refine Calls.mono (hI1 _ (HL.out _)) ?_
  rintro e5 w5 ⟨rfl, rfl⟩
  go_wp2_with fail
  refine Calls.mono (hN2 _ (HL.out _)) ?_
  rintro e6 w6 ⟨rfl, rfl⟩
  go_wp2_with fail
  refine Calls.mono (hA _ (HL.out _)) ?_
  rintro e7 w7 ⟨rfl, rfl⟩
  go_wp2
  go_ret
  exact ⟨rfl, hB.alloc hB.size _⟩

set_option maxRecDepth 100000 in
set_option maxHeartbeats 1000000 in
theorem law_c7 (b off n cap : Nat) (bs : List UInt8) (w : World) (hmax : n ≤ 1048576) (_hcap : n ≤ cap) (hlt : b < w.heap.size) (h : Lies b off n bs w)
    (s0 e0 : Nat) (hs0 : s0 < n) (hse : s0 < e0) (he0 : e0 ≤ n) (h35 : (byt bs s0 == 35) = false) (hN0 : CN b off n cap bs 0 s0 e0) (s1 e1 : Nat) (hs1 : s1 < n) (hse1 : s1 < e1) (he1 : e1 ≤ n) (hN1 : CN b off n cap bs e0 s1 e1) (a c s2 e2 : Nat) (hI0 : CI b off n cap bs s0 e0 (.tuple #[.int .i64 (a : Int), .bool true])) (hI1 : CI b off n cap bs s1 e1 (.tuple #[.int .i64 (c : Int), .bool true])) (hs2 : s2 < n) (hN2 : CN b off n cap bs e1 s2 e2) (hA : CA b off n cap bs s2 false) (hpar : PBad b off n cap w) :
    Calls Tryf.prog 3 #[.slice (some ⟨b, off, none⟩) n cap] w fun e w' => e = .returned (.bool true) ∧ Below w.heap.size w w' := by
  have H := hide h
  clear h
  have hsn : ((s0 : Int) == (n : Int)) = false := by simp; omega
  have hs1n : ((s1 : Int) == (n : Int)) = false := by simp; omega
  have hs2n : ((s2 : Int) == (n : Int)) = false := by simp; omega
  go_enter Tryf.func3, Tryf.ntmps3
  go_wp2_with fail
  refine Calls.mono hpar ?_
  rintro e1 w1 ⟨x0, x1, nn, q, rfl, hB⟩
  have HL : Hid (∀ o, Lies b off n bs (w1.alloc o)) := fun o => H.out.later hlt (hB.alloc hB.size o)
  have hcell : ∀ o, (w1.alloc o).cell? ⟨b, off + s0, none⟩ = some (.int .u8 (byt bs s0)) := fun o => HL.out o s0 (by omega)
  have hbl : b < w1.heap.size := by have := hB.size; omega
  have hcell1 := hcell (.cells #[] 0)
  have hcell0 : w1.cell? ⟨b, off + s0, none⟩ = some (.int .u8 (byt bs s0)) := by rw [← hcell1]; exact (World.cell?_alloc_lt _ _ _ hbl).symm
  clear hcell hcell1
  go_wp2_with fail
  refine Calls.mono (hN0 _ (HL.out _)) ?_
  rintro e2 w2 ⟨rfl, rfl⟩
  go_wp2_with fail
  refine Calls.mono (hI0 _ (HL.out _)) ?_
  rintro e3 w3 ⟨rfl, rfl⟩
  go_wp2_with fail
  refine Calls.mono (hN1 _ (HL.out _)) ?_
  rintro e4 w4 ⟨rfl, rfl⟩
  go_wp2_with fail
  refine Calls.mono (hI1 _ (HL.out _)) ?_
  rintro e5 w5 ⟨rfl, rfl⟩
  go_wp2_with fail
  refine Calls.mono (hN2 _ (HL.out _)) ?_
  rintro e6 w6 ⟨rfl, rfl⟩
  go_wp2_with fail
  refine Calls.mono (hA _ (HL.out _)) ?_
  rintro e7 w7 ⟨rfl, rfl⟩
  go_wp2
  go_ret
  exact ⟨rfl, hB.alloc hB.size _⟩

set_option maxRecDepth 100000 in
set_option maxHeartbeats 1000000 in
theorem law_c8 (b off n cap : Nat) (bs : List UInt8) (w : World) (hmax : n ≤ 1048576) (_hcap : n ≤ cap) (hlt : b < w.heap.size) (h : Lies b off n bs w)
    (s0 e0 : Nat) (hs0 : s0 < n) (hse : s0 < e0) (he0 : e0 ≤ n) (h35 : (byt bs s0 == 35) = false) (hN0 : CN b off n cap bs 0 s0 e0) (s1 e1 : Nat) (hs1 : s1 < n) (hse1 : s1 < e1) (he1 : e1 ≤ n) (hN1 : CN b off n cap bs e0 s1 e1) (c s2 e2 : Nat) (hI0 : CI b off n cap bs s0 e0 (.tuple #[.int .i64 0, .bool false])) (hI1 : CI b off n cap bs s1 e1 (.tuple #[.int .i64 (c : Int), .bool true])) (hN2 : CN b off n cap bs e1 s2 e2) (hpar : PBad b off n cap w) :
    Calls Tryf.prog 3 #[.slice (some ⟨b, off, none⟩) n cap] w fun e w' => e = .returned (.bool true) ∧ Below w.heap.size w w' := by
  have H := hide h
  clear h
  have hsn : ((s0 : Int) == (n : Int)) = false := by simp; omega
  have hs1n : ((s1 : Int) == (n : Int)) = false := by simp; omega
  go_enter Tryf.func3, Tryf.ntmps3
  go_wp2_with fail
  refine Calls.mono hpar ?_
  rintro e1 w1 ⟨x0, x1, nn, q, rfl, hB⟩
  have HL : Hid (∀ o, Lies b off n bs (w1.alloc o)) := fun o => H.out.later hlt (hB.alloc hB.size o)
  have hcell : ∀ o, (w1.alloc o).cell? ⟨b, off + s0, none⟩ = some (.int .u8 (byt bs s0)) := fun o => HL.out o s0 (by omega)
  have hbl : b < w1.heap.size := by have := hB.size; omega
  have hcell1 := hcell (.cells #[] 0)
  have hcell0 : w1.cell? ⟨b, off + s0, none⟩ = some (.int .u8 (byt bs s0)) := by rw [← hcell1]; exact (World.cell?_alloc_lt _ _ _ hbl).symm
  clear hcell hcell1
  go_wp2_with fail
  refine Calls.mono (hN0 _ (HL.out _)) ?_
  rintro e2 w2 ⟨rfl, rfl⟩
  go_wp2_with fail
  refine Calls.mono (hI0 _ (HL.out _)) ?_
  rintro e3 w3 ⟨rfl, rfl⟩
  go_wp2_with fail
  refine Calls.mono (hN1 _ (HL.out _)) ?_
  rintro e4 w4 ⟨rfl, rfl⟩
  go_wp2_with fail
  refine Calls.mono (hI1 _ (HL.out _)) ?_
  rintro e5 w5 ⟨rfl, rfl⟩
  go_wp2_with fail
  refine Calls.mono (hN2 _ (HL.out _)) ?_
  rintro e6 w6 ⟨rfl, rfl⟩
  go_wp2
  go_ret
  exact ⟨rfl, hB.alloc hB.size _⟩

set_option maxRecDepth 100000 in
set_option maxHeartbeats 1000000 in
theorem law_c9 (b off n cap : Nat) (bs : List UInt8) (w : World) (hmax : n ≤ 1048576) (_hcap : n ≤ cap) (hlt : b < w.heap.size) (h : Lies b off n bs w)
    (s0 e0 : Nat) (hs0 : s0 < n) (hse : s0 < e0) (he0 : e0 ≤ n) (h35 : (byt bs s0 == 35) = false) (hN0 : CN b off n cap bs 0 s0 e0) (s1 e1 : Nat) (hs1 : s1 < n) (hse1 : s1 < e1) (he1 : e1 ≤ n) (hN1 : CN b off n cap bs e0 s1 e1) (s2 e2 : Nat) (hI0 : CI b off n cap bs s0 e0 (.tuple #[.int .i64 0, .bool false])) (hI1 : CI b off n cap bs s1 e1 (.tuple #[.int .i64 0, .bool false])) (hN2 : CN b off n cap bs e1 s2 e2) (hpar : PBad b off n cap w) :
    Calls Tryf.prog 3 #[.slice (some ⟨b, off, none⟩) n cap] w fun e w' => e = .returned (.bool true) ∧ Below w.heap.size w w' := by
  have H := hide h
  clear h
  have hsn : ((s0 : Int) == (n : Int)) = false := by simp; omega
  have hs1n : ((s1 : Int) == (n : Int)) = false := by simp; omega
  go_enter Tryf.func3, Tryf.ntmps3
  go_wp2_with fail
  refine Calls.mono hpar ?_
  rintro e1 w1 ⟨x0, x1, nn, q, rfl, hB⟩
  have HL : Hid (∀ o, Lies b off n bs (w1.alloc o)) := fun o => H.out.later hlt (hB.alloc hB.size o)
  have hcell : ∀ o, (w1.alloc o).cell? ⟨b, off + s0, none⟩ = some (.int .u8 (byt bs s0)) := fun o => HL.out o s0 (by omega)
  have hbl : b < w1.heap.size := by have := hB.size; omega
  have hcell1 := hcell (.cells #[] 0)
  have hcell0 : w1.cell? ⟨b, off + s0, none⟩ = some (.int .u8 (byt bs s0)) := by rw [← hcell1]; exact (World.cell?_alloc_lt _ _ _ hbl).symm
  clear hcell hcell1
  go_wp2_with fail
  refine Calls.mono (hN0 _ (HL.out _)) ?_
  rintro e2 w2 ⟨rfl, rfl⟩
  go_wp2_with fail
  refine Calls.mono (hI0 _ (HL.out _)) ?_
  rintro e3 w3 ⟨rfl, rfl⟩
  go_wp2_with fail
  refine Calls.mono (hN1 _ (HL.out _)) ?_
  rintro e4 w4 ⟨rfl, rfl⟩
  go_wp2_with fail
  refine Calls.mono (hI1 _ (HL.out _)) ?_
  rintro e5 w5 ⟨rfl, rfl⟩
  go_wp2_with fail
  refine Calls.mono (hN2 _ (HL.out _)) ?_
  rintro e6 w6 ⟨rfl, rfl⟩
  go_wp2
  go_ret
  exact ⟨rfl, hB.alloc hB.size _⟩

set_option maxRecDepth 100000 in
set_option maxHeartbeats 1000000 in
theorem law_c10 (b off n cap : Nat) (bs : List UInt8) (w : World) (hmax : n ≤ 1048576) (_hcap : n ≤ cap) (hlt : b < w.heap.size) (h : Lies b off n bs w)
    (s0 e0 : Nat) (hs0 : s0 < n) (hse : s0 < e0) (he0 : e0 ≤ n) (h35 : (byt bs s0 == 35) = false) (hN0 : CN b off n cap bs 0 s0 e0) (s1 e1 : Nat) (hs1 : s1 < n) (hse1 : s1 < e1) (he1 : e1 ≤ n) (hN1 : CN b off n cap bs e0 s1 e1) (a s2 e2 : Nat) (hI0 : CI b off n cap bs s0 e0 (.tuple #[.int .i64 (a : Int), .bool true])) (hI1 : CI b off n cap bs s1 e1 (.tuple #[.int .i64 0, .bool false])) (hN2 : CN b off n cap bs e1 s2 e2) (hpar : PBad b off n cap w) :
    Calls Tryf.prog 3 #[.slice (some ⟨b, off, none⟩) n cap] w fun e w' => e = .returned (.bool true) ∧ Below w.heap.size w w' := by
  have H := hide h
  clear h
  have hsn : ((s0 : Int) == (n : Int)) = false := by simp; omega
  have hs1n : ((s1 : Int) == (n : Int)) = false := by simp; omega
  go_enter Tryf.func3, Tryf.ntmps3
  go_wp2_with fail
  refine Calls.mono hpar ?_
  rintro e1 w1 ⟨x0, x1, nn, q, rfl, hB⟩
  have HL : Hid (∀ o, Lies b off n bs (w1.alloc o)) := fun o => H.out.later hlt (hB.alloc hB.size o)
  have hcell : ∀ o, (w1.alloc o).cell? ⟨b, off + s0, none⟩ = some (.int .u8 (byt bs s0)) := fun o => HL.out o s0 (by omega)
  have hbl : b < w1.heap.size := by have := hB.size; omega
  have hcell1 := hcell (.cells #[] 0)
  have hcell0 : w1.cell? ⟨b, off + s0, none⟩ = some (.int .u8 (byt bs s0)) := by rw [← hcell1]; exact (World.cell?_alloc_lt _ _ _ hbl).symm
  clear hcell hcell1
  go_wp2_with fail
  refine Calls.mono (hN0 _ (HL.out _)) ?_
  rintro e2 w2 ⟨rfl, rfl⟩
  go_wp2_with fail
  refine Calls.mono (hI0 _ (HL.out _)) ?_
  rintro e3 w3 ⟨rfl, rfl⟩
  go_wp2_with fail
  refine Calls.mono (hN1 _ (HL.out _)) ?_
  rintro e4 w4 ⟨rfl, rfl⟩
  go_wp2_with fail
  refine Calls.mono (hI1 _ (HL.out _)) ?_
  rintro e5 w5 ⟨rfl, rfl⟩
  go_wp2_with fail
  refine Calls.mono (hN2 _ (HL.out _)) ?_
  rintro e6 w6 ⟨rfl, rfl⟩
  go_wp2
  go_ret
  exact ⟨rfl, hB.alloc hB.size _⟩

end Go.Proofs.Qxb6003863aFmt
