import Derived.Test.Qxb6613049aFmtZ2
import Derived.Lib.Case
import Derived.Laws.OwnMore
namespace Go.Proofs.Qxb6613049aFmt
open Go.RowKit

theorem ret_str {a b : ByteArray} (h : a = b) : Ending.returned (.string a) = .returned (.string b) := by rw [h]
theorem lowerB_up (l : List UInt8) (k : Nat) (h1 : 65 ≤ byt l k) (h2 : byt l k ≤ 90) : ((Lib.lowerB (l.getD k 0)).toNat : Int) = byt l k + 32 := by
  unfold byt at h1 h2 ⊢
  generalize l.getD k 0 = c at *
  have a1 : (65 : UInt8) ≤ c := by rw [UInt8.le_iff_toNat_le]; show 65 ≤ c.toNat; omega
  have a2 : c ≤ (90 : UInt8) := by rw [UInt8.le_iff_toNat_le]; show c.toNat ≤ 90; omega
  unfold Lib.lowerB Lib.isUpperB
  rw [if_pos (by simp [a1, a2])]
  rw [UInt8.toNat_add]
  show ((c.toNat + 32) % 256 : Nat) = (c.toNat : Int) + 32
  omega
theorem lowerB_same (l : List UInt8) (k : Nat) (h : ¬ (65 ≤ byt l k ∧ byt l k ≤ 90)) : ((Lib.lowerB (l.getD k 0)).toNat : Int) = byt l k := by
  unfold byt at h ⊢
  generalize l.getD k 0 = c at *
  unfold Lib.lowerB Lib.isUpperB
  rw [if_neg]
  intro e
  simp at e
  obtain ⟨e1, e2⟩ := e
  rw [UInt8.le_iff_toNat_le] at e1 e2
  have e1' : 65 ≤ c.toNat := e1
  have e2' : c.toNat ≤ 90 := e2
  omega

/-- Where zzLower's loop stands. -/
def lwRel (l : List UInt8) (w : World) (g : Nat) (t : Value) (wr : World) : Prop :=
  ∃ (k : Nat) (xs : List UInt8), k + g = l.length ∧ t = .int .i64 k ∧ xs.length = l.length ∧ wr.ownsRow w.heap.size 5 1 (.slice (some ⟨w.heap.size, 0, none⟩) l.length l.length) l.length (Lib.byteCells xs) ∧ Below w.heap.size w wr ∧ xs.take k = Lib.toLowerA (l.take k)

theorem bytes_set (xs : List UInt8) (k : Nat) (c : UInt8) (x : Int) (hx : (c.toNat : Int) = x) : (Lib.byteCells xs).set k (Value.int .u8 x) = Lib.byteCells (xs.set k c) := by
  unfold Lib.byteCells
  rw [List.map_set, hx]
theorem lw_step (l : List UInt8) (w wr : World) (k : Nat) (xs : List UInt8) (x y : Int) (hk : k < l.length) (hxl : xs.length = l.length)
    (ho : wr.ownsRow w.heap.size 5 1 (.slice (some ⟨w.heap.size, 0, none⟩) l.length l.length) l.length (Lib.byteCells xs)) (hb : Below w.heap.size w wr) (ht : xs.take k = Lib.toLowerA (l.take k)) (hx : ((Lib.lowerB (l.getD k 0)).toNat : Int) = x) (hy : y = (k : Int) + 1) :
    lwRel l w (l.length - (k + 1)) (.int .i64 y) (wr.setCell ⟨w.heap.size, k, none⟩ (.int .u8 x)) := by
  subst hy
  refine ⟨k + 1, xs.set k (Lib.lowerB (l.getD k 0)), by omega, by rfl, by rw [List.length_set]; exact hxl, ?_, hb.setCell (p := ⟨w.heap.size, k, none⟩) (Nat.le_refl _) _, ?_⟩
  · rw [← bytes_set _ _ _ _ hx]
    exact (ho.stored k _).1
  · have h1 : l[k]? = some (l.getD k 0) := by rw [List.getD_eq_getElem?_getD, List.getElem?_eq_getElem hk]; rfl
    rw [List.take_add_one, List.take_set_of_le (Nat.le_refl _), ht, List.take_add_one, h1, List.getElem?_set_self (by omega)]
    unfold Lib.toLowerA
    rw [List.map_append]
    rfl

set_option maxHeartbeats 4000000 in
set_option maxRecDepth 100000 in
theorem zzLower_any (l : List UInt8) (w : World) (hn : l.length ≤ 1048576) :
    Calls Tryf.prog 19 #[.string (mk l)] w fun e w' => e = .returned (.string (mk (Lib.toLowerA l))) ∧ Below w.heap.size w w' := by
  have hz := mk_size l
  have hi5 : Tryf.prog.info? 5 = some Tryf.t5 := by kernel_rfl
  obtain ⟨w1, hmk, hown, hgr⟩ := run_make_full (P := Tryf.prog) w w.heap.size 57 5 Tryf.t5 (.int .u8 0) 1 Tryf.underlying57 hi5 rfl rfl .i64 .i64 l.length (by show 1 * l.length ≤ _; omega) (by unfold maxLen; omega) (Nat.le_refl _)
  have HO : Hid (w1.ownsRow w.heap.size 5 1 (.slice (some ⟨w.heap.size, 0, none⟩) l.length l.length) l.length (Lib.byteCells (List.replicate l.length 0))) := by
    have e : (madeCells (Value.int .u8 0).cells (l.length * 1)).toList = Lib.byteCells (List.replicate l.length 0) := by
      show (madeCells #[Value.int .u8 0] (l.length * 1)).toList = _
      rw [toList_madeCells_one, Nat.mul_one]
      unfold Lib.byteCells
      rw [List.map_replicate]
      rfl
    rw [e] at hown
    exact hown
  have HB := hide ((Below.refl w.heap.size w).grown hgr (Nat.le_refl _) (fun k hk => by cases hk))
  clear hown hgr
  go_enter Tryf.func19, Tryf.ntmps19
  go_wp2
  go_loopg [4] l.length (fun g t wr => lwRel l w g t wr)
  case atStart => exact ⟨0, List.replicate l.length 0, by omega, rfl, by simp, HO.out, HB.out, by simp [Lib.toLowerA]⟩
  case round =>
    obtain ⟨k, xs, hkg, rfl, hxl, hown, hbel, htk⟩ := hrel
    have KO := hide hown
    have KB := hide hbel
    have KT := hide htk
    have KL := hide hxl
    have Kg := hide hkg
    have hkn : k ≤ l.length := by omega
    clear hown hbel htk hxl hkg hmk HO HB
    by_cases hk : k < l.length
    · have hlt : (k : Int) < (l.length : Int) := by omega
      have hgk := mk_get l k (by rw [hz]; exact hk)
      have hcell : wr.cell? ⟨w.heap.size, k, none⟩ = some (.int .u8 (xs.getD k 0).toNat) := by
        have h1 : k < xs.length := by rw [KL.out]; exact hk
        rw [KO.out.cellAt k (by omega)]
        unfold Lib.byteCells
        rw [List.getElem?_map, List.getD_eq_getElem?_getD, List.getElem?_eq_getElem h1]
        rfl
      have hfr := KO.out.frozenAt k
      by_cases c : 65 ≤ byt l k ∧ byt l k ≤ 90
      · have c1 := c.1
        have c2 := c.2
        have hv := hide (lowerB_up l k c1 c2)
        clear c
        go_wp2
        go_roundg (l.length - (k + 1))
        case measure => have := Kg.out; omega
        case rel => exact lw_step l w wr k xs _ _ hk KL.out KO.out KB.out KT.out hv.out (by go_num)
      · have hv := hide (lowerB_same l k c)
        by_cases c1 : 65 ≤ byt l k
        · have c2 : decide (byt l k ≤ 90) = false := by simp; omega
          clear c
          go_wp2
          go_roundg (l.length - (k + 1))
          case measure => have := Kg.out; omega
          case rel => exact lw_step l w wr k xs _ _ hk KL.out KO.out KB.out KT.out hv.out (by go_num)
        · have c2 : decide (65 ≤ byt l k) = false := by simp; omega
          clear c c1
          go_wp2
          go_roundg (l.length - (k + 1))
          case measure => have := Kg.out; omega
          case rel => exact lw_step l w wr k xs _ _ hk KL.out KO.out KB.out KT.out hv.out (by go_num)
    · have hlt : decide (k < l.length) = false := by simp; omega
      have hxs : Hid (xs = Lib.toLowerA l) := by
        have h1 := KT.out
        rw [List.take_of_length_le (by rw [KL.out]; omega), List.take_of_length_le (by omega)] at h1
        exact h1
      have hstr := row_string (l := xs) (by rw [KL.out]; exact KO.out)
      go_wp2
      go_ret
      exact ⟨ret_str (by rw [← hxs.out]), KB.out⟩

end Go.Proofs.Qxb6613049aFmt
