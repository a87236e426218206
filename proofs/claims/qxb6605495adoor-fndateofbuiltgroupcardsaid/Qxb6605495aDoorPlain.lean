import Derived.Lib.Split
import Derived.Lib.CountLaws
import Derived.Lib.SplitLaws
import Derived.Lib.IndexMore
import Derived.Lib.SlTrimSet
import Derived.Lib.Join
import Derived.Lib.IndexBytes
import Derived.Laws.Strings
namespace Go.Proofs.Qxb6605495aDoor

/-- A string by its bytes. -/
def mk (l : List UInt8) : ByteArray := ⟨l.toArray⟩
def sl : ByteArray := ⟨#[47]⟩

theorem mk_data (l : List UInt8) : (mk l).data.toList = l := by unfold mk; rfl
theorem mk_size (l : List UInt8) : (mk l).size = l.length := by unfold mk; show l.toArray.size = _; simp
theorem eq_mk (s : ByteArray) : s = mk s.data.toList := by unfold mk; rfl
theorem size_data (s : ByteArray) : s.data.toList.length = s.size := by show _ = s.data.size; simp
theorem ext_data (s t : ByteArray) (h : s.data.toList = t.data.toList) : s = t := by
  rw [eq_mk s, eq_mk t, h]

theorem index_hit (a b : List UInt8) (h : (47 : UInt8) ∉ a) : Lib.index (a ++ 47 :: b) [47] = (a.length : Int) := by
  induction a with
  | nil => simp [Lib.index, List.isPrefixOf]
  | cons c a ih =>
    have hc : c ≠ 47 := fun e => h (by rw [e]; exact List.mem_cons_self)
    have ih' := ih (fun e => h (List.mem_cons_of_mem _ e))
    have hp : ([47] : List UInt8).isPrefixOf (c :: (a ++ 47 :: b)) = false := by
      simp [List.isPrefixOf]
      exact fun e => hc e.symm
    rw [List.cons_append, Lib.index, hp, ih']
    have h1 : (((a.length : Nat) : Int) == -1) = false := by rw [beq_eq_false_iff_ne]; omega
    rw [h1]
    simp

theorem index_miss (a : List UInt8) (h : (47 : UInt8) ∉ a) : Lib.index a [47] = -1 := by
  induction a with
  | nil => rfl
  | cons c a ih =>
    have hc : c ≠ 47 := fun e => h (by rw [e]; exact List.mem_cons_self)
    have ih' := ih (fun e => h (List.mem_cons_of_mem _ e))
    have hp : ([47] : List UInt8).isPrefixOf (c :: a) = false := by
      simp [List.isPrefixOf]
      exact fun e => hc e.symm
    rw [Lib.index, hp, ih']
    rfl

theorem indexB_hit (a b : List UInt8) (h : (47 : UInt8) ∉ a) : Lib.indexB (mk (a ++ 47 :: b)) sl = (a.length : Int) := index_hit a b h
theorem indexB_miss (a : List UInt8) (h : (47 : UInt8) ∉ a) : Lib.indexB (mk a) sl = -1 := index_miss a h

theorem extract_head (a b : List UInt8) : (mk (a ++ 47 :: b)).extract 0 (a.length + 0) = mk a := by
  apply ext_data
  rw [Lib.extract_data, mk_data, mk_data]
  simp
theorem extract_tail (a b : List UInt8) : (mk (a ++ 47 :: b)).extract (a.length + sl.size) (mk (a ++ 47 :: b)).size = mk b := by
  apply ext_data
  rw [Lib.extract_data, mk_data, mk_data, mk_size]
  have h1 : sl.size = 1 := rfl
  rw [h1, List.drop_append, List.drop_eq_nil_of_le (by omega)]
  simp
  rw [show a.length + (b.length + 1) - (a.length + 1) = b.length from by omega, List.take_length]

theorem count_hit (a b : List UInt8) (h : (47 : UInt8) ∉ a) : Lib.countB (mk (a ++ 47 :: b)) sl = 1 + Lib.countB (mk b) sl := by
  rw [Lib.countB_hit _ sl a.length (by decide) (indexB_hit a b h), extract_tail]
theorem count_miss (a : List UInt8) (h : (47 : UInt8) ∉ a) : Lib.countB (mk a) sl = 0 := Lib.countB_miss _ _ (indexB_miss a h)
theorem split_hit (a b : List UInt8) (h : (47 : UInt8) ∉ a) (k : Nat) : Lib.splitB sl 0 (k + 1) (mk (a ++ 47 :: b)) = mk a :: Lib.splitB sl 0 k (mk b) := by
  rw [Lib.splitB_hit sl 0 k _ a.length (indexB_hit a b h), extract_tail, extract_head]

/-- A group of four levels. -/
def four (a y m d : List UInt8) : List UInt8 := a ++ 47 :: (y ++ 47 :: (m ++ 47 :: d))
def three (y m d : List UInt8) : List UInt8 := y ++ 47 :: (m ++ 47 :: d)
def five (a y m d b : List UInt8) : List UInt8 := a ++ 47 :: (y ++ 47 :: (m ++ 47 :: (d ++ 47 :: b)))

theorem four_count (a y m d : List UInt8) (ha : (47 : UInt8) ∉ a) (hy : (47 : UInt8) ∉ y) (hm : (47 : UInt8) ∉ m) (hd : (47 : UInt8) ∉ d) : Lib.countB (mk (four a y m d)) sl = 3 := by
  unfold four; rw [count_hit _ _ ha, count_hit _ _ hy, count_hit _ _ hm, count_miss _ hd]
theorem three_count (y m d : List UInt8) (hy : (47 : UInt8) ∉ y) (hm : (47 : UInt8) ∉ m) (hd : (47 : UInt8) ∉ d) : Lib.countB (mk (three y m d)) sl = 2 := by
  unfold three; rw [count_hit _ _ hy, count_hit _ _ hm, count_miss _ hd]
theorem five_count (a y m d b : List UInt8) (ha : (47 : UInt8) ∉ a) (hy : (47 : UInt8) ∉ y) (hm : (47 : UInt8) ∉ m) (hd : (47 : UInt8) ∉ d) (hb : (47 : UInt8) ∉ b) : Lib.countB (mk (five a y m d b)) sl = 4 := by
  unfold five; rw [count_hit _ _ ha, count_hit _ _ hy, count_hit _ _ hm, count_hit _ _ hd, count_miss _ hb]
theorem four_split (a y m d : List UInt8) (ha : (47 : UInt8) ∉ a) (hy : (47 : UInt8) ∉ y) (hm : (47 : UInt8) ∉ m) : Lib.splitB sl 0 3 (mk (four a y m d)) = [mk a, mk y, mk m, mk d] := by
  unfold four; rw [split_hit _ _ ha, split_hit _ _ hy, split_hit _ _ hm, Lib.splitB_zero]

/-- The digits alone. -/
def Dig (l : List UInt8) : Prop := ∀ c ∈ l, 48 ≤ c.toNat ∧ c.toNat ≤ 57
def tens : List UInt8 := [48, 49, 50, 51, 52, 53, 54, 55, 56, 57]

theorem Dig.no_slash {l : List UInt8} (h : Dig l) : (47 : UInt8) ∉ l := fun e => by
  have := h 47 e
  simp at this
theorem dig_tens (c : UInt8) (h : 48 ≤ c.toNat ∧ c.toNat ≤ 57) : tens.contains c = true := by
  have hc : c = UInt8.ofNat c.toNat := by simp
  obtain ⟨h1, h2⟩ := h
  have : c.toNat = 48 ∨ c.toNat = 49 ∨ c.toNat = 50 ∨ c.toNat = 51 ∨ c.toNat = 52 ∨ c.toNat = 53 ∨ c.toNat = 54 ∨ c.toNat = 55 ∨ c.toNat = 56 ∨ c.toNat = 57 := by omega
  rw [hc]
  rcases this with h | h | h | h | h | h | h | h | h | h <;> rw [h] <;> decide
theorem dropWhile_all (p : UInt8 → Bool) : ∀ l : List UInt8, (∀ c ∈ l, p c = true) → l.dropWhile p = []
  | [], _ => rfl
  | a :: l, h => by
    rw [List.dropWhile_cons, h a List.mem_cons_self]
    exact dropWhile_all p l fun c hc => h c (List.mem_cons_of_mem _ hc)
theorem Dig.trim {l : List UInt8} (h : Dig l) : Lib.trimS l tens = [] := by
  unfold Lib.trimS Lib.trimRightS
  rw [dropWhile_all _ l.reverse (fun c hc => dig_tens c (h c (List.mem_reverse.1 hc)))]
  rfl

theorem join3 (y m d : List UInt8) : Lib.join [y, m, d] [47] = three y m d := by
  simp [Lib.join, List.intercalate, three]
theorem cut_first (a b : List UInt8) (h : (47 : UInt8) ∉ a) : (Lib.cut (a ++ 47 :: b) [47]).1 = a := by
  unfold Lib.cut
  rw [index_hit a b h, if_pos (by omega)]
  simp

end Go.Proofs.Qxb6605495aDoor
