import Derived.Test.Qxb6600504aDoorW0
import Derived.Test.Qxb6600504aDoorShelf
namespace Go.Proofs.Qxb6600504aDoor
open Go.RowKit Go.PlainAid Go.Shelf

/-- A script that a card can play: not empty, of the four letters alone. -/
def Good (r : ByteArray) : Prop := 0 < r.size ∧ ∀ j, j < r.size → letterI (bt r j) = true

theorem letter_contains (c : UInt8) : ([65, 68, 83, 76] : List UInt8).contains c = letterI (c.toNat : Int) := by
  unfold letterI
  rw [Bool.eq_iff_iff]
  simp only [List.contains_cons, List.contains_nil, Bool.or_false, Bool.or_eq_true, beq_iff_eq]
  constructor
  · rintro (rfl | rfl | rfl | rfl) <;> simp
  · rintro (((h | h) | h) | h)
    · left; apply UInt8.toNat_inj.1; simp; omega
    · right; left; apply UInt8.toNat_inj.1; simp; omega
    · right; right; left; apply UInt8.toNat_inj.1; simp; omega
    · right; right; right; apply UInt8.toNat_inj.1; simp; omega

theorem dropWhile_nil (p : UInt8 → Bool) : ∀ l : List UInt8, l.dropWhile p = [] → ∀ c ∈ l, p c = true
  | [], _, c, hc => by cases hc
  | a :: l, h, c, hc => by
    rw [List.dropWhile_cons] at h
    cases ha : p a with
    | false => rw [ha] at h; simp at h
    | true =>
      rw [ha] at h
      rcases List.mem_cons.1 hc with rfl | hc
      · exact ha
      · exact dropWhile_nil p l h c hc

theorem takeWhile_all (p : UInt8 → Bool) : ∀ (l : List UInt8) (c : UInt8), c ∈ l.takeWhile p → p c = true
  | [], c, hc => by cases hc
  | a :: l, c, hc => by
    rw [List.takeWhile_cons] at hc
    cases ha : p a with
    | false => rw [ha] at hc; cases hc
    | true =>
      rw [ha] at hc
      rcases List.mem_cons.1 hc with rfl | hc
      · exact ha
      · exact takeWhile_all p l c hc

theorem all_of_trim (l cs : List UInt8) (h : Lib.trimS l cs = []) : ∀ c ∈ l, cs.contains c = true := by
  unfold Lib.trimS Lib.trimLeftS at h
  replace h := dropWhile_nil _ _ h
  have h2 := List.takeWhile_append_dropWhile (p := fun x => cs.contains x) (l := l.reverse)
  intro c hc
  rw [← List.mem_reverse, ← h2, List.mem_append] at hc
  rcases hc with hc | hc
  · exact takeWhile_all _ _ c hc
  · refine h c ?_
    unfold Lib.trimRightS
    rw [List.mem_reverse]
    exact hc

theorem bt_mk (l : List UInt8) (j : Nat) (h : j < l.length) : bt ⟨l.toArray⟩ j = ((l[j]'h).toNat : Int) := by
  unfold bt
  have h' : j < (⟨l.toArray⟩ : ByteArray).size := by show j < l.toArray.size; simpa using h
  rw [dif_pos h']
  rfl

theorem good_of_trim (l : List UInt8) (hne : l ≠ []) (h : Lib.trimS l [65, 68, 83, 76] = []) : Good ⟨l.toArray⟩ := by
  have hsz : (⟨l.toArray⟩ : ByteArray).size = l.length := by show l.toArray.size = _; simp
  refine ⟨?_, fun j hj => ?_⟩
  · rw [hsz]
    exact List.length_pos_iff.2 hne
  · rw [hsz] at hj
    rw [bt_mk l j hj, ← letter_contains]
    exact all_of_trim l _ h _ (List.getElem_mem _)

theorem good_one (c : UInt8) (h : letterI (c.toNat : Int) = true) : Good ⟨#[c]⟩ := by
  refine ⟨by show 0 < (#[c] : Array UInt8).size; simp, fun j hj => ?_⟩
  have h0 : j = 0 := by
    have : j < (#[c] : Array UInt8).size := hj
    simp at this; exact this
  subst h0
  have := bt_mk [c] 0 (by simp)
  rw [show (⟨#[c]⟩ : ByteArray) = ⟨[c].toArray⟩ from rfl, this]
  exact h

def scriptPost (w : World) (e : Ending) (w' : World) : Prop :=
  ∃ (r : ByteArray) (ok : Bool), e = .returned (.tuple #[.string r, .bool ok]) ∧ (ok = false → r = ⟨#[]⟩) ∧ (ok = true → Good r) ∧ r.size ≤ 1048576 ∧ Below w.heap.size w w'

theorem trim_any (s : ByteArray) (w : World) (hs : s.size ≤ 9223372036854775807) : Calls Tryd.prog 14 #[.string s, .string ⟨#[65, 68, 83, 76]⟩] w fun e w' => e = .returned (.string ⟨(Lib.trimS s.data.toList [65, 68, 83, 76]).toArray⟩) ∧ Below w.heap.size w w' :=
  Any.strings_Trim_laid Tryd.lays160 (by kernel_rfl) s ⟨#[65, 68, 83, 76]⟩ w hs (by decide) (ascii_of_all (by decide))

theorem size_list (l : List UInt8) : (⟨l.toArray⟩ : ByteArray).size = l.length := by show l.toArray.size = _; simp
theorem size_data (s : ByteArray) : s.data.toList.length = s.size := by show _ = s.data.size; simp

theorem cp_any (s p : ByteArray) (w : World) : Calls Tryd.prog 12 #[.string s, .string p] w fun e w' => ∃ r ok, e = .returned (.tuple #[.string r, .bool ok]) ∧ r.size ≤ s.size ∧ w' = w := by
  refine (Tryd.strings_CutPrefix s p w).mono ?_
  rintro e w' ⟨rfl, rfl⟩
  refine ⟨_, _, rfl, ?_, rfl⟩
  rw [size_list, ← size_data s]
  exact Lib.trimPrefix_le _ _

theorem cut_le (s sep : List UInt8) : (Lib.cut s sep).1.length ≤ s.length := by
  unfold Lib.cut
  split
  · simp only [List.length_take]; omega
  · exact Nat.le_refl _

theorem cut_any (s p : ByteArray) (w : World) (hsh : w.ShapedOpen Tryd.prog) (hs : s.size < 4294967281) :
    Calls Tryd.prog 13 #[.string s, .string p] w fun e w' => ∃ r r2 ok n, e = .returned (.tuple #[.string r, .string r2, .bool ok]) ∧ r.size ≤ s.size ∧ w' = w.drewN n := by
  refine (Tryd.strings_Cut_shaped s p w hsh hs).mono ?_
  rintro e w' ⟨rfl, n, rfl⟩
  refine ⟨_, _, _, n, rfl, ?_, rfl⟩
  rw [size_list, ← size_data s]
  exact cut_le _ _

theorem trim2_any (s : ByteArray) (w : World) (hs : s.size ≤ 9223372036854775807) : Calls Tryd.prog 14 #[.string s, .string ⟨#[65, 68, 83, 76]⟩] w fun e w' => ∃ t : ByteArray, e = .returned (.string t) ∧ (t.toList.isEmpty = true → s.toList.isEmpty = false → Good s) ∧ Below w.heap.size w w' := by
  refine (trim_any s w hs).mono ?_
  rintro e w' ⟨rfl, hB⟩
  refine ⟨_, rfl, fun h1 h2 => ?_, hB⟩
  rw [ByteArray.toList_eq, List.isEmpty_iff] at h1
  rw [ByteArray.toList_eq] at h2
  exact good_of_trim s.data.toList (by intro h; rw [h] at h2; cases h2) h1

theorem script_good {w w' : World} (r : ByteArray) (hr : Good r) (hs : r.size ≤ 1048576) (hB : Below w.heap.size w w') : scriptPost w (.returned (.tuple #[.string r, .bool true])) w' :=
  ⟨r, true, ⟨rfl, (fun h => by cases h), (fun _ => hr), hs, hB⟩⟩
theorem script_no {w w' : World} (hB : Below w.heap.size w w') : scriptPost w (.returned (.tuple #[.string ⟨#[]⟩, .bool false])) w' :=
  ⟨⟨#[]⟩, false, ⟨rfl, (fun _ => rfl), (fun h => by cases h), by decide, hB⟩⟩
theorem good_A : Good ⟨#[65]⟩ := good_one 65 rfl
theorem good_D : Good ⟨#[68]⟩ := good_one 68 rfl
theorem good_S : Good ⟨#[83]⟩ := good_one 83 rfl

set_option maxHeartbeats 1000000 in
theorem cardScript_any (s : ByteArray) (w : World) (hsh : w.ShapedOpen Tryd.prog) (hs : s.size ≤ 1048576) : Calls Tryd.prog 10 #[.string s] w fun e w' => scriptPost w e w' := by
  go_enter Tryd.func10, Tryd.ntmps10
  go_wp2_with fail
  refine (cp_any s _ w).mono ?_
  rintro e w1 ⟨r1, ok1, rfl, hr1, rfl⟩
  cases ok1 with
  | false =>
    go_wp2
    go_ret2
    exact script_good _ good_A (by decide) (Below.refl _ _)
  | true =>
    go_wp2_with fail
    refine (cut_any r1 _ w1 hsh (by omega)).mono ?_
    rintro e w2 ⟨r2, r3, ok3, n, rfl, hr2, rfl⟩
    go_wp2_with fail
    · go_ret2
      exact script_good _ good_A (by decide) (below_drewN (Below.refl _ _) _)
    · go_ret2
      exact script_good _ good_D (by decide) (below_drewN (Below.refl _ _) _)
    · go_ret2
      exact script_good _ good_S (by decide) (below_drewN (Below.refl _ _) _)
    · go_ret2
      exact script_no (below_drewN (Below.refl _ _) _)
    · refine (cp_any r2 _ _).mono ?_
      rintro e w3 ⟨r4, ok4, rfl, hr4, rfl⟩
      cases ok4 with
      | false =>
        go_wp2
        go_ret2
        exact script_good _ good_A (by decide) (below_drewN (Below.refl _ _) _)
      | true =>
        by_cases hem : r4.toList.isEmpty = true
        · go_wp2
          go_ret2
          exact script_good _ good_A (by decide) (below_drewN (Below.refl _ _) _)
        · have hem' : r4.toList.isEmpty = false := by simpa using hem
          go_wp2_with fail
          refine (trim2_any r4 _ (by omega)).mono ?_
          rintro e w4 ⟨t, rfl, hg, hB⟩
          have hB' := hB
          have HG := hide hg
          clear hg hB
          have hB2 : Below w1.heap.size w1 w4 := (below_drewN (Below.refl _ _) n).trans hB'
          by_cases ht : t.toList.isEmpty = true
          · go_wp2
            go_ret2
            exact script_good _ (HG.out ht hem') (by omega) hB2
          · have ht' : t.toList.isEmpty = false := by simpa using ht
            go_wp2
            go_ret2
            exact script_good _ good_A (by decide) hB2

end Go.Proofs.Qxb6600504aDoor
