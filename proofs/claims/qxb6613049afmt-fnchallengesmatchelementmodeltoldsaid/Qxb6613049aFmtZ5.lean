import Derived.Test.Qxb6613049aFmtZ4
namespace Go.Proofs.Qxb6613049aFmt
open Go.RowKit

/-- Texts as cells. -/
def strCells (xs : List (List UInt8)) : List Value := xs.map fun x => Value.string (mk x)
theorem strCells_length (xs : List (List UInt8)) : (strCells xs).length = xs.length := by unfold strCells; rw [List.length_map]
theorem strCells_push (xs : List (List UInt8)) (x : List UInt8) : strCells xs ++ [Value.string (mk x)] = strCells (xs ++ [x]) := by unfold strCells; rw [List.map_append]; rfl
theorem els_end (bs : List UInt8) (q : Bool) (s i : Nat) (h : bs.length ≤ i) : elsOf bs q s i = [fldOf bs s bs.length] := by
  unfold elsOf
  rw [S_end bs q s i h]
  rfl
theorem els_t (bs : List UInt8) (s i : Nat) (h : i < bs.length) : elsOf bs true s i = if byt bs i = 92 ∧ i + 1 < bs.length then elsOf bs true s (i + 2) else if byt bs i = 34 then elsOf bs false s (i + 1) else elsOf bs true s (i + 1) := by
  unfold elsOf
  rw [S_t bs s i h]
  by_cases c : byt bs i = 92 ∧ i + 1 < bs.length
  · rw [if_pos c, if_pos c]
  · rw [if_neg c, if_neg c]
    by_cases c2 : byt bs i = 34
    · rw [if_pos c2, if_pos c2]
    · rw [if_neg c2, if_neg c2]
theorem els_f (bs : List UInt8) (s i : Nat) (h : i < bs.length) : elsOf bs false s i = if byt bs i = 34 then elsOf bs true s (i + 1) else if byt bs i = 44 then fldOf bs s i :: elsOf bs false (i + 1) (i + 1) else elsOf bs false s (i + 1) := by
  unfold elsOf
  rw [S_f bs s i h]
  by_cases c : byt bs i = 34
  · rw [if_pos c, if_pos c]
  · rw [if_neg c, if_neg c]
    by_cases c2 : byt bs i = 44
    · rw [if_pos c2, if_pos c2]
      rfl
    · rw [if_neg c2, if_neg c2]

/-- Where the loop of zzSplitElements stands. -/
def spRel (bs : List UInt8) (w : World) (g : Nat) (t3 t4 t5 t6 : Value) (wr : World) : Prop :=
  ∃ (k s : Nat) (q : Bool) (acc : List (List UInt8)), k + g = bs.length ∧ s ≤ k ∧ t6 = .int .i64 k ∧ t4 = .int .i64 s ∧ t5 = .bool q ∧ wr.ownsRow w.heap.size 9 1 t3 acc.length (strCells acc) ∧ Below w.heap.size w wr ∧ acc.length ≤ k ∧ acc ++ elsOf bs q s k = elsOf bs false 0 0

set_option maxHeartbeats 4000000 in
set_option maxRecDepth 100000 in
theorem zzSplit_any (bs : List UInt8) (w : World) (hn : bs.length ≤ 1048576) :
    Calls Tryf.prog 17 #[.string (mk bs)] w fun e w' => ∃ v, e = .returned v ∧ w'.ownsRow w.heap.size 9 1 v (elsOf bs false 0 0).length (strCells (elsOf bs false 0 0)) ∧ Below w.heap.size w w' := by
  have hz := mk_size bs
  have hi9 : Tryf.prog.info? 9 = some Tryf.t9 := by kernel_rfl
  go_enter Tryf.func17, Tryf.ntmps17
  go_wp2
  go_loopg [3, 4, 5, 6] bs.length (fun g t3 t4 t5 t6 wr => spRel bs w g t3 t4 t5 t6 wr)
  case atStart => exact ⟨0, 0, false, [], by omega, Nat.le_refl _, rfl, rfl, rfl, World.ownsRow_nil _ _ _ _, Below.refl _ _, Nat.zero_le _, rfl⟩
  case round =>
    obtain ⟨k, s, q, acc, hkg, hsk, rfl, rfl, rfl, hown, hbel, hal, hels⟩ := hrel
    have HO := hide hown
    have HB := hide hbel
    have HE := hide hels
    have Hg := hide hkg
    have hkn : k ≤ bs.length := by omega
    clear hown hbel hels hkg
    by_cases hk : k < bs.length
    · have hlt : (k : Int) < (bs.length : Int) := by omega
      have hgk := mk_get bs k (by rw [hz]; exact hk)
      cases q with
      | true =>
        have hq0 := hide (els_t bs s k hk)
        by_cases esc : byt bs k = 92 ∧ k + 1 < bs.length
        · have h92 : (byt bs k == 92) = true := by simp [esc.1]
          have h1n : k + 1 < bs.length := esc.2
          have hlt2 : (k : Int) + 1 < (bs.length : Int) := by omega
          have HQ : Hid (acc ++ elsOf bs true s (k + 2) = elsOf bs false 0 0) := by rw [Hid, ← HE.out, hq0.out, if_pos esc]
          clear esc hq0
          go_wp2
          go_roundg (bs.length - (k + 2))
          case measure => have := Hg.out; omega
          case rel => exact ⟨k + 2, s, true, acc, by omega, by omega, by go_num, rfl, rfl, HO.out, HB.out, by omega, HQ.out⟩
        · have hq1 : Hid (elsOf bs true s k = if byt bs k = 34 then elsOf bs false s (k + 1) else elsOf bs true s (k + 1)) := by rw [Hid, hq0.out, if_neg esc]
          have hesc : (byt bs k == 92) = false ∨ ((byt bs k == 92) = true ∧ ¬ ((k : Int) + 1 < (bs.length : Int))) := by
            by_cases e : byt bs k = 92
            · exact .inr ⟨by simp [e], fun h => esc ⟨e, by omega⟩⟩
            · exact .inl (by simp [e])
          clear hq0 esc
          by_cases c34 : byt bs k = 34
          · have hc : (byt bs k == 34) = true := by simp [c34]
            have HQ : Hid (acc ++ elsOf bs false s (k + 1) = elsOf bs false 0 0) := by rw [Hid, ← HE.out, hq1.out, if_pos c34]
            clear hq1 c34
            rcases hesc with h92 | ⟨h92, hdl⟩
            · go_wp2
              go_roundg (bs.length - (k + 1))
              case measure => have := Hg.out; omega
              case rel => exact ⟨k + 1, s, false, acc, by omega, by omega, by go_num, rfl, rfl, HO.out, HB.out, by omega, HQ.out⟩
            · go_wp2
              go_roundg (bs.length - (k + 1))
              case measure => have := Hg.out; omega
              case rel => exact ⟨k + 1, s, false, acc, by omega, by omega, by go_num, rfl, rfl, HO.out, HB.out, by omega, HQ.out⟩
          · have hc : (byt bs k == 34) = false := by simp [c34]
            have HQ : Hid (acc ++ elsOf bs true s (k + 1) = elsOf bs false 0 0) := by rw [Hid, ← HE.out, hq1.out, if_neg c34]
            clear hq1 c34
            rcases hesc with h92 | ⟨h92, hdl⟩
            · go_wp2
              go_roundg (bs.length - (k + 1))
              case measure => have := Hg.out; omega
              case rel => exact ⟨k + 1, s, true, acc, by omega, by omega, by go_num, rfl, rfl, HO.out, HB.out, by omega, HQ.out⟩
            · go_wp2
              go_roundg (bs.length - (k + 1))
              case measure => have := Hg.out; omega
              case rel => exact ⟨k + 1, s, true, acc, by omega, by omega, by go_num, rfl, rfl, HO.out, HB.out, by omega, HQ.out⟩
      | false =>
        have hq0 := hide (els_f bs s k hk)
        by_cases c34 : byt bs k = 34
        · have hc : (byt bs k == 34) = true := by simp [c34]
          have HQ : Hid (acc ++ elsOf bs true s (k + 1) = elsOf bs false 0 0) := by rw [Hid, ← HE.out, hq0.out, if_pos c34]
          clear hq0 c34
          go_wp2
          go_roundg (bs.length - (k + 1))
          case measure => have := Hg.out; omega
          case rel => exact ⟨k + 1, s, true, acc, by omega, by omega, by go_num, rfl, rfl, HO.out, HB.out, by omega, HQ.out⟩
        · have hc : (byt bs k == 34) = false := by simp [c34]
          by_cases c44 : byt bs k = 44
          · have hc2 : (byt bs k == 44) = true := by simp [c44]
            have HQ : Hid ((acc ++ [fldOf bs s k]) ++ elsOf bs false (k + 1) (k + 1) = elsOf bs false 0 0) := by rw [Hid, ← HE.out, hq0.out, if_neg c34, if_pos c44, List.append_assoc]; rfl
            clear hq0 c34 c44
            go_wp2_with (at_builtin; refine wpList_append_own _ rfl _ _ 22 rfl w.heap.size 9 Tryf.t9 _ 1 16 Tryf.underlying22 hi9 rfl rfl rfl rfl (by decide) _ _ _ rfl (HO.out.alloc _) ⟨wr.heap.size, 0, none⟩ 1 1 [.string ((mk bs).extract s k)] rfl rfl ?c1 ?c2 ?c3 ?c4 ?c5 ?_)
            case c1 =>
              intro jj u hj
              match jj, hj with
              | 0, hj => simp at hj; subst hj; simp [Addr.add]
            case c2 => intro u hu; simp at hu; subst hu; rfl
            case c3 => unfold maxLen; omega
            case c4 => omega
            case c5 => have := HB.out.size; simp; omega
            intro v' w5 hown' hgrow hnil
            have W5 := hide hown'
            have G5 := hide hgrow
            clear hnil hown' hgrow
            go_wp2
            go_roundg (bs.length - (k + 1))
            case measure => have := Hg.out; omega
            case rel =>
              have hs := HB.out.size
              have hb := (HB.out.alloc hs (.cells #[.string ((mk bs).extract s k)] 9)).grown G5.out (by simp; omega) (fun k hk => (HO.out.lt k hk).1)
              have ho := W5.out
              rw [mk_extract, strCells_push] at ho
              exact ⟨k + 1, k + 1, false, acc ++ [fldOf bs s k], by omega, by omega, by go_num, by go_num, rfl, by rw [List.length_append, List.length_singleton]; exact ho, hb, by rw [List.length_append, List.length_singleton]; omega, HQ.out⟩
          · have hc2 : (byt bs k == 44) = false := by simp [c44]
            have HQ : Hid (acc ++ elsOf bs false s (k + 1) = elsOf bs false 0 0) := by rw [Hid, ← HE.out, hq0.out, if_neg c34, if_neg c44]
            clear hq0 c34 c44
            go_wp2
            go_roundg (bs.length - (k + 1))
            case measure => have := Hg.out; omega
            case rel => exact ⟨k + 1, s, false, acc, by omega, by omega, by go_num, rfl, rfl, HO.out, HB.out, by omega, HQ.out⟩
    · have hlt : decide (k < bs.length) = false := by simp; omega
      have HQ : Hid (elsOf bs false 0 0 = acc ++ [fldOf bs s bs.length]) := by rw [Hid, ← HE.out, els_end bs q s k (by omega)]
      go_wp2_with (at_builtin; refine wpList_append_own _ rfl _ _ 22 rfl w.heap.size 9 Tryf.t9 _ 1 16 Tryf.underlying22 hi9 rfl rfl rfl rfl (by decide) _ _ _ rfl (HO.out.alloc _) ⟨wr.heap.size, 0, none⟩ 1 1 [.string ((mk bs).extract s bs.length)] rfl rfl ?c1 ?c2 ?c3 ?c4 ?c5 ?_)
      case c1 =>
        intro jj u hj
        match jj, hj with
        | 0, hj => simp at hj; subst hj; simp [Addr.add]
      case c2 => intro u hu; simp at hu; subst hu; rfl
      case c3 => unfold maxLen; omega
      case c4 => omega
      case c5 => have := HB.out.size; simp; omega
      intro v' w5 hown' hgrow hnil
      have W5 := hide hown'
      have G5 := hide hgrow
      clear hnil hown' hgrow
      go_wp2
      go_ret
      have hs := HB.out.size
      have hb := (HB.out.alloc hs (.cells #[.string ((mk bs).extract s bs.length)] 9)).grown G5.out (by simp; omega) (fun k hk => (HO.out.lt k hk).1)
      have ho := W5.out
      rw [mk_extract, strCells_push] at ho
      refine ⟨v', rfl, ?_, hb⟩
      rw [HQ.out, List.length_append, List.length_singleton]
      exact ho

end Go.Proofs.Qxb6613049aFmt
