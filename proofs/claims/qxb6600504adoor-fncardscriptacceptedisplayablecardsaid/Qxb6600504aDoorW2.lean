import Derived.Test.Qxb6600504aDoorW1
namespace Go.Proofs.Qxb6600504aDoor
open Go.RowKit Go.PlainAid

set_option maxHeartbeats 400000 in
theorem zzBytes_yes (s : ByteArray) (n : Int) (w : World) (hs : s.size ≤ 1048576) : Calls Tryd.prog 7 #[.string s, .int .i64 n] w fun e w' => e = .returned (.bool true) ∧ w' = w := by
  have hs' : ¬ (1048576 : Int) < (s.size : Int) := by omega
  go_enter Tryd.func7, Tryd.ntmps7
  go_wp2
  go_ret
  exact ⟨rfl, rfl⟩

set_option maxHeartbeats 400000 in
theorem zzBytes_no (s : ByteArray) (n : Int) (w : World) (hs : 1048576 < s.size) : Calls Tryd.prog 7 #[.string s, .int .i64 n] w fun e w' => e = .returned (.bool false) ∧ w' = w := by
  have hs' : (1048576 : Int) < (s.size : Int) := by omega
  go_enter Tryd.func7, Tryd.ntmps7
  go_wp2
  go_ret
  exact ⟨rfl, rfl⟩

set_option maxHeartbeats 400000 in
theorem zzScript_any (s : ByteArray) (w : World) (hsh : w.ShapedOpen Tryd.prog) (hs : s.size ≤ 1048576) : Calls Tryd.prog 6 #[.string s] w fun e w' => scriptPost w e w' := by
  go_enter Tryd.func6, Tryd.ntmps6
  go_wp2_with fail
  refine (cardScript_any s w hsh hs).mono ?_
  rintro e w' ⟨r, ok, rfl, h1, h2, h3, hB⟩
  have H1 := hide h1
  have H2 := hide h2
  clear h1 h2
  go_wp2
  go_ret2
  exact ⟨r, ok, rfl, H1.out, H2.out, h3, hB⟩

theorem nextAt_lt (s : ByteArray) (c : Nat) (h : 0 < s.size) : nextAt s c < s.size := by unfold nextAt; split <;> omega

theorem empty_of (r : ByteArray) (h : 0 < r.size) : r.toList.isEmpty = false := by
  rw [ByteArray.toList_eq]
  have h1 := size_data r
  cases hl : r.data.toList with
  | nil =>
    rw [hl] at h1
    have h2 : (0 : Nat) = r.size := h1
    omega
  | cons a l => rfl

def playRel (w2 : World) (m : Nat) (c i : Value) (wr : World) : Prop := ∃ k : Nat, k ≤ m ∧ c = .int .i64 k ∧ i = .int .i64 k ∧ Below w2.heap.size w2 wr

set_option maxHeartbeats 1000000 in
theorem law_any (s : ByteArray) (n : Int) (w : World) (hsh : w.ShapedOpen Tryd.prog) : Calls Tryd.prog 4 #[.string s, .int .i64 n] w fun e w' => e = .returned (.bool true) ∧ Below w.heap.size w w' := by
  by_cases hs : s.size ≤ 1048576
  · have hs' : ¬ (1048576 : Int) < (s.size : Int) := by omega
    by_cases hn0 : n < 0
    · go_enter Tryd.func4, Tryd.ntmps4
      go_wp2_with (go_at_call 7; refine (zzBytes_yes s n _ hs).mono ?_; rintro e w1 ⟨rfl, rfl⟩)
      go_ret
      exact ⟨rfl, Below.refl _ _⟩
    · by_cases hn1 : 65536 < n
      · go_enter Tryd.func4, Tryd.ntmps4
        go_wp2_with (go_at_call 7; refine (zzBytes_yes s n _ hs).mono ?_; rintro e w1 ⟨rfl, rfl⟩)
        go_ret
        exact ⟨rfl, Below.refl _ _⟩
      · go_enter Tryd.func4, Tryd.ntmps4
        go_wp2_with (go_at_call 7; refine (zzBytes_yes s n _ hs).mono ?_; rintro e w1 ⟨rfl, rfl⟩)
        refine (zzScript_any s _ hsh hs).mono ?_
        rintro e w2 ⟨r, ok, rfl, h1, h2, h3, hB⟩
        cases ok with
        | false =>
          obtain rfl := h1 rfl
          go_wp2
          go_ret
          exact ⟨by rfl, hB⟩
        | true =>
          obtain ⟨hg0, hg1⟩ := h2 rfl
          have HG := hide hg1
          have hem := empty_of r hg0
          have hbt := get_bt r
          clear hg1 h1 h2
          go_wp2
          go_loop [7] (fun t => ∃ k : Nat, k ≤ r.size ∧ t = .int .i64 k) (fun t => r.size - (intOf t).toNat)
          case atStart => exact ⟨0, Nat.zero_le _, rfl⟩
          case round =>
            obtain ⟨k, hk, rfl⟩ := hrel
            by_cases hlt : k < r.size
            · have hL := HG.out k hlt
              go_wp2_with (go_at_call 8; refine (letter_any _ _).mono ?_; rintro e w1 ⟨rfl, rfl⟩)
              go_round
              case rel => exact ⟨k + 1, by omega, by go_num⟩
              case measure => simp [intOf]; omega
            · obtain ⟨m, rfl⟩ : ∃ m : Nat, n = m := ⟨n.toNat, by omega⟩
              go_wp2
              go_loopw [4, 8, 9, 10, 11] (fun _ c i _ _ wr => playRel w2 m c i wr) (fun _ _ i _ _ _ => m - (intOf i).toNat)
              case atStart => exact ⟨0, Nat.zero_le _, rfl, rfl, Below.refl _ _⟩
              case round =>
                obtain ⟨c, hcm, rfl, rfl, hBr⟩ := hrel
                by_cases hlc : c < m
                · have hL := HG.out (nextAt r c) (nextAt_lt r c hg0)
                  go_wp2_with (first | (go_at_call 9; refine (zzNext_any r c _ hg0 (by omega) (by omega)).mono ?_; rintro e w3 ⟨rfl, hB3⟩) | (go_at_call 8; refine (letter_any _ _).mono ?_; rintro e w4 ⟨rfl, rfl⟩))
                  go_roundw
                  case rel => exact ⟨c + 1, by omega, by go_num, by go_num, hBr.trans (hB3.mono hBr.size)⟩
                  case measure => simp [intOf]; omega
                · go_wp2
                  go_ret
                  exact ⟨rfl, hB.trans (hBr.mono hB.size)⟩
  · have hs' : (1048576 : Int) < (s.size : Int) := by omega
    go_enter Tryd.func4, Tryd.ntmps4
    go_wp2_with (go_at_call 7; refine (zzBytes_no s n _ (by omega)).mono ?_; rintro e w1 ⟨rfl, rfl⟩)
    go_ret
    exact ⟨rfl, Below.refl _ _⟩

end Go.Proofs.Qxb6600504aDoor
