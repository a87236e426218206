import Derived.Test.Qxb6003863aFmtW3
import Derived.Test.Qxb6003863aFmtShelf
import Derived.Shelf.Strings.SlTrimAscii
namespace Go.Proofs.Qxb6003863aFmt
open Go.RowKit Go.Shelf Go.Lib

theorem blank_contains (c : UInt8) : ([32, 9] : List UInt8).contains c = blankI (c.toNat : Int) := by
  unfold blankI
  rw [Bool.eq_iff_iff]
  simp only [List.contains_cons, List.contains_nil, Bool.or_false, Bool.or_eq_true, beq_iff_eq]
  constructor
  · rintro (rfl | rfl) <;> simp
  · rintro (h | h)
    · left; apply UInt8.toNat_inj.1; simp; omega
    · right; apply UInt8.toNat_inj.1; simp; omega

theorem byt_of_get (bs : List UInt8) (j : Nat) (c : UInt8) (h : bs[j]? = some c) : byt bs j = (c.toNat : Int) := by
  unfold byt; rw [List.getD_eq_getElem?_getD, h]; rfl

theorem trim_back (bs : List UInt8) : (Lib.trimRightS bs [32, 9]).length = back bs bs.length := by
  have hle := back_le bs bs.length
  rw [Lib.trimRightS_take bs [32, 9] (back bs bs.length) hle ?_ ?_, List.length_take]
  · omega
  · intro j c hj hc
    rw [blank_contains, ← byt_of_get bs j c hc]
    have hlt : j < bs.length := by
      rcases Nat.lt_or_ge j bs.length with h | h
      · exact h
      · rw [List.getElem?_eq_none h] at hc; cases hc
    exact back_blank bs bs.length j hj hlt
  · intro c h0 hc
    rw [blank_contains, ← byt_of_get bs _ c hc]
    exact back_last bs bs.length h0

theorem trimRight_at (b off n cap : Nat) (bs : List UInt8) (w : World) (hn : bs.length = n) (hcap : n ≤ cap) (hbig : cap ≤ 9223372036854775807)
    (hc : ∀ j, j < n → w.cell? ⟨b, off + j, none⟩ = some (.int .u8 (byt bs j))) :
    Calls Tryf.prog 42 #[.slice (some ⟨b, off, none⟩) n cap, .string ⟨#[32, 9]⟩] w fun e w' => e = .returned (.slice (some ⟨b, off, none⟩) (back bs n) cap) ∧ Below w.heap.size w w' := by
  have hz : (Tryf.prog.info? 85).map (fun i => (i.zero, i.size)) = some (some (.agg (Array.replicate 256 (.bool false))), 256) := by kernel_rfl
  have hcon := Any.bytes_TrimRight_ascii Tryf.lays7v (zero_of_info hz).1 (zero_of_info hz).2 (some ⟨b, off, none⟩) n cap bs ⟨#[32, 9]⟩ w hn hcap hbig (fun _ => ⟨b, off, rfl, hc⟩) (by decide) (ascii_of_all (by decide))
  change Calls Tryf.prog 42 _ _ (fun e w' => e = .returned (.slice (some ⟨b, off, none⟩) (Lib.trimRightS bs [32, 9]).length cap) ∧ Below w.heap.size w w') at hcon
  rw [trim_back, hn] at hcon
  exact hcon

set_option maxHeartbeats 400000 in
theorem isAttributeField_any (b off n cap : Nat) (bs : List UInt8) (w : World) (hn : bs.length = n) (h0 : 0 < n) (hmax : n ≤ 1048576) (hcap : n ≤ cap) (hbig : cap ≤ 9223372036854775807)
    (hlt : b < w.heap.size) (hc : ∀ j, j < n → w.cell? ⟨b, off + j, none⟩ = some (.int .u8 (byt bs j))) :
    Calls Tryf.prog 36 #[.slice (some ⟨b, off, none⟩) n cap] w fun e w' => e = .returned (.bool (attrB bs)) ∧ Below w.heap.size w w' := by
  have hcon := trimRight_at b off n cap bs w hn hcap hbig hc
  have hle := back_le bs n
  have hat : Hid (attrB bs = (decide (2 ≤ back bs n) && (byt bs 0 == 123) && (byt bs (back bs n - 1) == 125))) := by
    unfold attrB; rw [hn]; rfl
  generalize back bs n = k at hcon hat hle
  have hcell0 : w.cell? ⟨b, off, none⟩ = some (.int .u8 (byt bs 0)) := hc 0 h0
  by_cases h2 : 2 ≤ k
  · have hcell1 : w.cell? ⟨b, off + (k - 1), none⟩ = some (.int .u8 (byt bs (k - 1))) := hc (k - 1) (by omega)
    obtain ⟨m, rfl⟩ : ∃ m, k = m + 1 := ⟨k - 1, by omega⟩
    have hcell2 : w.cell? ⟨b, off + m, none⟩ = some (.int .u8 (byt bs m)) := hcell1
    have hat' : Hid (attrB bs = (decide (2 ≤ m + 1) && (byt bs 0 == 123) && (byt bs m == 125))) := hat
    clear hcell1 hat
    by_cases h3 : (byt bs 0 == 123) = true
    · go_enter Tryf.func36, Tryf.ntmps36
      go_wp2_with fail
      refine hcon.mono ?_
      rintro e w' ⟨rfl, hb⟩
      have hd0 : w'.cell? ⟨b, off, none⟩ = some (.int .u8 (byt bs 0)) := by rw [hb.cell (p := ⟨b, off, none⟩) hlt]; exact hcell0
      have hd1 : w'.cell? ⟨b, off + m, none⟩ = some (.int .u8 (byt bs m)) := by rw [hb.cell (p := ⟨b, off + m, none⟩) hlt]; exact hcell2
      go_wp2
      go_ret
      exact ⟨ret_bool (by rw [hat'.out, h3]; simp; omega), hb⟩
    · have h3' : (byt bs 0 == 123) = false := by simpa using h3
      go_enter Tryf.func36, Tryf.ntmps36
      go_wp2_with fail
      refine hcon.mono ?_
      rintro e w' ⟨rfl, hb⟩
      have hd0 : w'.cell? ⟨b, off, none⟩ = some (.int .u8 (byt bs 0)) := by rw [hb.cell (p := ⟨b, off, none⟩) hlt]; exact hcell0
      go_wp2
      go_ret
      exact ⟨ret_bool (by rw [hat'.out, h3']; simp), hb⟩
  · go_enter Tryf.func36, Tryf.ntmps36
    go_wp2_with fail
    refine hcon.mono ?_
    rintro e w' ⟨rfl, hb⟩
    go_wp2
    go_ret
    exact ⟨ret_bool (by rw [hat.out]; simp; omega), hb⟩

end Go.Proofs.Qxb6003863aFmt
