import Derived.Test.Qxb6613049aFmtG1
namespace Go.Proofs.Qxb6613049aFmt
open Go.RowKit Go.Extern.Stop Go.Stop Go.Extern

theorem t68_yes (b cb : Nat) (bs : List UInt8) (q r em fm : Nat) (s0 : ByteArray) (w : World) (h : RD b bs q r w) (hq : q ≤ bs.length) (hr : r ≤ 3000000000000) (hn : bs.length ≤ 1048576) (hne : cb ≠ b)
    (hc : w.cell? ⟨cb, 1, none⟩ = some (.string s0)) (hcf : w.frozen? ⟨cb, 1, none⟩ = false) (he : t6e bs q = em) (hf : stop spI bs em = fm) (hy : ¬ (t6m bs q = q ∨ ¬ En bs fm)) (hqf : q ≤ fm) :
    Calls Tryf.prog 29 #[.pointer (some ⟨b, 0, none⟩), .pointer (some ⟨cb, 0, none⟩)] w fun e w' => e = .returned (.bool true) ∧ ∃ r', RD b bs fm r' w' ∧ Turn (fun k => k = b ∨ k = cb) w.heap.size w w' ∧ w'.heap.size = w.heap.size ∧
      w'.cell? ⟨cb, 0, none⟩ = w.cell? ⟨cb, 0, none⟩ ∧ w'.cell? ⟨cb, 1, none⟩ = some (.string (mk (fldOf bs q em))) ∧ w'.cell? ⟨cb, 2, none⟩ = w.cell? ⟨cb, 2, none⟩ ∧ r + fm ≤ r' + q ∧ r' + q ≤ r + fm + 4 := by
  refine (token68_any b cb bs q r s0 w h hq hr hn hne hc hcf).mono ?_
  intro e w' h9
  unfold t6Post at h9
  rw [he, hf, if_neg hy] at h9
  obtain ⟨rfl, r', h1, h2, h3, h4, h5, h6, h7, h8⟩ := h9
  exact ⟨rfl, r', h1, h2, h3, h4, h5, h6, by omega, by omega⟩
theorem t68_no (b cb : Nat) (bs : List UInt8) (q r em fm : Nat) (s0 : ByteArray) (w : World) (h : RD b bs q r w) (hq : q ≤ bs.length) (hr : r ≤ 3000000000000) (hn : bs.length ≤ 1048576) (hne : cb ≠ b)
    (hc : w.cell? ⟨cb, 1, none⟩ = some (.string s0)) (hcf : w.frozen? ⟨cb, 1, none⟩ = false) (he : t6e bs q = em) (hf : stop spI bs em = fm) (hy : t6m bs q = q ∨ ¬ En bs fm) (hqf : q ≤ fm) :
    Calls Tryf.prog 29 #[.pointer (some ⟨b, 0, none⟩), .pointer (some ⟨cb, 0, none⟩)] w fun e w' => e = .returned (.bool false) ∧ ∃ r', RD b bs q r' w' ∧ Only b w w' ∧ r ≤ r' ∧ r' + q ≤ r + fm + 4 := by
  refine (token68_any b cb bs q r s0 w h hq hr hn hne hc hcf).mono ?_
  intro e w' h9
  unfold t6Post at h9
  rw [he, hf, if_pos hy] at h9
  obtain ⟨rfl, r', h1, h2, h3, h4⟩ := h9
  exact ⟨rfl, r', h1, h2, by omega, by omega⟩
theorem t6_order (bs : List UInt8) (q em fm : Nat) (hq : q ≤ bs.length) (he : t6e bs q = em) (hf : stop spI bs em = fm) : q ≤ em ∧ em ≤ fm ∧ fm ≤ bs.length ∧ (t6m bs q ≠ q → q < fm) := by
  have h1 := stop_ge t6I bs q
  have h2 := stop_le t6I bs q hq
  have h3 := stop_ge eqI bs (t6m bs q)
  have h4 := stop_le eqI bs (t6m bs q) h2
  have h5 := stop_ge spI bs em
  unfold t6e at he
  rw [he] at h3 h4
  have h6 := stop_le spI bs em h4
  rw [hf] at h5 h6
  have h7 : t6m bs q = stop t6I bs q := rfl
  refine ⟨by omega, h5, h6, fun h => by omega⟩
theorem Turn.one {b cb B C : Nat} {w w' : World} (h : Turn (fun k => k = b ∨ k = cb) C w w') (hB : B ≤ C) (hc : B ≤ cb) : Turn (fun k => k = b) B w w' :=
  h.mono hB (fun k hk e => by rcases e with e | e; exact e; omega)
theorem stop_twice (f : Int → Bool) (bs : List UInt8) (j k : Nat) (hj : j ≤ bs.length) (h : stop f bs j = k) : stop f bs k = k := by
  have h2 := stop_le f bs j hj
  by_cases hk : k < bs.length
  · refine stop_no f bs k hk ?_
    rw [← h] at hk ⊢
    exact stop_at f bs _ j (Nat.le_refl _) hk
  · exact stop_end f bs k (by omega)
theorem start_inv (bs : List UInt8) (a j k : Nat) (out : List Chal) (T : Option (List Chal)) (hA : At bs a) (hj : stop tcI bs a = j) (hk : stop spI bs j = k) (hja : j ≠ a) (hkj : k ≠ j) (hj2 : j ≤ bs.length) (hm : Mo bs a false out = T)
    (hno : t6m bs k = k ∨ ¬ En bs (stop spI bs (t6e bs k))) : Inv bs out (fldOf bs a j) T k k [] := by
  by_cases he : En bs k
  · refine .inl ⟨he, ?_⟩
    rw [← hm, Mo_open bs a k hA (by rw [hj]; exact hja) (by rw [hj]; exact hk) (by rw [hj]; exact hkj) he, hj]
  · refine .inr ⟨he, rfl, stop_twice spI bs j k hj2 hk, ?_⟩
    rw [← hm, Mo_first bs a k hA (by rw [hj]; exact hja) (by rw [hj]; exact hk) (by rw [hj]; exact hkj) he hno, hj]

end Go.Proofs.Qxb6613049aFmt
