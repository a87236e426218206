namespace Go.Proofs.Qxb6003863aFmt

/-- The byte at place i, as a number. -/
def byt (bs : List UInt8) (i : Nat) : Int := ((bs.getD i 0).toNat : Int)
def blankI (x : Int) : Bool := x == 32 || x == 9
def nblankI (x : Int) : Bool := !blankI x

theorem byt_nonneg (bs : List UInt8) (i : Nat) : 0 ≤ byt bs i := by unfold byt; omega
theorem byt_le (bs : List UInt8) (i : Nat) : byt bs i ≤ 255 := by
  unfold byt
  have := (bs.getD i 0).toNat_lt
  omega

/-- Where the run of bytes that meet p and that opens at i ends. -/
def stop (p : Int → Bool) (bs : List UInt8) (i : Nat) : Nat := i + ((bs.drop i).takeWhile fun c => p (c.toNat : Int)).length

theorem drop_byt (bs : List UInt8) (i : Nat) (h : i < bs.length) : ∃ c, bs.drop i = c :: bs.drop (i + 1) ∧ (c.toNat : Int) = byt bs i := by
  refine ⟨bs[i], List.drop_eq_getElem_cons h, ?_⟩
  unfold byt
  rw [List.getD_eq_getElem?_getD, List.getElem?_eq_getElem h]
  rfl

theorem stop_end (p : Int → Bool) (bs : List UInt8) (i : Nat) (h : bs.length ≤ i) : stop p bs i = i := by
  unfold stop
  rw [List.drop_eq_nil_of_le h]
  rfl

theorem stop_yes (p : Int → Bool) (bs : List UInt8) (i : Nat) (h : i < bs.length) (hp : p (byt bs i) = true) : stop p bs i = stop p bs (i + 1) := by
  unfold stop
  obtain ⟨c, hc, hb⟩ := drop_byt bs i h
  rw [hc, List.takeWhile_cons, hb, hp]
  simp
  omega

theorem stop_no (p : Int → Bool) (bs : List UInt8) (i : Nat) (h : i < bs.length) (hp : p (byt bs i) = false) : stop p bs i = i := by
  unfold stop
  obtain ⟨c, hc, hb⟩ := drop_byt bs i h
  rw [hc, List.takeWhile_cons, hb, hp]
  simp

theorem stop_ge (p : Int → Bool) (bs : List UInt8) (i : Nat) : i ≤ stop p bs i := by unfold stop; omega
theorem stop_le (p : Int → Bool) (bs : List UInt8) (i : Nat) (h : i ≤ bs.length) : stop p bs i ≤ bs.length := by
  unfold stop
  have h1 : ((bs.drop i).takeWhile fun c => p (c.toNat : Int)).length ≤ (bs.drop i).length := by
    have h2 := List.takeWhile_append_dropWhile (p := fun c : UInt8 => p (c.toNat : Int)) (l := bs.drop i)
    have h3 := congrArg List.length h2
    rw [List.length_append] at h3
    omega
  rw [List.length_drop] at h1
  omega

/-- At the end of the run stands a byte that does not meet p, or nothing. -/
theorem stop_at (p : Int → Bool) (bs : List UInt8) : ∀ (d i : Nat), bs.length - i ≤ d → stop p bs i < bs.length → p (byt bs (stop p bs i)) = false
  | 0, i, hd, h => by
    rw [stop_end p bs i (by omega)] at h
    omega
  | d + 1, i, hd, h => by
    by_cases hi : i < bs.length
    · cases hp : p (byt bs i) with
      | false => rw [stop_no p bs i hi hp]; exact hp
      | true =>
        rw [stop_yes p bs i hi hp] at h ⊢
        exact stop_at p bs d (i + 1) (by omega) h
    · rw [stop_end p bs i (by omega)] at h
      omega

/-- Inside the run each byte meets p. -/
theorem stop_in (p : Int → Bool) (bs : List UInt8) : ∀ (d i j : Nat), bs.length - i ≤ d → i ≤ j → j < stop p bs i → j < bs.length → p (byt bs j) = true
  | 0, i, j, hd, h1, h2, h3 => by omega
  | d + 1, i, j, hd, h1, h2, h3 => by
    cases hp : p (byt bs i) with
    | false => rw [stop_no p bs i (by omega) hp] at h2; omega
    | true =>
      by_cases e : i = j
      · subst e; exact hp
      · rw [stop_yes p bs i (by omega) hp] at h2
        exact stop_in p bs d (i + 1) j (by omega) (by omega) h2 h3


def top63 : Nat := 9223372036854775807

/-- A node id, read digit by digit: none at the first byte that is no digit or takes the number past the largest. -/
def idAcc : List UInt8 → Nat → Option Nat
  | [], v => some v
  | c :: cs, v => if 48 ≤ c.toNat ∧ c.toNat ≤ 57 then (if v * 10 + (c.toNat - 48) ≤ top63 then idAcc cs (v * 10 + (c.toNat - 48)) else none) else none

theorem idAcc_no (c : UInt8) (cs : List UInt8) (v : Nat) (h : ¬ (48 ≤ c.toNat ∧ c.toNat ≤ 57)) : idAcc (c :: cs) v = none := by
  unfold idAcc; rw [if_neg h]
theorem idAcc_big (c : UInt8) (cs : List UInt8) (v : Nat) (h : top63 < v * 10 + (c.toNat - 48)) : idAcc (c :: cs) v = none := by
  unfold idAcc
  by_cases h1 : 48 ≤ c.toNat ∧ c.toNat ≤ 57
  · rw [if_pos h1, if_neg (by omega)]
  · rw [if_neg h1]
theorem idAcc_yes (c : UInt8) (cs : List UInt8) (v : Nat) (h : 48 ≤ c.toNat ∧ c.toNat ≤ 57) (h2 : v * 10 + (c.toNat - 48) ≤ top63) : idAcc (c :: cs) v = idAcc cs (v * 10 + (c.toNat - 48)) := by
  conv => lhs; unfold idAcc
  rw [if_pos h, if_pos h2]

/-- The same at a place of the text, the byte as a number. -/
theorem idAt_no (bs : List UInt8) (k v : Nat) (hk : k < bs.length) (h : ¬ (48 ≤ byt bs k ∧ byt bs k ≤ 57)) : idAcc (bs.drop k) v = none := by
  obtain ⟨c, hc, hb⟩ := drop_byt bs k hk
  rw [hc]
  exact idAcc_no _ _ _ (by omega)
theorem idAt_big (bs : List UInt8) (k v : Nat) (hk : k < bs.length) (h : (top63 : Int) < v * 10 + (byt bs k - 48)) : idAcc (bs.drop k) v = none := by
  obtain ⟨c, hc, hb⟩ := drop_byt bs k hk
  rw [hc]
  by_cases h1 : 48 ≤ c.toNat ∧ c.toNat ≤ 57
  · exact idAcc_big _ _ _ (by omega)
  · exact idAcc_no _ _ _ h1
theorem idAt_yes (bs : List UInt8) (k v : Nat) (hk : k < bs.length) (h : 48 ≤ byt bs k ∧ byt bs k ≤ 57) (h2 : (v : Int) * 10 + (byt bs k - 48) ≤ top63) :
    idAcc (bs.drop k) v = idAcc (bs.drop (k + 1)) (v * 10 + (byt bs k - 48).toNat) ∧ ((v * 10 + (byt bs k - 48).toNat : Nat) : Int) = v * 10 + (byt bs k - 48) ∧ v * 10 + (byt bs k - 48).toNat ≤ top63 := by
  obtain ⟨c, hc, hb⟩ := drop_byt bs k hk
  rw [hc, idAcc_yes _ _ _ (by omega) (by omega)]
  have e : c.toNat - 48 = (byt bs k - 48).toNat := by omega
  rw [e]
  exact ⟨rfl, by omega, by omega⟩

/-- How many of the first k bytes are left when the blanks at their end are struck. -/
def back (bs : List UInt8) : Nat → Nat
  | 0 => 0
  | j + 1 => if blankI (byt bs j) = true then back bs j else j + 1

theorem back_le (bs : List UInt8) : ∀ k, back bs k ≤ k
  | 0 => Nat.le_refl 0
  | j + 1 => by
    unfold back
    have := back_le bs j
    split <;> omega
theorem back_yes (bs : List UInt8) (j : Nat) (h : blankI (byt bs j) = true) : back bs (j + 1) = back bs j := by
  conv => lhs; unfold back
  rw [if_pos h]
theorem back_no (bs : List UInt8) (j : Nat) (h : blankI (byt bs j) = false) : back bs (j + 1) = j + 1 := by
  conv => lhs; unfold back
  rw [if_neg (by simp [h])]
theorem back_blank (bs : List UInt8) : ∀ k j, back bs k ≤ j → j < k → blankI (byt bs j) = true
  | 0, j, h1, h2 => by omega
  | k + 1, j, h1, h2 => by
    cases hb : blankI (byt bs k) with
    | false => rw [back_no bs k hb] at h1; omega
    | true =>
      by_cases e : j = k
      · subst e; exact hb
      · rw [back_yes bs k hb] at h1
        exact back_blank bs k j h1 (by omega)
theorem back_last (bs : List UInt8) : ∀ k, 0 < back bs k → blankI (byt bs (back bs k - 1)) = false
  | 0, h => by simp [back] at h
  | k + 1, h => by
    cases hb : blankI (byt bs k) with
    | false => rw [back_no bs k hb]; simpa using hb
    | true => rw [back_yes bs k hb] at h ⊢; exact back_last bs k h

/-- An attribute field: it opens with a brace and its last byte, blanks struck, is a later closing brace. -/
def attrB (bs : List UInt8) : Bool := decide (2 ≤ back bs bs.length) && (byt bs 0 == 123) && (byt bs (back bs bs.length - 1) == 125)

/-- The bytes from k to e. -/
def fldOf (bs : List UInt8) (k e : Nat) : List UInt8 := (bs.drop k).take (e - k)

theorem fldOf_cons (bs : List UInt8) (k e : Nat) (h : k < e) (he : e ≤ bs.length) : ∃ c, fldOf bs k e = c :: fldOf bs (k + 1) e ∧ (c.toNat : Int) = byt bs k := by
  obtain ⟨c, hc, hb⟩ := drop_byt bs k (by omega)
  refine ⟨c, ?_, hb⟩
  unfold fldOf
  rw [hc, show e - k = (e - (k + 1)) + 1 from by omega, List.take_succ_cons]
theorem fldOf_nil (bs : List UInt8) (k e : Nat) (h : e ≤ k) : fldOf bs k e = [] := by
  unfold fldOf
  rw [show e - k = 0 from by omega, List.take_zero]
theorem fldOf_length (bs : List UInt8) (k e : Nat) (he : e ≤ bs.length) : (fldOf bs k e).length = e - k := by
  unfold fldOf
  rw [List.length_take, List.length_drop]
  omega
theorem byt_fldOf (bs : List UInt8) (k e j : Nat) (h : j < e - k) : byt (fldOf bs k e) j = byt bs (k + j) := by
  unfold byt fldOf
  rw [List.getD_eq_getElem?_getD, List.getD_eq_getElem?_getD, List.getElem?_take_of_lt h, List.getElem?_drop]

theorem idF_no (bs : List UInt8) (k e v : Nat) (hk : k < e) (he : e ≤ bs.length) (h : ¬ (48 ≤ byt bs k ∧ byt bs k ≤ 57)) : idAcc (fldOf bs k e) v = none := by
  obtain ⟨c, hc, hb⟩ := fldOf_cons bs k e hk he
  rw [hc]
  exact idAcc_no _ _ _ (by omega)
theorem idF_big (bs : List UInt8) (k e v : Nat) (hk : k < e) (he : e ≤ bs.length) (h : (top63 : Int) < v * 10 + (byt bs k - 48)) : idAcc (fldOf bs k e) v = none := by
  obtain ⟨c, hc, hb⟩ := fldOf_cons bs k e hk he
  rw [hc]
  by_cases h1 : 48 ≤ c.toNat ∧ c.toNat ≤ 57
  · exact idAcc_big _ _ _ (by omega)
  · exact idAcc_no _ _ _ h1
theorem idF_yes (bs : List UInt8) (k e v : Nat) (hk : k < e) (he : e ≤ bs.length) (h : 48 ≤ byt bs k ∧ byt bs k ≤ 57) (h2 : (v : Int) * 10 + (byt bs k - 48) ≤ top63) :
    idAcc (fldOf bs k e) v = idAcc (fldOf bs (k + 1) e) (v * 10 + (byt bs k - 48).toNat) ∧ ((v * 10 + (byt bs k - 48).toNat : Nat) : Int) = v * 10 + (byt bs k - 48) ∧ v * 10 + (byt bs k - 48).toNat ≤ top63 := by
  obtain ⟨c, hc, hb⟩ := fldOf_cons bs k e hk he
  rw [hc, idAcc_yes _ _ _ (by omega) (by omega)]
  have e : c.toNat - 48 = (byt bs k - 48).toNat := by omega
  rw [e]
  exact ⟨rfl, by omega, by omega⟩

/-- From a place inside a run the run ends where it ended. -/
theorem stop_mid (p : Int → Bool) (bs : List UInt8) : ∀ (d i k : Nat), k - i ≤ d → i ≤ k → k ≤ stop p bs i → k ≤ bs.length → stop p bs k = stop p bs i
  | 0, i, k, hd, h1, h2, h3 => by rw [show k = i from by omega]
  | d + 1, i, k, hd, h1, h2, h3 => by
    by_cases e : k = i
    · rw [e]
    · have hp : p (byt bs i) = true := stop_in p bs bs.length i i (by omega) (Nat.le_refl _) (by omega) (by omega)
      rw [stop_yes p bs i (by omega) hp] at h2 ⊢
      exact stop_mid p bs d (i + 1) k (by omega) (by omega) h2 h3
theorem stop_blank (p : Int → Bool) (bs : List UInt8) (i k : Nat) (h1 : i ≤ k) (h2 : k ≤ stop p bs i) (h3 : k < bs.length) (h : p (byt bs k) = false) : stop p bs i = k := by
  rw [← stop_mid p bs (k - i) i k (Nat.le_refl _) h1 h2 (by omega)]
  exact stop_no p bs k h3 h
theorem stop_more (p : Int → Bool) (bs : List UInt8) (i k : Nat) (h1 : i ≤ k) (h2 : k ≤ stop p bs i) (h3 : k < bs.length) (h : p (byt bs k) = true) : k < stop p bs i := by
  rw [← stop_mid p bs (k - i) i k (Nat.le_refl _) h1 h2 (by omega), stop_yes p bs k h3 h]
  have := stop_ge p bs (k + 1)
  omega
theorem digit_nblank (x : Int) (h : 48 ≤ x) : nblankI x = true := by
  unfold nblankI blankI
  have h1 : (x == 32) = false := by simp; omega
  have h2 : (x == 9) = false := by simp; omega
  rw [h1, h2]; rfl

end Go.Proofs.Qxb6003863aFmt
