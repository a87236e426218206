namespace Go.Proofs.Qxb6613049aFmt

/-- The byte at place i, as a number. -/
def byt (bs : List UInt8) (i : Nat) : Int := ((bs.getD i 0).toNat : Int)
theorem byt_nonneg (bs : List UInt8) (i : Nat) : 0 ≤ byt bs i := by unfold byt; omega
theorem byt_le (bs : List UInt8) (i : Nat) : byt bs i ≤ 255 := by
  unfold byt
  have := (bs.getD i 0).toNat_lt
  omega

/-- White space; a character of a token; of a token68; of a quoted string; the equals sign. -/
def spI (x : Int) : Bool := x == 32 || x == 9
def alI (x : Int) : Bool := (decide (97 ≤ x) && decide (x ≤ 122)) || (decide (65 ≤ x) && decide (x ≤ 90)) || (decide (48 ≤ x) && decide (x ≤ 57))
def tcI (x : Int) : Bool := alI x || (x == 33 || x == 35 || x == 36 || x == 37 || x == 38 || x == 39 || x == 42 || x == 43 || x == 45 || x == 46 || x == 94 || x == 95 || x == 96 || x == 124 || x == 126)
def t6I (x : Int) : Bool := alI x || (x == 45 || x == 46 || x == 95 || x == 126 || x == 43 || x == 47)
def qbI (x : Int) : Bool := x == 9 || (decide (32 ≤ x) && !(x == 127))
def eqI (x : Int) : Bool := x == 61

/-- Where the run of bytes that meet p and that opens at i ends. -/
def stop (p : Int → Bool) (bs : List UInt8) (i : Nat) : Nat := i + ((bs.drop i).takeWhile fun c => p (c.toNat : Int)).length

theorem drop_byt (bs : List UInt8) (i : Nat) (h : i < bs.length) : ∃ c, bs.drop i = c :: bs.drop (i + 1) ∧ (c.toNat : Int) = byt bs i := by
  refine ⟨bs[i], List.drop_eq_getElem_cons h, ?_⟩
  unfold byt
  rw [List.getD_eq_getElem?_getD, List.getElem?_eq_getElem h]
  rfl

theorem stop_end (p : Int → Bool) (bs : List UInt8) (i : Nat) (h : bs.length ≤ i) : stop p bs i = i := by
  unfold stop
  rw [List.drop_eq_nil_of_le h]
  rfl

theorem stop_yes (p : Int → Bool) (bs : List UInt8) (i : Nat) (h : i < bs.length) (hp : p (byt bs i) = true) : stop p bs i = stop p bs (i + 1) := by
  unfold stop
  obtain ⟨c, hc, hb⟩ := drop_byt bs i h
  rw [hc, List.takeWhile_cons, hb, hp]
  simp
  omega

theorem stop_no (p : Int → Bool) (bs : List UInt8) (i : Nat) (h : i < bs.length) (hp : p (byt bs i) = false) : stop p bs i = i := by
  unfold stop
  obtain ⟨c, hc, hb⟩ := drop_byt bs i h
  rw [hc, List.takeWhile_cons, hb, hp]
  simp

theorem stop_ge (p : Int → Bool) (bs : List UInt8) (i : Nat) : i ≤ stop p bs i := by unfold stop; omega
theorem stop_le (p : Int → Bool) (bs : List UInt8) (i : Nat) (h : i ≤ bs.length) : stop p bs i ≤ bs.length := by
  unfold stop
  have h1 : ((bs.drop i).takeWhile fun c => p (c.toNat : Int)).length ≤ (bs.drop i).length := by
    have h2 := List.takeWhile_append_dropWhile (p := fun c : UInt8 => p (c.toNat : Int)) (l := bs.drop i)
    have h3 := congrArg List.length h2
    rw [List.length_append] at h3
    omega
  rw [List.length_drop] at h1
  omega

/-- At the end of the run stands a byte that does not meet p, or nothing. -/
theorem stop_at (p : Int → Bool) (bs : List UInt8) : ∀ (d i : Nat), bs.length - i ≤ d → stop p bs i < bs.length → p (byt bs (stop p bs i)) = false
  | 0, i, hd, h => by
    rw [stop_end p bs i (by omega)] at h
    omega
  | d + 1, i, hd, h => by
    by_cases hi : i < bs.length
    · cases hp : p (byt bs i) with
      | false => rw [stop_no p bs i hi hp]; exact hp
      | true =>
        rw [stop_yes p bs i hi hp] at h ⊢
        exact stop_at p bs d (i + 1) (by omega) h
    · rw [stop_end p bs i (by omega)] at h
      omega

/-- Inside the run each byte meets p. -/
theorem stop_in (p : Int → Bool) (bs : List UInt8) : ∀ (d i j : Nat), bs.length - i ≤ d → i ≤ j → j < stop p bs i → j < bs.length → p (byt bs j) = true
  | 0, i, j, hd, h1, h2, h3 => by omega
  | d + 1, i, j, hd, h1, h2, h3 => by
    cases hp : p (byt bs i) with
    | false => rw [stop_no p bs i (by omega) hp] at h2; omega
    | true =>
      by_cases e : i = j
      · subst e; exact hp
      · rw [stop_yes p bs i (by omega) hp] at h2
        exact stop_in p bs d (i + 1) j (by omega) (by omega) h2 h3

/-- The bytes from k to e. -/
def fldOf (bs : List UInt8) (k e : Nat) : List UInt8 := (bs.drop k).take (e - k)
theorem fldOf_nil (bs : List UInt8) (k e : Nat) (h : e ≤ k) : fldOf bs k e = [] := by
  unfold fldOf
  rw [show e - k = 0 from by omega, List.take_zero]
theorem fldOf_length (bs : List UInt8) (k e : Nat) (he : e ≤ bs.length) : (fldOf bs k e).length = e - k := by
  unfold fldOf
  rw [List.length_take, List.length_drop]
  omega
theorem byt_fldOf (bs : List UInt8) (k e j : Nat) (h : j < e - k) : byt (fldOf bs k e) j = byt bs (k + j) := by
  unfold byt fldOf
  rw [List.getD_eq_getElem?_getD, List.getD_eq_getElem?_getD, List.getElem?_take_of_lt h, List.getElem?_drop]

/-- A string by its bytes. -/
def mk (l : List UInt8) : ByteArray := ⟨l.toArray⟩
theorem mk_data (l : List UInt8) : (mk l).data.toList = l := by unfold mk; rfl
theorem mk_size (l : List UInt8) : (mk l).size = l.length := by unfold mk; show l.toArray.size = _; simp
theorem eq_mk (s : ByteArray) : s = mk s.data.toList := by unfold mk; rfl
theorem size_data (s : ByteArray) : s.data.toList.length = s.size := by show _ = s.data.size; simp
theorem ext_data (s t : ByteArray) (h : s.data.toList = t.data.toList) : s = t := by
  rw [eq_mk s, eq_mk t, h]
theorem mk_inj (a b : List UInt8) (h : mk a = mk b) : a = b := by rw [← mk_data a, h, mk_data]
theorem mk_get (bs : List UInt8) (n : Nat) (h : n < (mk bs).size) : (((mk bs)[n]'h).toNat : Int) = byt bs n := by
  have h' : n < bs.length := by rw [mk_size] at h; exact h
  unfold byt
  rw [List.getD_eq_getElem?_getD, List.getElem?_eq_getElem h']
  rfl

end Go.Proofs.Qxb6613049aFmt
