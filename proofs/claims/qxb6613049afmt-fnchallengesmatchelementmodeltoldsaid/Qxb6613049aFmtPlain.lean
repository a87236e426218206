import Derived.Lib.Case
import Derived.Test.Qxb6613049aFmtText
namespace Go.Proofs.Qxb6613049aFmt

/-- A run in a window of the text is the text's run, cut at the window's end. -/
theorem stop_fld (p : Int → Bool) (bs : List UInt8) (a b : Nat) (hb : b ≤ bs.length) : ∀ (d i : Nat), b - i ≤ d → a ≤ i → i ≤ b → stop p (fldOf bs a b) (i - a) + a = min (stop p bs i) b
  | 0, i, hd, h1, h2 => by
    have e : i = b := by omega
    subst e
    rw [stop_end p _ _ (by rw [fldOf_length bs a i hb]; omega)]
    have := stop_ge p bs i
    omega
  | d + 1, i, hd, h1, h2 => by
    by_cases e : i < b
    · have hx : byt (fldOf bs a b) (i - a) = byt bs i := by rw [byt_fldOf bs a b (i - a) (by omega)]; congr 1; omega
      have hl : i - a < (fldOf bs a b).length := by rw [fldOf_length bs a b hb]; omega
      cases hp : p (byt bs i) with
      | false =>
        rw [stop_no p _ _ hl (by rw [hx]; exact hp), stop_no p bs i (by omega) hp]
        omega
      | true =>
        rw [stop_yes p _ _ hl (by rw [hx]; exact hp), stop_yes p bs i (by omega) hp, show i - a + 1 = i + 1 - a from by omega]
        exact stop_fld p bs a b hb d (i + 1) (by omega) (by omega) (by omega)
    · exact stop_fld p bs a b hb 0 i (by omega) h1 h2

theorem fld_fld (bs : List UInt8) (a b i j : Nat) (h1 : a ≤ i) (h2 : i ≤ j) (h3 : j ≤ b) : fldOf (fldOf bs a b) (i - a) (j - a) = fldOf bs i j := by
  unfold fldOf
  rw [List.drop_take, List.take_take, List.drop_drop, show a + (i - a) = i from by omega]
  congr 1
  omega

/-- Where the list element that is read at i ends: at the first comma outside quotes, or at the end of the text. -/
def Ef (bs : List UInt8) : Nat → Bool → Nat → Nat
  | 0, _, _ => bs.length
  | d + 1, q, i =>
    if i < bs.length then
      if q = true then
        if byt bs i = 92 ∧ i + 1 < bs.length then Ef bs d true (i + 2)
        else if byt bs i = 34 then Ef bs d false (i + 1) else Ef bs d true (i + 1)
      else if byt bs i = 34 then Ef bs d true (i + 1)
      else if byt bs i = 44 then i else Ef bs d false (i + 1)
    else bs.length
theorem Ef_more (bs : List UInt8) : ∀ (d : Nat) (q : Bool) (i : Nat), bs.length - i ≤ d → Ef bs (d + 1) q i = Ef bs d q i
  | 0, q, i, h => by
    show (if i < bs.length then _ else bs.length) = bs.length
    rw [if_neg (by omega)]
  | d + 1, q, i, h => by
    show (if i < bs.length then if q = true then if byt bs i = 92 ∧ i + 1 < bs.length then Ef bs (d + 1) true (i + 2) else if byt bs i = 34 then Ef bs (d + 1) false (i + 1) else Ef bs (d + 1) true (i + 1)
      else if byt bs i = 34 then Ef bs (d + 1) true (i + 1) else if byt bs i = 44 then i else Ef bs (d + 1) false (i + 1) else bs.length) = _
    rw [Ef_more bs d true (i + 2) (by omega), Ef_more bs d false (i + 1) (by omega), Ef_more bs d true (i + 1) (by omega)]
    rfl
theorem Ef_same (bs : List UInt8) : ∀ (d : Nat) (q : Bool) (i : Nat), bs.length - i ≤ d → Ef bs d q i = Ef bs (bs.length - i) q i
  | 0, q, i, h => by rw [show bs.length - i = 0 from by omega]
  | d + 1, q, i, h => by
    by_cases e : bs.length - i = d + 1
    · rw [e]
    · rw [Ef_more bs d q i (by omega)]
      exact Ef_same bs d q i (by omega)
def E (bs : List UInt8) (q : Bool) (i : Nat) : Nat := Ef bs (bs.length - i) q i
theorem E_eq (bs : List UInt8) (q : Bool) (i : Nat) : E bs q i =
    if i < bs.length then
      if q = true then
        if byt bs i = 92 ∧ i + 1 < bs.length then E bs true (i + 2)
        else if byt bs i = 34 then E bs false (i + 1) else E bs true (i + 1)
      else if byt bs i = 34 then E bs true (i + 1)
      else if byt bs i = 44 then i else E bs false (i + 1)
    else bs.length := by
  unfold E
  by_cases h : i < bs.length
  · rw [if_pos h]
    obtain ⟨d, hd⟩ : ∃ d, bs.length - i = d + 1 := ⟨bs.length - i - 1, by omega⟩
    rw [hd, ← Ef_same bs d true (i + 2) (by omega), ← Ef_same bs d false (i + 1) (by omega), ← Ef_same bs d true (i + 1) (by omega)]
    show (if i < bs.length then _ else bs.length) = _
    rw [if_pos h]
  · rw [if_neg h, show bs.length - i = 0 from by omega]
    rfl

theorem E_end (bs : List UInt8) (q : Bool) (i : Nat) (h : bs.length ≤ i) : E bs q i = bs.length := by
  rw [E_eq, if_neg (by omega)]
theorem E_t (bs : List UInt8) (i : Nat) (h : i < bs.length) : E bs true i = if byt bs i = 92 ∧ i + 1 < bs.length then E bs true (i + 2) else if byt bs i = 34 then E bs false (i + 1) else E bs true (i + 1) := by
  rw [E_eq, if_pos h, if_pos rfl]
theorem E_f (bs : List UInt8) (i : Nat) (h : i < bs.length) : E bs false i = if byt bs i = 34 then E bs true (i + 1) else if byt bs i = 44 then i else E bs false (i + 1) := by
  rw [E_eq, if_pos h, if_neg (by simp)]

theorem E_bounds (bs : List UInt8) : ∀ (d i : Nat) (q : Bool), bs.length - i ≤ d → i ≤ bs.length → i ≤ E bs q i ∧ E bs q i ≤ bs.length ∧ (E bs q i < bs.length → byt bs (E bs q i) = 44)
  | 0, i, q, hd, hi => by
    rw [E_end bs q i (by omega)]
    exact ⟨hi, Nat.le_refl _, fun h => by omega⟩
  | d + 1, i, q, hd, hi => by
    by_cases h : i < bs.length
    · cases q with
      | true =>
        rw [E_t bs i h]
        by_cases h1 : byt bs i = 92 ∧ i + 1 < bs.length
        · rw [if_pos h1]
          have := E_bounds bs d (i + 2) true (by omega) (by omega)
          exact ⟨by omega, this.2⟩
        · rw [if_neg h1]
          by_cases h2 : byt bs i = 34
          · rw [if_pos h2]
            have := E_bounds bs d (i + 1) false (by omega) (by omega)
            exact ⟨by omega, this.2⟩
          · rw [if_neg h2]
            have := E_bounds bs d (i + 1) true (by omega) (by omega)
            exact ⟨by omega, this.2⟩
      | false =>
        rw [E_f bs i h]
        by_cases h1 : byt bs i = 34
        · rw [if_pos h1]
          have := E_bounds bs d (i + 1) true (by omega) (by omega)
          exact ⟨by omega, this.2⟩
        · rw [if_neg h1]
          by_cases h2 : byt bs i = 44
          · rw [if_pos h2]
            exact ⟨Nat.le_refl _, by omega, fun _ => h2⟩
          · rw [if_neg h2]
            have := E_bounds bs d (i + 1) false (by omega) (by omega)
            exact ⟨by omega, this.2⟩
    · exact E_bounds bs 0 i q (by omega) hi
theorem E_ge (bs : List UInt8) (i : Nat) (q : Bool) (h : i ≤ bs.length) : i ≤ E bs q i := (E_bounds bs _ i q (Nat.le_refl _) h).1
theorem E_le (bs : List UInt8) (i : Nat) (q : Bool) : E bs q i ≤ bs.length := by
  by_cases h : i ≤ bs.length
  · exact (E_bounds bs _ i q (Nat.le_refl _) h).2.1
  · rw [E_end bs q i (by omega)]
    exact Nat.le_refl _
theorem E_at (bs : List UInt8) (i : Nat) (q : Bool) (h : i ≤ bs.length) : E bs q i < bs.length → byt bs (E bs q i) = 44 := (E_bounds bs _ i q (Nat.le_refl _) h).2.2

/-- The element's end, by a look at the byte: nothing more, or a comma. -/
abbrev En (bs : List UInt8) (x : Nat) : Prop := bs.length ≤ x ∨ byt bs x = 44
theorem En_iff (bs : List UInt8) (x b : Nat) (hx : x ≤ bs.length) (h : E bs false x = b) : x = b ↔ En bs x := by
  unfold En
  constructor
  · intro e
    by_cases hn : x < bs.length
    · refine .inr ?_
      have := E_at bs x false hx
      rw [h, ← e] at this
      exact this hn
    · exact .inl (by omega)
  · rintro (h1 | h1)
    · rw [E_end bs false x h1] at h
      omega
    · by_cases hn : x < bs.length
      · rw [E_f bs x hn, if_neg (by omega), if_pos h1] at h
        exact h
      · rw [E_end bs false x (by omega)] at h
        omega

/-- A run of bytes that are neither comma nor quote stays in its element. -/
theorem stop_E (p : Int → Bool) (hc : p 44 = false) (hq : p 34 = false) (bs : List UInt8) : ∀ (d i : Nat), bs.length - i ≤ d → E bs false (stop p bs i) = E bs false i
  | 0, i, hd => by rw [stop_end p bs i (by omega)]
  | d + 1, i, hd => by
    by_cases h : i < bs.length
    · cases hp : p (byt bs i) with
      | false => rw [stop_no p bs i h hp]
      | true =>
        rw [stop_yes p bs i h hp, stop_E p hc hq bs d (i + 1) (by omega), E_f bs i h, if_neg (fun e => by rw [e, hq] at hp; cases hp), if_neg (fun e => by rw [e, hc] at hp; cases hp)]
    · rw [stop_end p bs i (by omega)]
theorem stop_b (p : Int → Bool) (hc : p 44 = false) (hq : p 34 = false) (bs : List UInt8) (i b : Nat) (hi : i ≤ bs.length) (h : E bs false i = b) : E bs false (stop p bs i) = b ∧ stop p bs i ≤ b ∧ i ≤ stop p bs i ∧ stop p bs i ≤ bs.length := by
  have h1 := stop_E p hc hq bs _ i (Nat.le_refl _)
  have h2 := stop_le p bs i hi
  have h3 := E_ge bs (stop p bs i) false h2
  rw [h1, h] at h3
  exact ⟨h1.trans h, h3, stop_ge p bs i, h2⟩
/-- In the window: the text's own run. -/
theorem stop_w (p : Int → Bool) (hc : p 44 = false) (hq : p 34 = false) (bs : List UInt8) (a b i : Nat) (hi : i ≤ bs.length) (ha : a ≤ i) (h : E bs false i = b) : stop p (fldOf bs a b) (i - a) = stop p bs i - a := by
  have hb : b ≤ bs.length := by rw [← h]; exact E_le bs i false
  have hib : i ≤ b := by rw [← h]; exact E_ge bs i false hi
  have h1 := stop_fld p bs a b hb _ i (Nat.le_refl _) ha hib
  have h2 := (stop_b p hc hq bs i b hi h).2.1
  omega

/-- The quoted string from i on: its bytes without escapes, and where it ends. -/
def qsF (bs : List UInt8) : Nat → Nat → List UInt8 → Option (List UInt8 × Nat)
  | 0, _, _ => none
  | d + 1, i, acc =>
    if i < bs.length then
      if byt bs i = 34 then some (acc, i + 1)
      else if byt bs i = 92 ∧ i + 1 < bs.length then
        if qbI (byt bs (i + 1)) = true then qsF bs d (i + 2) (acc ++ [bs.getD (i + 1) 0]) else none
      else if qbI (byt bs i) = true then qsF bs d (i + 1) (acc ++ [bs.getD i 0]) else none
    else none
theorem qsF_more (bs : List UInt8) : ∀ (d i : Nat) (acc : List UInt8), bs.length - i ≤ d → qsF bs (d + 1) i acc = qsF bs d i acc
  | 0, i, acc, h => by
    show (if i < bs.length then _ else none) = none
    rw [if_neg (by omega)]
  | d + 1, i, acc, h => by
    show (if i < bs.length then if byt bs i = 34 then some (acc, i + 1) else if byt bs i = 92 ∧ i + 1 < bs.length then if qbI (byt bs (i + 1)) = true then qsF bs (d + 1) (i + 2) (acc ++ [bs.getD (i + 1) 0]) else none
      else if qbI (byt bs i) = true then qsF bs (d + 1) (i + 1) (acc ++ [bs.getD i 0]) else none else none) = _
    rw [qsF_more bs d (i + 2) _ (by omega), qsF_more bs d (i + 1) _ (by omega)]
    rfl
theorem qsF_same (bs : List UInt8) : ∀ (d i : Nat) (acc : List UInt8), bs.length - i ≤ d → qsF bs d i acc = qsF bs (bs.length - i) i acc
  | 0, i, acc, h => by rw [show bs.length - i = 0 from by omega]
  | d + 1, i, acc, h => by
    by_cases e : bs.length - i = d + 1
    · rw [e]
    · rw [qsF_more bs d i acc (by omega)]
      exact qsF_same bs d i acc (by omega)
def qs (bs : List UInt8) (i : Nat) (acc : List UInt8) : Option (List UInt8 × Nat) := qsF bs (bs.length - i) i acc
theorem qs_eq (bs : List UInt8) (i : Nat) (acc : List UInt8) : qs bs i acc =
    if i < bs.length then
      if byt bs i = 34 then some (acc, i + 1)
      else if byt bs i = 92 ∧ i + 1 < bs.length then
        if qbI (byt bs (i + 1)) = true then qs bs (i + 2) (acc ++ [bs.getD (i + 1) 0]) else none
      else if qbI (byt bs i) = true then qs bs (i + 1) (acc ++ [bs.getD i 0]) else none
    else none := by
  unfold qs
  by_cases h : i < bs.length
  · rw [if_pos h]
    obtain ⟨d, hd⟩ : ∃ d, bs.length - i = d + 1 := ⟨bs.length - i - 1, by omega⟩
    rw [hd, ← qsF_same bs d (i + 2) _ (by omega), ← qsF_same bs d (i + 1) _ (by omega)]
    show (if i < bs.length then _ else none) = _
    rw [if_pos h]
  · rw [if_neg h, show bs.length - i = 0 from by omega]
    rfl

theorem qs_end (bs : List UInt8) (i : Nat) (acc : List UInt8) (h : bs.length ≤ i) : qs bs i acc = none := by
  rw [qs_eq, if_neg (by omega)]
theorem qs_in (bs : List UInt8) (i : Nat) (acc : List UInt8) (h : i < bs.length) : qs bs i acc = if byt bs i = 34 then some (acc, i + 1)
    else if byt bs i = 92 ∧ i + 1 < bs.length then
      if qbI (byt bs (i + 1)) = true then qs bs (i + 2) (acc ++ [bs.getD (i + 1) 0]) else none
    else if qbI (byt bs i) = true then qs bs (i + 1) (acc ++ [bs.getD i 0]) else none := by
  rw [qs_eq, if_pos h]

theorem qs_ge (bs : List UInt8) : ∀ (d i : Nat) (acc v : List UInt8) (j : Nat), bs.length - i ≤ d → qs bs i acc = some (v, j) → i < j ∧ j ≤ bs.length ∧ v.length + i ≤ acc.length + j
  | 0, i, acc, v, j, hd, h => by rw [qs_end bs i acc (by omega)] at h; cases h
  | d + 1, i, acc, v, j, hd, h => by
    by_cases hi : i < bs.length
    · rw [qs_in bs i acc hi] at h
      by_cases h1 : byt bs i = 34
      · rw [if_pos h1] at h
        injection h with h
        injection h with e1 e2
        subst e1 e2
        omega
      · rw [if_neg h1] at h
        by_cases h2 : byt bs i = 92 ∧ i + 1 < bs.length
        · rw [if_pos h2] at h
          by_cases h3 : qbI (byt bs (i + 1)) = true
          · rw [if_pos h3] at h
            have := qs_ge bs d (i + 2) _ v j (by omega) h
            rw [List.length_append, List.length_singleton] at this
            omega
          · rw [if_neg h3] at h; cases h
        · rw [if_neg h2] at h
          by_cases h3 : qbI (byt bs i) = true
          · rw [if_pos h3] at h
            have := qs_ge bs d (i + 1) _ v j (by omega) h
            rw [List.length_append, List.length_singleton] at this
            omega
          · rw [if_neg h3] at h; cases h
    · rw [qs_end bs i acc (by omega)] at h; cases h

theorem getD_fld (bs : List UInt8) (a b i : Nat) (h1 : a ≤ i) (h2 : i < b) : (fldOf bs a b).getD (i - a) 0 = bs.getD i 0 := by
  unfold fldOf
  rw [List.getD_eq_getElem?_getD, List.getD_eq_getElem?_getD, List.getElem?_take_of_lt (by omega), List.getElem?_drop, show a + (i - a) = i from by omega]

/-- A quoted string ends in its element; in the window it reads alike. -/
theorem qs_w (bs : List UInt8) (a b : Nat) : ∀ (d i : Nat) (acc : List UInt8), bs.length - i ≤ d → a ≤ i → i ≤ bs.length → E bs true i = b →
    qs (fldOf bs a b) (i - a) acc = (qs bs i acc).map (fun x => (x.1, x.2 - a)) ∧ ∀ v j, qs bs i acc = some (v, j) → E bs false j = b
  | 0, i, acc, hd, ha, hi, h => by
    have hb : b ≤ bs.length := by rw [← h]; exact E_le bs i true
    rw [qs_end bs i acc (by omega), qs_end _ _ acc (by rw [fldOf_length bs a b hb]; omega)]
    exact ⟨rfl, fun v j h => by cases h⟩
  | d + 1, i, acc, hd, ha, hi, h => by
    have hb : b ≤ bs.length := by rw [← h]; exact E_le bs i true
    by_cases hn : i < bs.length
    · have h' := h
      rw [E_t bs i hn] at h'
      have hx : ∀ k, a ≤ k → k < b → byt (fldOf bs a b) (k - a) = byt bs k := fun k h1 h2 => by
        rw [byt_fldOf bs a b (k - a) (by omega)]; congr 1; omega
      have hlt : i + 1 ≤ b := by
        by_cases h1 : byt bs i = 92 ∧ i + 1 < bs.length
        · rw [if_pos h1] at h'
          have := E_ge bs (i + 2) true (by omega)
          omega
        · rw [if_neg h1] at h'
          by_cases h2 : byt bs i = 34
          · rw [if_pos h2] at h'
            have := E_ge bs (i + 1) false (by omega)
            omega
          · rw [if_neg h2] at h'
            have := E_ge bs (i + 1) true (by omega)
            omega
      have hl : (fldOf bs a b).length = b - a := fldOf_length bs a b hb
      rw [qs_in bs i acc hn, qs_in _ _ acc (show i - a < (fldOf bs a b).length by omega), hx i ha (by omega)]
      by_cases h2 : byt bs i = 34
      · rw [if_pos h2, if_pos h2]
        rw [if_neg (by omega), if_pos h2] at h'
        refine ⟨?_, ?_⟩
        · simp only [Option.map_some]
          rw [show i - a + 1 = i + 1 - a from by omega]
        · intro v j e
          injection e with e
          injection e with e1 e2
          subst e2
          exact h'
      · rw [if_neg h2, if_neg h2]
        by_cases h1 : byt bs i = 92 ∧ i + 1 < bs.length
        · rw [if_pos h1] at h'
          have hge := E_ge bs (i + 2) true (by omega)
          rw [if_pos h1, if_pos ⟨h1.1, by omega⟩, show i - a + 1 = i + 1 - a from by omega, hx (i + 1) (by omega) (by omega)]
          by_cases h3 : qbI (byt bs (i + 1)) = true
          · rw [if_pos h3, if_pos h3, show i - a + 2 = i + 2 - a from by omega, getD_fld bs a b (i + 1) (by omega) (by omega)]
            exact qs_w bs a b d (i + 2) _ (by omega) (by omega) (by omega) h'
          · rw [if_neg h3, if_neg h3]
            exact ⟨rfl, fun v j e => by cases e⟩
        · rw [if_neg h1, if_neg h2] at h'
          have hno : ¬ (byt bs i = 92 ∧ i - a + 1 < (fldOf bs a b).length) := by
            rintro ⟨e1, e2⟩
            exact h1 ⟨e1, by omega⟩
          rw [if_neg h1, if_neg hno]
          by_cases h3 : qbI (byt bs i) = true
          · rw [if_pos h3, if_pos h3, show i - a + 1 = i + 1 - a from by omega, getD_fld bs a b i ha (by omega)]
            exact qs_w bs a b d (i + 1) _ (by omega) (by omega) (by omega) h'
          · rw [if_neg h3, if_neg h3]
            exact ⟨rfl, fun v j e => by cases e⟩
    · exact qs_w bs a b 0 i acc (by omega) ha hi h

/-- A parameter's value at d: a quoted string or a token, and where it ends. -/
def PV (bs : List UInt8) (d : Nat) : Option (List UInt8 × Nat) :=
  if d < bs.length ∧ byt bs d = 34 then qs bs (d + 1) []
  else if stop tcI bs d = d then none else some (fldOf bs d (stop tcI bs d), stop tcI bs d)

theorem PV_w (bs : List UInt8) (a b d : Nat) (ha : a ≤ d) (hd : d ≤ bs.length) (h : E bs false d = b) :
    PV (fldOf bs a b) (d - a) = (PV bs d).map (fun x => (x.1, x.2 - a)) ∧ ∀ v j, PV bs d = some (v, j) → E bs false j = b ∧ d < j ∧ j ≤ bs.length := by
  have hb : b ≤ bs.length := by rw [← h]; exact E_le bs d false
  have hdb : d ≤ b := by rw [← h]; exact E_ge bs d false hd
  have hl : (fldOf bs a b).length = b - a := fldOf_length bs a b hb
  unfold PV
  by_cases h1 : d < bs.length ∧ byt bs d = 34
  · have h2 := h
    rw [E_f bs d h1.1, if_pos h1.2] at h2
    have h3 := E_ge bs (d + 1) true (by omega)
    have hx : byt (fldOf bs a b) (d - a) = byt bs d := by rw [byt_fldOf bs a b (d - a) (by omega)]; congr 1; omega
    rw [if_pos h1, if_pos ⟨by omega, by rw [hx]; exact h1.2⟩, show d - a + 1 = d + 1 - a from by omega]
    obtain ⟨k1, k2⟩ := qs_w bs a b _ (d + 1) [] (Nat.le_refl _) (by omega) (by omega) h2
    refine ⟨k1, fun v j e => ?_⟩
    have := qs_ge bs _ (d + 1) [] v j (Nat.le_refl _) e
    exact ⟨k2 v j e, by omega, this.2.1⟩
  · have hno : ¬ (d - a < (fldOf bs a b).length ∧ byt (fldOf bs a b) (d - a) = 34) := by
      rintro ⟨e1, e2⟩
      have hx : byt (fldOf bs a b) (d - a) = byt bs d := by rw [byt_fldOf bs a b (d - a) (by omega)]; congr 1; omega
      exact h1 ⟨by omega, by rw [← hx]; exact e2⟩
    obtain ⟨s1, s2, s3, s4⟩ := stop_b tcI (by decide) (by decide) bs d b hd h
    rw [if_neg h1, if_neg hno, stop_w tcI (by decide) (by decide) bs a b d hd ha h]
    by_cases h2 : stop tcI bs d = d
    · rw [if_pos h2, if_pos (by omega)]
      exact ⟨rfl, fun v j e => by cases e⟩
    · rw [if_neg h2, if_neg (by omega), fld_fld bs a b d _ ha s3 s2]
      refine ⟨rfl, fun v j e => ?_⟩
      injection e with e
      injection e with e1 e2
      subst e2
      exact ⟨s1, by omega, s4⟩

end Go.Proofs.Qxb6613049aFmt
