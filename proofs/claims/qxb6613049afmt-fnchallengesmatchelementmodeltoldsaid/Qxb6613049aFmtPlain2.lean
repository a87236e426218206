import Derived.Test.Qxb6613049aFmtPlain
namespace Go.Proofs.Qxb6613049aFmt

/-- One list element. -/
abbrev Elem : Type := Option (Option ((List UInt8 × List UInt8) ⊕ (List UInt8 × Bool) ⊕ (List UInt8 × List UInt8) ⊕ (List UInt8 × List UInt8 × List UInt8)))
abbrev Elem.empty : Elem := none
abbrev Elem.bad : Elem := some none
abbrev Elem.param (name value : List UInt8) : Elem := some (some (.inl (name, value)))
abbrev Elem.scheme (s : List UInt8) (op : Bool) : Elem := some (some (.inr (.inl (s, op))))
abbrev Elem.tok (s t : List UInt8) : Elem := some (some (.inr (.inr (.inl (s, t)))))
abbrev Elem.sparam (s name value : List UInt8) : Elem := some (some (.inr (.inr (.inr (s, name, value)))))

/-- A challenge: its parameters in order, names in small letters. -/
structure Chal where
  scheme : List UInt8
  tok : List UInt8
  ps : List (List UInt8 × List UInt8)

/-- White space, a value, white space, and then the element's end b. -/
def pv (bs : List UInt8) (q b : Nat) : Option (List UInt8) :=
  match PV bs (stop spI bs q) with
  | none => none
  | some (v, j) => if stop spI bs j = b then some v else none
/-- The end of the characters and of the equals signs of a token68 at k. -/
def t6m (bs : List UInt8) (k : Nat) : Nat := stop t6I bs k
def t6e (bs : List UInt8) (k : Nat) : Nat := stop eqI bs (t6m bs k)
def t68 (bs : List UInt8) (k b : Nat) : Option (List UInt8) :=
  if t6m bs k = k then none else if stop spI bs (t6e bs k) = b then some (fldOf bs k (t6e bs k)) else none

/-- A scheme that stands from i to j, white space to k, and then something: what it is. -/
def cls2 (bs : List UInt8) (i j k b : Nat) : Elem :=
  match t68 bs k b with
  | some t => Elem.tok (fldOf bs i j) t
  | none =>
    if stop tcI bs k = k then Elem.bad
    else if stop spI bs (stop tcI bs k) = b ∨ byt bs (stop spI bs (stop tcI bs k)) ≠ 61 then Elem.bad
    else match pv bs (stop spI bs (stop tcI bs k) + 1) b with
      | none => Elem.bad
      | some v => Elem.sparam (fldOf bs i j) (fldOf bs k (stop tcI bs k)) v
/-- What the element is whose first byte that is no white space stands at i. -/
def cls1 (bs : List UInt8) (i j k b : Nat) : Elem :=
  if i = b then Elem.empty
  else if j = i then Elem.bad
  else if k = b then Elem.scheme (fldOf bs i j) (decide (j < k))
  else if byt bs k = 61 then
    match pv bs (k + 1) b with
    | none => Elem.bad
    | some v => Elem.param (fldOf bs i j) v
  else if k = j then Elem.bad
  else cls2 bs i j k b
/-- What the element from a to b is. -/
def cls (bs : List UInt8) (a b : Nat) : Elem := cls1 bs (stop spI bs a) (stop tcI bs (stop spI bs a)) (stop spI bs (stop tcI bs (stop spI bs a))) b

theorem spC : spI 44 = false := by decide
theorem spQ : spI 34 = false := by decide
theorem tcC : tcI 44 = false := by decide
theorem tcQ : tcI 34 = false := by decide
theorem t6C : t6I 44 = false := by decide
theorem t6Q : t6I 34 = false := by decide
theorem eqC : eqI 44 = false := by decide
theorem eqQ : eqI 34 = false := by decide

theorem pv_w (bs : List UInt8) (a b q : Nat) (ha : a ≤ q) (hq : q ≤ bs.length) (h : E bs false q = b) : pv (fldOf bs a b) (q - a) (b - a) = pv bs q b := by
  obtain ⟨s1, s2, s3, s4⟩ := stop_b spI spC spQ bs q b hq h
  obtain ⟨p1, p2⟩ := PV_w bs a b (stop spI bs q) (by omega) s4 s1
  unfold pv
  rw [stop_w spI spC spQ bs a b q hq ha h, p1]
  cases e : PV bs (stop spI bs q) with
  | none => rfl
  | some x =>
    obtain ⟨v, j⟩ := x
    obtain ⟨j1, j2, j3⟩ := p2 v j e
    have hj := stop_b spI spC spQ bs j b j3 j1
    show (if stop spI (fldOf bs a b) (j - a) = b - a then some v else none) = if stop spI bs j = b then some v else none
    rw [stop_w spI spC spQ bs a b j j3 (by omega) j1]
    by_cases e2 : stop spI bs j = b
    · rw [if_pos e2, if_pos (by omega)]
    · rw [if_neg e2, if_neg (by omega)]

theorem t6_b (bs : List UInt8) (k b : Nat) (hk : k ≤ bs.length) (h : E bs false k = b) :
    (E bs false (t6m bs k) = b ∧ t6m bs k ≤ b ∧ k ≤ t6m bs k ∧ t6m bs k ≤ bs.length) ∧ (E bs false (t6e bs k) = b ∧ t6e bs k ≤ b ∧ t6m bs k ≤ t6e bs k ∧ t6e bs k ≤ bs.length) ∧
    (E bs false (stop spI bs (t6e bs k)) = b ∧ stop spI bs (t6e bs k) ≤ b ∧ t6e bs k ≤ stop spI bs (t6e bs k) ∧ stop spI bs (t6e bs k) ≤ bs.length) := by
  have h1 := stop_b t6I t6C t6Q bs k b hk h
  have h2 := stop_b eqI eqC eqQ bs (t6m bs k) b h1.2.2.2 h1.1
  exact ⟨h1, h2, stop_b spI spC spQ bs (t6e bs k) b h2.2.2.2 h2.1⟩

theorem t68_w (bs : List UInt8) (a b k : Nat) (ha : a ≤ k) (hk : k ≤ bs.length) (h : E bs false k = b) : t68 (fldOf bs a b) (k - a) (b - a) = t68 bs k b := by
  obtain ⟨h1, h2, h3⟩ := t6_b bs k b hk h
  have e1 : t6m (fldOf bs a b) (k - a) = t6m bs k - a := stop_w t6I t6C t6Q bs a b k hk ha h
  have e2 : t6e (fldOf bs a b) (k - a) = t6e bs k - a := by
    unfold t6e
    rw [e1]
    exact stop_w eqI eqC eqQ bs a b _ h1.2.2.2 (by omega) h1.1
  unfold t68
  rw [e1, e2, stop_w spI spC spQ bs a b _ h2.2.2.2 (by omega) h2.1, fld_fld bs a b k _ ha (by omega) (by omega)]
  by_cases c1 : t6m bs k = k
  · rw [if_pos c1, if_pos (by omega)]
  · rw [if_neg c1, if_neg (by omega)]
    by_cases c2 : stop spI bs (t6e bs k) = b
    · rw [if_pos c2, if_pos (by omega)]
    · rw [if_neg c2, if_neg (by omega)]

theorem cls2_w (bs : List UInt8) (a b i j k : Nat) (ha : a ≤ i) (hij : i ≤ j) (hjk : j ≤ k) (hk : k ≤ bs.length) (h : E bs false k = b) : cls2 (fldOf bs a b) (i - a) (j - a) (k - a) (b - a) = cls2 bs i j k b := by
  have hkb : k ≤ b := by rw [← h]; exact E_ge bs k false hk
  have h1 := stop_b tcI tcC tcQ bs k b hk h
  have h2 := stop_b spI spC spQ bs (stop tcI bs k) b h1.2.2.2 h1.1
  unfold cls2
  rw [t68_w bs a b k (by omega) hk h, fld_fld bs a b i j ha hij (by omega)]
  cases t68 bs k b with
  | some t => rfl
  | none =>
    show (if stop tcI (fldOf bs a b) (k - a) = k - a then Elem.bad else _) = if stop tcI bs k = k then Elem.bad else _
    rw [stop_w tcI tcC tcQ bs a b k hk (by omega) h, stop_w spI spC spQ bs a b _ h1.2.2.2 (by omega) h1.1]
    by_cases c1 : stop tcI bs k = k
    · rw [if_pos c1, if_pos (by omega)]
    · rw [if_neg c1, if_neg (by omega)]
      by_cases c2 : stop spI bs (stop tcI bs k) = b
      · rw [if_pos (.inl (by omega)), if_pos (.inl c2)]
      · have hx : byt (fldOf bs a b) (stop spI bs (stop tcI bs k) - a) = byt bs (stop spI bs (stop tcI bs k)) := by
          rw [byt_fldOf bs a b _ (by omega)]; congr 1; omega
        by_cases c3 : byt bs (stop spI bs (stop tcI bs k)) ≠ 61
        · rw [if_pos (.inr (by rw [hx]; exact c3)), if_pos (.inr c3)]
        · have c4 : byt bs (stop spI bs (stop tcI bs k)) = 61 := Decidable.not_not.mp c3
          rw [if_neg (by rw [hx]; rintro (e | e) <;> omega), if_neg (by rintro (e | e) <;> omega)]
          have h3 := h2.1
          rw [E_f bs _ (by have := E_le bs k false; omega), if_neg (by omega), if_neg (by omega)] at h3
          rw [show stop spI bs (stop tcI bs k) - a + 1 = stop spI bs (stop tcI bs k) + 1 - a from by omega, pv_w bs a b _ (by omega) (by have := E_le bs k false; omega) h3, fld_fld bs a b k _ (by omega) (by omega) (by omega)]

theorem cls_w (bs : List UInt8) (a b : Nat) (ha : a ≤ bs.length) (h : E bs false a = b) : cls (fldOf bs a b) 0 (b - a) = cls bs a b := by
  have hb : b ≤ bs.length := by rw [← h]; exact E_le bs a false
  have h1 := stop_b spI spC spQ bs a b ha h
  have h2 := stop_b tcI tcC tcQ bs _ b h1.2.2.2 h1.1
  have h3 := stop_b spI spC spQ bs _ b h2.2.2.2 h2.1
  have e1 : stop spI (fldOf bs a b) 0 = stop spI bs a - a := by
    have := stop_w spI spC spQ bs a b a ha (Nat.le_refl _) h
    rw [Nat.sub_self] at this
    exact this
  unfold cls
  rw [e1, stop_w tcI tcC tcQ bs a b _ h1.2.2.2 (by omega) h1.1, stop_w spI spC spQ bs a b _ h2.2.2.2 (by omega) h2.1]
  generalize hi : stop spI bs a = i at *
  generalize hj : stop tcI bs i = j at *
  generalize hk : stop spI bs j = k at *
  unfold cls1
  rw [cls2_w bs a b i j k (by omega) (by omega) (by omega) (by omega) h3.1, fld_fld bs a b i j (by omega) (by omega) (by omega)]
  by_cases c1 : i = b
  · rw [if_pos c1, if_pos (by omega)]
  · rw [if_neg c1, if_neg (by omega)]
    by_cases c2 : j = i
    · rw [if_pos c2, if_pos (by omega)]
    · rw [if_neg c2, if_neg (by omega)]
      by_cases c3 : k = b
      · rw [if_pos c3, if_pos (by omega)]
        by_cases c4 : j < k
        · rw [decide_eq_true c4, decide_eq_true (by omega)]
        · rw [decide_eq_false c4, decide_eq_false (by omega)]
      · have hx : byt (fldOf bs a b) (k - a) = byt bs k := by rw [byt_fldOf bs a b _ (by omega)]; congr 1; omega
        rw [if_neg c3, if_neg (by omega), hx]
        by_cases c4 : byt bs k = 61
        · have h4 := h3.1
          rw [E_f bs k (by omega), if_neg (by omega), if_neg (by omega)] at h4
          rw [if_pos c4, if_pos c4, show k - a + 1 = k + 1 - a from by omega, pv_w bs a b _ (by omega) (by omega) h4]
        · rw [if_neg c4, if_neg c4]
          by_cases c5 : k = j
          · rw [if_pos c5, if_pos (by omega)]
          · rw [if_neg c5, if_neg (by omega)]

/-- A parameter joins the last challenge, if that does not have it yet. -/
def addP (out : List Chal) (nm v : List UInt8) : Option (List Chal) :=
  match out.getLast? with
  | none => none
  | some c => if c.ps.any (fun x => x.1 == nm) = true then none else some (out.dropLast ++ [{ c with ps := c.ps ++ [(nm, v)] }])
theorem addP_last (cs : List Chal) (c : Chal) (nm v : List UInt8) : addP (cs ++ [c]) nm v = if c.ps.any (fun x => x.1 == nm) = true then none else some (cs ++ [{ c with ps := c.ps ++ [(nm, v)] }]) := by
  unfold addP
  rw [List.getLast?_concat, List.dropLast_concat]

/-- The model's step at one element: is the last challenge open, and what stands so far. -/
def stepEl : Elem → Bool → List Chal → Option (Bool × List Chal)
  | none, o, out => some (o, out)
  | some none, _, _ => none
  | some (some (.inl (nm, v))), o, out =>
    if o = true then
      match addP out (Lib.toLowerA nm) v with
      | none => none
      | some out' => some (true, out')
    else none
  | some (some (.inr (.inl (s, op)))), _, out => some (op, out ++ [⟨s, [], []⟩])
  | some (some (.inr (.inr (.inl (s, t))))), _, out => some (false, out ++ [⟨s, t, []⟩])
  | some (some (.inr (.inr (.inr (s, nm, v))))), _, out => some (true, out ++ [⟨s, [], [(Lib.toLowerA nm, v)]⟩])

/-- The model over a list of elements. -/
def run : List Elem → Bool → List Chal → Option (List Chal)
  | [], _, out => some out
  | e :: es, o, out =>
    match stepEl e o out with
    | none => none
    | some (o', out') => run es o' out'

/-- The elements, by their bounds, of the text from i on, the first of which opens at s. -/
def Sf (bs : List UInt8) : Nat → Bool → Nat → Nat → List (Nat × Nat)
  | 0, _, s, _ => [(s, bs.length)]
  | d + 1, q, s, i =>
    if i < bs.length then
      if q = true then
        if byt bs i = 92 ∧ i + 1 < bs.length then Sf bs d true s (i + 2)
        else if byt bs i = 34 then Sf bs d false s (i + 1) else Sf bs d true s (i + 1)
      else if byt bs i = 34 then Sf bs d true s (i + 1)
      else if byt bs i = 44 then (s, i) :: Sf bs d false (i + 1) (i + 1) else Sf bs d false s (i + 1)
    else [(s, bs.length)]
theorem Sf_more (bs : List UInt8) : ∀ (d : Nat) (q : Bool) (s i : Nat), bs.length - i ≤ d → Sf bs (d + 1) q s i = Sf bs d q s i
  | 0, q, s, i, h => by
    show (if i < bs.length then _ else [(s, bs.length)]) = [(s, bs.length)]
    rw [if_neg (by omega)]
  | d + 1, q, s, i, h => by
    show (if i < bs.length then if q = true then if byt bs i = 92 ∧ i + 1 < bs.length then Sf bs (d + 1) true s (i + 2) else if byt bs i = 34 then Sf bs (d + 1) false s (i + 1) else Sf bs (d + 1) true s (i + 1)
      else if byt bs i = 34 then Sf bs (d + 1) true s (i + 1) else if byt bs i = 44 then (s, i) :: Sf bs (d + 1) false (i + 1) (i + 1) else Sf bs (d + 1) false s (i + 1) else [(s, bs.length)]) = _
    rw [Sf_more bs d true s (i + 2) (by omega), Sf_more bs d false s (i + 1) (by omega), Sf_more bs d true s (i + 1) (by omega), Sf_more bs d false (i + 1) (i + 1) (by omega)]
    rfl
theorem Sf_same (bs : List UInt8) : ∀ (d : Nat) (q : Bool) (s i : Nat), bs.length - i ≤ d → Sf bs d q s i = Sf bs (bs.length - i) q s i
  | 0, q, s, i, h => by rw [show bs.length - i = 0 from by omega]
  | d + 1, q, s, i, h => by
    by_cases e : bs.length - i = d + 1
    · rw [e]
    · rw [Sf_more bs d q s i (by omega)]
      exact Sf_same bs d q s i (by omega)
def S (bs : List UInt8) (q : Bool) (s i : Nat) : List (Nat × Nat) := Sf bs (bs.length - i) q s i
theorem S_eq (bs : List UInt8) (q : Bool) (s i : Nat) : S bs q s i =
    if i < bs.length then
      if q = true then
        if byt bs i = 92 ∧ i + 1 < bs.length then S bs true s (i + 2)
        else if byt bs i = 34 then S bs false s (i + 1) else S bs true s (i + 1)
      else if byt bs i = 34 then S bs true s (i + 1)
      else if byt bs i = 44 then (s, i) :: S bs false (i + 1) (i + 1) else S bs false s (i + 1)
    else [(s, bs.length)] := by
  unfold S
  by_cases h : i < bs.length
  · rw [if_pos h]
    obtain ⟨d, hd⟩ : ∃ d, bs.length - i = d + 1 := ⟨bs.length - i - 1, by omega⟩
    rw [hd, ← Sf_same bs d true s (i + 2) (by omega), ← Sf_same bs d false s (i + 1) (by omega), ← Sf_same bs d true s (i + 1) (by omega), ← Sf_same bs d false (i + 1) (i + 1) (by omega)]
    show (if i < bs.length then _ else [(s, bs.length)]) = _
    rw [if_pos h]
  · rw [if_neg h, show bs.length - i = 0 from by omega]
    rfl
theorem S_end (bs : List UInt8) (q : Bool) (s i : Nat) (h : bs.length ≤ i) : S bs q s i = [(s, bs.length)] := by
  rw [S_eq, if_neg (by omega)]
theorem S_t (bs : List UInt8) (s i : Nat) (h : i < bs.length) : S bs true s i = if byt bs i = 92 ∧ i + 1 < bs.length then S bs true s (i + 2) else if byt bs i = 34 then S bs false s (i + 1) else S bs true s (i + 1) := by
  rw [S_eq, if_pos h, if_pos rfl]
theorem S_f (bs : List UInt8) (s i : Nat) (h : i < bs.length) : S bs false s i = if byt bs i = 34 then S bs true s (i + 1) else if byt bs i = 44 then (s, i) :: S bs false (i + 1) (i + 1) else S bs false s (i + 1) := by
  rw [S_eq, if_pos h, if_neg (by simp)]

theorem S_E (bs : List UInt8) (s : Nat) : ∀ (d i : Nat) (q : Bool), bs.length - i ≤ d → S bs q s i = (s, E bs q i) :: if E bs q i < bs.length then S bs false (E bs q i + 1) (E bs q i + 1) else []
  | 0, i, q, hd => by
    rw [S_end bs q s i (by omega), E_end bs q i (by omega), if_neg (by omega)]
  | d + 1, i, q, hd => by
    by_cases h : i < bs.length
    · cases q with
      | true =>
        rw [S_t bs s i h, E_t bs i h]
        by_cases h1 : byt bs i = 92 ∧ i + 1 < bs.length
        · rw [if_pos h1, if_pos h1]
          exact S_E bs s d (i + 2) true (by omega)
        · rw [if_neg h1, if_neg h1]
          by_cases h2 : byt bs i = 34
          · rw [if_pos h2, if_pos h2]
            exact S_E bs s d (i + 1) false (by omega)
          · rw [if_neg h2, if_neg h2]
            exact S_E bs s d (i + 1) true (by omega)
      | false =>
        rw [S_f bs s i h, E_f bs i h]
        by_cases h1 : byt bs i = 34
        · rw [if_pos h1, if_pos h1]
          exact S_E bs s d (i + 1) true (by omega)
        · rw [if_neg h1, if_neg h1]
          by_cases h2 : byt bs i = 44
          · rw [if_pos h2, if_pos h2, if_pos h]
          · rw [if_neg h2, if_neg h2]
            exact S_E bs s d (i + 1) false (by omega)
    · exact S_E bs s 0 i q (by omega)

/-- The model from the element on that opens at a. -/
def Mo (bs : List UInt8) (a : Nat) (o : Bool) (out : List Chal) : Option (List Chal) := run ((S bs false a a).map fun x => cls bs x.1 x.2) o out

theorem Mo_step (bs : List UInt8) (a b : Nat) (o : Bool) (out : List Chal) (h : E bs false a = b) : Mo bs a o out =
    match stepEl (cls bs a b) o out with
    | none => none
    | some (o', out') => if b < bs.length then Mo bs (b + 1) o' out' else some out' := by
  unfold Mo
  rw [S_E bs a _ a false (Nat.le_refl _), h, List.map_cons]
  show (match stepEl (cls bs a b) o out with
    | none => none
    | some (o', out') => run _ o' out') = _
  cases e : stepEl (cls bs a b) o out with
  | none => rfl
  | some x =>
    obtain ⟨o', out'⟩ := x
    show run _ o' out' = if b < bs.length then _ else _
    by_cases c : b < bs.length
    · rw [if_pos c, if_pos c]
    · rw [if_neg c, if_neg c]
      rfl

end Go.Proofs.Qxb6613049aFmt
