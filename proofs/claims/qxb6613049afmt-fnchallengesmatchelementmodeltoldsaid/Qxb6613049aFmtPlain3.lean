import Derived.Test.Qxb6613049aFmtPlain2
namespace Go.Proofs.Qxb6613049aFmt

theorem stop_idem (p : Int → Bool) (bs : List UInt8) (i : Nat) : stop p bs (stop p bs i) = stop p bs i := by
  by_cases h : stop p bs i < bs.length
  · exact stop_no p bs _ h (stop_at p bs _ i (Nat.le_refl _) h)
  · exact stop_end p bs _ (by omega)

/-- The reader's skipEmpty: where it comes to stand. -/
def seF (bs : List UInt8) : Nat → Nat → Nat
  | 0, p => stop spI bs p
  | d + 1, p => if stop spI bs p < bs.length ∧ byt bs (stop spI bs p) = 44 then seF bs d (stop spI bs p + 1) else stop spI bs p
theorem seF_more (bs : List UInt8) : ∀ (d p : Nat), bs.length - p ≤ d → seF bs (d + 1) p = seF bs d p
  | 0, p, h => by
    have := stop_ge spI bs p
    show (if stop spI bs p < bs.length ∧ byt bs (stop spI bs p) = 44 then _ else stop spI bs p) = stop spI bs p
    rw [if_neg (by omega)]
  | d + 1, p, h => by
    have := stop_ge spI bs p
    show (if stop spI bs p < bs.length ∧ byt bs (stop spI bs p) = 44 then seF bs (d + 1) (stop spI bs p + 1) else stop spI bs p) = _
    rw [seF_more bs d (stop spI bs p + 1) (by omega)]
    rfl
theorem seF_same (bs : List UInt8) : ∀ (d p : Nat), bs.length - p ≤ d → seF bs d p = seF bs (bs.length - p) p
  | 0, p, h => by rw [show bs.length - p = 0 from by omega]
  | d + 1, p, h => by
    by_cases e : bs.length - p = d + 1
    · rw [e]
    · rw [seF_more bs d p (by omega)]
      exact seF_same bs d p (by omega)
def se (bs : List UInt8) (p : Nat) : Nat := seF bs (bs.length - p) p
theorem se_yes (bs : List UInt8) (p : Nat) (h : stop spI bs p < bs.length ∧ byt bs (stop spI bs p) = 44) : se bs p = se bs (stop spI bs p + 1) := by
  have h1 := stop_ge spI bs p
  have h2 := h.1
  unfold se
  obtain ⟨d, hd⟩ : ∃ d, bs.length - p = d + 1 := ⟨bs.length - p - 1, by omega⟩
  rw [hd, ← seF_same bs d (stop spI bs p + 1) (by omega)]
  show (if stop spI bs p < bs.length ∧ byt bs (stop spI bs p) = 44 then _ else stop spI bs p) = _
  rw [if_pos h]
theorem se_no (bs : List UInt8) (p : Nat) (h : ¬ (stop spI bs p < bs.length ∧ byt bs (stop spI bs p) = 44)) : se bs p = stop spI bs p := by
  unfold se
  cases bs.length - p with
  | zero => rfl
  | succ d =>
    show (if stop spI bs p < bs.length ∧ byt bs (stop spI bs p) = 44 then _ else stop spI bs p) = _
    rw [if_neg h]
/-- Did it pass a comma? -/
def sc (bs : List UInt8) (p : Nat) : Bool := decide (stop spI bs p < bs.length ∧ byt bs (stop spI bs p) = 44)

theorem se_facts (bs : List UInt8) : ∀ (d p : Nat), bs.length - p ≤ d → p ≤ bs.length → p ≤ se bs p ∧ se bs p ≤ bs.length ∧ (se bs p < bs.length → spI (byt bs (se bs p)) = false ∧ byt bs (se bs p) ≠ 44)
  | 0, p, hd, hp => by
    have e : p = bs.length := by omega
    have h1 := stop_end spI bs p (by omega)
    rw [se_no bs p (by omega), h1]
    exact ⟨Nat.le_refl _, hp, fun h => by omega⟩
  | d + 1, p, hd, hp => by
    have h1 := stop_ge spI bs p
    have h2 := stop_le spI bs p hp
    by_cases h : stop spI bs p < bs.length ∧ byt bs (stop spI bs p) = 44
    · rw [se_yes bs p h]
      have := se_facts bs d (stop spI bs p + 1) (by omega) (by omega)
      exact ⟨by omega, this.2⟩
    · rw [se_no bs p h]
      exact ⟨h1, h2, fun h3 => ⟨stop_at spI bs _ p (Nat.le_refl _) h3, fun e => h ⟨h3, e⟩⟩⟩

theorem cls_sp (bs : List UInt8) (p b : Nat) : cls bs (stop spI bs p) b = cls bs p b := by
  unfold cls
  rw [stop_idem]
theorem Mo_sp (bs : List UInt8) (p : Nat) (o : Bool) (out : List Chal) : Mo bs (stop spI bs p) o out = Mo bs p o out := by
  rw [Mo_step bs p _ o out rfl, Mo_step bs (stop spI bs p) _ o out (stop_E spI spC spQ bs _ p (Nat.le_refl _)), cls_sp]

theorem cls_empty (bs : List UInt8) (p b : Nat) (h : stop spI bs p = b) : cls bs p b = .empty := by
  unfold cls cls1
  rw [if_pos h]
theorem Mo_n (bs : List UInt8) (o : Bool) (out : List Chal) : Mo bs bs.length o out = some out := by
  rw [Mo_step bs bs.length bs.length o out (E_end bs false _ (Nat.le_refl _)), cls_empty bs _ _ (stop_end spI bs _ (Nat.le_refl _))]
  show (if bs.length < bs.length then _ else some out) = _
  rw [if_neg (by omega)]
theorem Mo_comma (bs : List UInt8) (p : Nat) (hp : p < bs.length) (hc : byt bs p = 44) (o : Bool) (out : List Chal) : Mo bs p o out = Mo bs (p + 1) o out := by
  have hE : E bs false p = p := by rw [E_f bs p hp, if_neg (by omega), if_pos hc]
  rw [Mo_step bs p p o out hE, cls_empty bs p p (stop_no spI bs p hp (by rw [hc]; rfl))]
  show (if p < bs.length then _ else some out) = _
  rw [if_pos hp]
/-- Behind an element. -/
theorem Mo_after (bs : List UInt8) (b : Nat) (hb : b ≤ bs.length) (h : En bs b) (o : Bool) (out : List Chal) : (if b < bs.length then Mo bs (b + 1) o out else some out) = Mo bs b o out := by
  by_cases c : b < bs.length
  · rw [if_pos c, Mo_comma bs b c (by rcases h with h | h <;> omega)]
  · rw [if_neg c, show b = bs.length from by omega, Mo_n]

theorem Mo_se (bs : List UInt8) (o : Bool) (out : List Chal) : ∀ (d p : Nat), bs.length - p ≤ d → p ≤ bs.length → Mo bs (se bs p) o out = Mo bs p o out
  | 0, p, hd, hp => by
    have h1 := stop_end spI bs p (by omega)
    rw [se_no bs p (by omega), h1]
  | d + 1, p, hd, hp => by
    have h1 := stop_ge spI bs p
    by_cases h : stop spI bs p < bs.length ∧ byt bs (stop spI bs p) = 44
    · rw [se_yes bs p h, Mo_se bs o out d _ (by omega) (by omega), ← Mo_comma bs _ h.1 h.2, Mo_sp]
    · rw [se_no bs p h, Mo_sp]

/-- A place where a nonempty element's first byte stands. -/
structure At (bs : List UInt8) (i : Nat) : Prop where
  lt : i < bs.length
  sp : spI (byt bs i) = false
  co : byt bs i ≠ 44
theorem At.ne {bs : List UInt8} {i : Nat} (h : At bs i) : i ≠ E bs false i := by
  intro e
  have := (En_iff bs i _ (by have := h.lt; omega) rfl).1 e
  rcases this with h1 | h1
  · have := h.lt; omega
  · exact h.co h1
theorem At.nEn {bs : List UInt8} {i : Nat} (h : At bs i) : ¬ En bs i := by
  rintro (h1 | h1)
  · have := h.lt; omega
  · exact h.co h1
theorem At.stop {bs : List UInt8} {i : Nat} (h : At bs i) : stop spI bs i = i := stop_no spI bs i h.lt h.sp
theorem At.cls {bs : List UInt8} {i : Nat} (h : At bs i) (b : Nat) : cls bs i b = cls1 bs i (Qxb6613049aFmt.stop tcI bs i) (Qxb6613049aFmt.stop spI bs (Qxb6613049aFmt.stop tcI bs i)) b := by
  unfold Qxb6613049aFmt.cls
  rw [h.stop]
theorem At.mk' {bs : List UInt8} {k : Nat} (hk : Qxb6613049aFmt.stop spI bs k = k) (h : ¬ En bs k) : At bs k := by
  have h1 : k < bs.length := by
    by_cases c : k < bs.length
    · exact c
    · exact absurd (.inl (by omega)) h
  refine ⟨h1, ?_, fun e => h (.inr e)⟩
  have := stop_at spI bs _ k (Nat.le_refl _)
  rw [hk] at this
  exact this h1

theorem Mo_bad (bs : List UInt8) (i : Nat) (h : At bs i) (ht : stop tcI bs i = i) (o : Bool) (out : List Chal) : Mo bs i o out = none := by
  rw [Mo_step bs i _ o out rfl, h.cls]
  unfold cls1
  rw [if_neg h.ne, if_pos ht]
  rfl

/-- A scheme with nothing behind it: the reader goes on at once. -/
theorem Mo_alone (bs : List UInt8) (i : Nat) (h : At bs i) (ht : stop tcI bs i ≠ i) (hs : stop spI bs (stop tcI bs i) = stop tcI bs i) (out : List Chal) :
    Mo bs i false out = Mo bs (stop tcI bs i) false (out ++ [⟨fldOf bs i (stop tcI bs i), [], []⟩]) := by
  have hi : i ≤ bs.length := by have := h.lt; omega
  obtain ⟨s1, s2, s3, s4⟩ := stop_b tcI tcC tcQ bs i _ hi rfl
  rw [Mo_step bs i _ false out rfl, h.cls, hs]
  unfold cls1
  rw [if_neg h.ne, if_neg ht]
  by_cases c : En bs (stop tcI bs i)
  · have e := (En_iff bs _ _ s4 s1).2 c
    rw [if_pos e, decide_eq_false (Nat.lt_irrefl _)]
    show (if E bs false i < bs.length then Mo bs (E bs false i + 1) false _ else some _) = _
    rw [← e]
    exact Mo_after bs _ s4 c false _
  · have e : stop tcI bs i ≠ E bs false i := fun e => c ((En_iff bs _ _ s4 s1).1 e)
    rw [if_neg e, Mo_bad bs _ (At.mk' hs c) (stop_idem tcI bs i)]
    by_cases c1 : byt bs (stop tcI bs i) = 61
    · rw [if_pos c1]
      cases pv bs (stop tcI bs i + 1) (E bs false i) <;> rfl
    · rw [if_neg c1, if_pos rfl]
      rfl

/-- A scheme, white space and a token68. -/
theorem Mo_tok (bs : List UInt8) (i k : Nat) (h : At bs i) (ht : stop tcI bs i ≠ i) (hk : stop spI bs (stop tcI bs i) = k) (hs : k ≠ stop tcI bs i) (hm : t6m bs k ≠ k) (hf : En bs (stop spI bs (t6e bs k))) (o : Bool) (out : List Chal) :
    Mo bs i o out = Mo bs (stop spI bs (t6e bs k)) false (out ++ [⟨fldOf bs i (stop tcI bs i), fldOf bs k (t6e bs k), []⟩]) := by
  have hi : i ≤ bs.length := by have := h.lt; omega
  obtain ⟨s1, s2, s3, s4⟩ := stop_b tcI tcC tcQ bs i _ hi rfl
  have h2 := stop_b spI spC spQ bs _ _ s4 s1
  rw [hk] at h2
  obtain ⟨k1, k2, k3, k4⟩ := h2
  obtain ⟨g1, g2, g3⟩ := t6_b bs k _ k4 k1
  have hklt : k < bs.length := by
    by_cases c : k < bs.length
    · exact c
    · exact absurd (stop_end t6I bs k (by omega)) hm
  have hp : t6I (byt bs k) = true := by
    cases hp : t6I (byt bs k) with
    | true => rfl
    | false => exact absurd (stop_no t6I bs k hklt hp) hm
  have n61 : byt bs k ≠ 61 := fun e => by rw [e] at hp; cases hp
  have n44 : byt bs k ≠ 44 := fun e => by rw [e] at hp; cases hp
  have hne : k ≠ E bs false i := fun e => by
    rcases (En_iff bs k _ k4 k1).1 e with h1 | h1
    · omega
    · exact n44 h1
  have hfb := (En_iff bs _ _ g3.2.2.2 g3.1).2 hf
  rw [Mo_step bs i _ o out rfl, h.cls, hk]
  unfold cls1 cls2 t68
  rw [if_neg h.ne, if_neg ht, if_neg hne, if_neg n61, if_neg hs, if_neg hm, if_pos hfb]
  show (if E bs false i < bs.length then Mo bs (E bs false i + 1) false _ else some _) = _
  rw [← hfb]
  exact Mo_after bs _ g3.2.2.2 hf false _

/-- A parameter opens at i: a name, and an equals sign behind it. -/
abbrev isP (bs : List UInt8) (i : Nat) : Prop := stop tcI bs i ≠ i ∧ stop spI bs (stop tcI bs i) < bs.length ∧ byt bs (stop spI bs (stop tcI bs i)) = 61

/-- A scheme and white space, and no token68: at an end. -/
theorem Mo_open (bs : List UInt8) (i k : Nat) (h : At bs i) (ht : stop tcI bs i ≠ i) (hk : stop spI bs (stop tcI bs i) = k) (hs : k ≠ stop tcI bs i) (he : En bs k) (o : Bool) (out : List Chal) :
    Mo bs i o out = Mo bs k true (out ++ [⟨fldOf bs i (stop tcI bs i), [], []⟩]) := by
  have hi : i ≤ bs.length := by have := h.lt; omega
  obtain ⟨s1, s2, s3, s4⟩ := stop_b tcI tcC tcQ bs i _ hi rfl
  have h2 := stop_b spI spC spQ bs _ _ s4 s1
  rw [hk] at h2
  obtain ⟨k1, k2, k3, k4⟩ := h2
  have e := (En_iff bs k _ k4 k1).2 he
  rw [Mo_step bs i _ o out rfl, h.cls, hk]
  unfold cls1
  rw [if_neg h.ne, if_neg ht, if_pos e, decide_eq_true (show stop tcI bs i < k by omega)]
  show (if E bs false i < bs.length then Mo bs (E bs false i + 1) true _ else some _) = _
  rw [← e]
  exact Mo_after bs _ k4 he true _

/-- A scheme and white space, and no token68: something stands there. -/
theorem Mo_first (bs : List UInt8) (i k : Nat) (h : At bs i) (ht : stop tcI bs i ≠ i) (hk : stop spI bs (stop tcI bs i) = k) (hs : k ≠ stop tcI bs i) (he : ¬ En bs k) (hno : t6m bs k = k ∨ ¬ En bs (stop spI bs (t6e bs k))) (out : List Chal) :
    Mo bs i false out = if isP bs k then Mo bs k true (out ++ [⟨fldOf bs i (stop tcI bs i), [], []⟩]) else none := by
  have hi : i ≤ bs.length := by have := h.lt; omega
  obtain ⟨s1, s2, s3, s4⟩ := stop_b tcI tcC tcQ bs i _ hi rfl
  have h2 := stop_b spI spC spQ bs _ _ s4 s1
  rw [hk] at h2
  obtain ⟨k1, k2, k3, k4⟩ := h2
  have hne : k ≠ E bs false i := fun e => he ((En_iff bs k _ k4 k1).1 e)
  obtain ⟨g1, g2, g3⟩ := t6_b bs k _ k4 k1
  have hks : stop spI bs k = k := by rw [← hk]; exact stop_idem spI bs _
  have hAk : At bs k := At.mk' hks he
  have ht6 : t68 bs k (E bs false i) = none := by
    unfold t68
    by_cases c : t6m bs k = k
    · rw [if_pos c]
    · rw [if_neg c]
      rcases hno with h1 | h1
      · exact absurd h1 c
      · rw [if_neg (fun e => h1 ((En_iff bs _ _ g3.2.2.2 g3.1).1 e))]
  obtain ⟨m1, m2, m3, m4⟩ := stop_b tcI tcC tcQ bs k _ k4 k1
  obtain ⟨q1, q2, q3, q4⟩ := stop_b spI spC spQ bs _ _ m4 m1
  rw [Mo_step bs i _ false out rfl, h.cls, hk]
  unfold cls1 cls2
  rw [if_neg h.ne, if_neg ht, if_neg hne, ht6]
  by_cases c1 : byt bs k = 61
  · have hnp : ¬ isP bs k := fun hp => hp.1 (stop_no tcI bs k hAk.lt (by rw [c1]; rfl))
    rw [if_pos c1, if_neg hnp]
    cases pv bs (k + 1) (E bs false i) <;> rfl
  · rw [if_neg c1, if_neg hs]
    by_cases c2 : stop tcI bs k = k
    · rw [if_neg (fun hp : isP bs k => hp.1 c2)]
      show (match stepEl (if stop tcI bs k = k then Elem.bad else _) false out with
        | none => none
        | some (o', out') => _) = none
      rw [if_pos c2]
      rfl
    · by_cases c3 : stop spI bs (stop tcI bs k) = E bs false i ∨ byt bs (stop spI bs (stop tcI bs k)) ≠ 61
      · have hnp : ¬ isP bs k := by
          rintro ⟨p1, p2, p3⟩
          rcases c3 with c3 | c3
          · rcases (En_iff bs _ _ q4 q1).1 c3 with h1 | h1 <;> omega
          · exact c3 p3
        rw [if_neg hnp]
        show (match stepEl (if stop tcI bs k = k then Elem.bad else _) false out with
          | none => none
          | some (o', out') => _) = none
        rw [if_neg c2, if_pos c3]
        rfl
      · have c4 : byt bs (stop spI bs (stop tcI bs k)) = 61 := Decidable.not_not.mp (fun e => c3 (.inr e))
        have c5 : stop spI bs (stop tcI bs k) ≠ E bs false i := fun e => c3 (.inl e)
        have hP : isP bs k := ⟨c2, by have := E_le bs i false; omega, c4⟩
        rw [if_pos hP, Mo_step bs k _ true _ k1, hAk.cls]
        unfold cls1
        rw [if_neg hne, if_neg c2, if_neg c3, if_neg c2, if_neg c5, if_pos c4]
        cases pv bs (stop spI bs (stop tcI bs k) + 1) (E bs false i) with
        | none => rfl
        | some v =>
          show (if E bs false i < bs.length then _ else _) = (match (if true = true then (match addP (out ++ [_]) _ v with | none => none | some out' => some (true, out')) else none) with
            | none => none
            | some (o', out') => _)
          rw [if_pos rfl, addP_last]
          rfl

/-- A parameter joins the open challenge. -/
theorem Mo_param (bs : List UInt8) (i : Nat) (h : At bs i) (hP : isP bs i) (cs : List Chal) (c : Chal) :
    Mo bs i true (cs ++ [c]) = match PV bs (stop spI bs (stop spI bs (stop tcI bs i) + 1)) with
      | none => none
      | some (v, e) => if En bs (stop spI bs e) then
          (if c.ps.any (fun x => x.1 == Lib.toLowerA (fldOf bs i (stop tcI bs i))) = true then none
           else Mo bs (stop spI bs e) true (cs ++ [{ c with ps := c.ps ++ [(Lib.toLowerA (fldOf bs i (stop tcI bs i)), v)] }]))
        else none := by
  have hi : i ≤ bs.length := by have := h.lt; omega
  obtain ⟨p1, p2, p3⟩ := hP
  obtain ⟨s1, s2, s3, s4⟩ := stop_b tcI tcC tcQ bs i _ hi rfl
  obtain ⟨k1, k2, k3, k4⟩ := stop_b spI spC spQ bs _ _ s4 s1
  rw [Mo_step bs i _ true _ rfl, h.cls]
  generalize hk : stop spI bs (stop tcI bs i) = k at *
  have hne : k ≠ E bs false i := fun e => by
    rcases (En_iff bs k _ k4 k1).1 e with h1 | h1 <;> omega
  have hE1 : E bs false (k + 1) = E bs false i := by
    have := k1
    rw [E_f bs k p2, if_neg (by omega), if_neg (by omega)] at this
    exact this
  obtain ⟨d1, d2, d3, d4⟩ := stop_b spI spC spQ bs (k + 1) _ (by omega) hE1
  obtain ⟨-, w2⟩ := PV_w bs 0 _ (stop spI bs (k + 1)) (Nat.zero_le _) d4 d1
  unfold cls1 pv
  rw [if_neg h.ne, if_neg p1, if_neg hne, if_pos p3]
  cases e : PV bs (stop spI bs (k + 1)) with
  | none => rfl
  | some x =>
    obtain ⟨v, j⟩ := x
    obtain ⟨j1, j2, j3⟩ := w2 v j e
    obtain ⟨f1, f2, f3, f4⟩ := stop_b spI spC spQ bs j _ j3 j1
    show (match stepEl (match (if stop spI bs j = E bs false i then some v else none) with | none => Elem.bad | some v => Elem.param _ v) true (cs ++ [c]) with
      | none => none
      | some (o', out') => _) = if En bs (stop spI bs j) then _ else none
    by_cases c1 : En bs (stop spI bs j)
    · have c2 := (En_iff bs _ _ f4 f1).2 c1
      rw [if_pos c1, if_pos c2]
      show (match (if true = true then (match addP (cs ++ [c]) _ v with | none => none | some out' => some (true, out')) else none) with
            | none => none
            | some (o', out') => _) = _
      rw [if_pos rfl, addP_last]
      by_cases c3 : c.ps.any (fun x => x.1 == Lib.toLowerA (fldOf bs i (stop tcI bs i))) = true
      · rw [if_pos c3, if_pos c3]
      · rw [if_neg c3, if_neg c3]
        show (if E bs false i < bs.length then Mo bs (E bs false i + 1) true _ else some _) = _
        rw [← c2]
        exact Mo_after bs _ f4 c1 true _
    · rw [if_neg c1, if_neg (fun e => c1 ((En_iff bs _ _ f4 f1).1 e))]
      rfl

/-- Where no parameter stands it is all one whether the last challenge is open. -/
theorem Mo_same (bs : List UInt8) (i : Nat) (h : At bs i) (hP : ¬ isP bs i) (out : List Chal) : Mo bs i true out = Mo bs i false out := by
  have hi : i ≤ bs.length := by have := h.lt; omega
  obtain ⟨s1, s2, s3, s4⟩ := stop_b tcI tcC tcQ bs i _ hi rfl
  obtain ⟨k1, k2, k3, k4⟩ := stop_b spI spC spQ bs _ _ s4 s1
  rw [Mo_step bs i _ true _ rfl, Mo_step bs i _ false _ rfl, h.cls]
  unfold cls1
  by_cases c1 : stop tcI bs i = i
  · rw [if_neg h.ne, if_pos c1]
    rfl
  · rw [if_neg h.ne, if_neg c1]
    by_cases c2 : stop spI bs (stop tcI bs i) = E bs false i
    · rw [if_pos c2]
      rfl
    · have hlt : stop spI bs (stop tcI bs i) < bs.length := by have := E_le bs i false; omega
      rw [if_neg c2, if_neg (fun e => hP ⟨c1, hlt, e⟩)]
      by_cases c3 : stop spI bs (stop tcI bs i) = stop tcI bs i
      · rw [if_pos c3]
        rfl
      · rw [if_neg c3]
        have key : ∀ x : Elem, x ≠ .empty → (∀ a b, x ≠ .param a b) → stepEl x true out = stepEl x false out := by
          intro x he hx
          rcases x with _ | _ | ⟨a, b⟩ | ⟨a, b⟩ | ⟨a, b⟩ | ⟨a, b, c⟩
          · exact absurd rfl he
          · rfl
          · exact absurd rfl (hx a b)
          · rfl
          · rfl
          · rfl
        rw [key]
        · unfold cls2
          split
          · intro e; cases e
          · split
            · intro e; cases e
            · split
              · intro e; cases e
              · split
                · intro e; cases e
                · intro e; cases e
        · intro a b
          unfold cls2
          split
          · intro e; cases e
          · split
            · intro e; cases e
            · split
              · intro e; cases e
              · split
                · intro e; cases e
                · intro e; cases e

/-- The scan of a token68 that fails ends no later than the parameter that stands there. -/
theorem t6_before (bs : List UInt8) (k f : Nat) (hk : k ≤ bs.length) (hkf : k ≤ f) (hf : f ≤ bs.length) (he : En bs f) : stop spI bs (t6e bs k) ≤ f := by
  have h1 := stop_ge t6I bs k
  have h2 := stop_le t6I bs k hk
  have h3 := stop_ge eqI bs (t6m bs k)
  have h4 := stop_le eqI bs (t6m bs k) h2
  have h5 := stop_ge spI bs (t6e bs k)
  have h6 := stop_le spI bs (t6e bs k) h4
  by_cases c : stop spI bs (t6e bs k) ≤ f
  · exact c
  · exfalso
    rcases he with he | he
    · omega
    · by_cases c1 : f < t6m bs k
      · have := stop_in t6I bs _ k f (Nat.le_refl _) hkf c1 (by omega)
        rw [he] at this
        cases this
      · by_cases c2 : f < t6e bs k
        · have := stop_in eqI bs _ (t6m bs k) f (Nat.le_refl _) (by omega) c2 (by omega)
          rw [he] at this
          cases this
        · have := stop_in spI bs _ (t6e bs k) f (Nat.le_refl _) (by omega) (by omega) (by omega)
          rw [he] at this
          cases this

end Go.Proofs.Qxb6613049aFmt
