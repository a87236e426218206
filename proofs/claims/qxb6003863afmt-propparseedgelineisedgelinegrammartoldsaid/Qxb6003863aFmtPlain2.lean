import Derived.Test.Qxb6003863aFmtPlain
namespace Go.Proofs.Qxb6003863aFmt

def S0 (bs : List UInt8) : Nat := stop blankI bs 0
def E0 (bs : List UInt8) : Nat := stop nblankI bs (S0 bs)
def S1 (bs : List UInt8) : Nat := stop blankI bs (E0 bs)
def E1 (bs : List UInt8) : Nat := stop nblankI bs (S1 bs)
def S2 (bs : List UInt8) : Nat := stop blankI bs (E1 bs)
def IdA (bs : List UInt8) : Option Nat := idAcc (fldOf bs (S0 bs) (E0 bs)) 0
def IdB (bs : List UInt8) : Option Nat := idAcc (fldOf bs (S1 bs) (E1 bs)) 0
def Go0 (bs : List UInt8) : Prop := S0 bs < bs.length ∧ byt bs (S0 bs) ≠ 35
def Att (bs : List UInt8) : Bool := attrB (bs.drop (S2 bs))

theorem IdA_eq (bs : List UInt8) : idAcc (fldOf bs (S0 bs) (stop nblankI bs (S0 bs))) 0 = IdA bs := by unfold IdA E0; rfl
theorem IdB_eq (bs : List UInt8) : idAcc (fldOf bs (S1 bs) (stop nblankI bs (S1 bs))) 0 = IdB bs := by unfold IdB E1; rfl
theorem S1_eq (bs : List UInt8) : stop blankI bs (stop nblankI bs (S0 bs)) = S1 bs := by unfold S1 E0; rfl
theorem S2_eq (bs : List UInt8) : stop blankI bs (stop nblankI bs (S1 bs)) = S2 bs := by unfold S2 E1; rfl

theorem Att_eq (bs : List UInt8) : attrB (bs.drop (S2 bs)) = Att bs := by unfold Att; rfl

theorem S0_le (bs : List UInt8) : S0 bs ≤ bs.length := stop_le _ _ _ (Nat.zero_le _)
theorem E0_le (bs : List UInt8) : E0 bs ≤ bs.length := stop_le _ _ _ (S0_le bs)
theorem S1_le (bs : List UInt8) : S1 bs ≤ bs.length := stop_le _ _ _ (E0_le bs)
theorem E1_le (bs : List UInt8) : E1 bs ≤ bs.length := stop_le _ _ _ (S1_le bs)
theorem S2_le (bs : List UInt8) : S2 bs ≤ bs.length := stop_le _ _ _ (E1_le bs)

/-- What the law asks of parseEdgeLine's answer. -/
def Want (bs : List UInt8) (x0 x1 nn : Int) (ok : Bool) : Prop :=
  (¬ Go0 bs → ok = true ∧ nn = 0) ∧
  (Go0 bs → S1 bs = bs.length → ok = (IdA bs).isSome ∧ ((IdA bs).isSome = true → nn = 1 ∧ x0 = (((IdA bs).getD 0 : Nat) : Int))) ∧
  (Go0 bs → S1 bs < bs.length → ok = ((IdA bs).isSome && (IdB bs).isSome && (decide (S2 bs = bs.length) || Att bs)) ∧
    (ok = true → nn = 2 ∧ x0 = (((IdA bs).getD 0 : Nat) : Int) ∧ x1 = (((IdB bs).getD 0 : Nat) : Int)))

/-- Where the loop of parseEdgeLine stands, by the count of fields. -/
def PState (bs : List UInt8) (k : Nat) (x0 x1 : Int) (ok : Bool) : Nat → Prop
  | 0 => stop blankI bs k = S0 bs ∧ ok = true
  | 1 => Go0 bs ∧ stop blankI bs k = S1 bs ∧ ok = (IdA bs).isSome ∧ x0 = (((IdA bs).getD 0 : Nat) : Int)
  | 2 => Go0 bs ∧ S1 bs < bs.length ∧ stop blankI bs k = S2 bs ∧ ok = ((IdA bs).isSome && (IdB bs).isSome) ∧ x0 = (((IdA bs).getD 0 : Nat) : Int) ∧ x1 = (((IdB bs).getD 0 : Nat) : Int)
  | _ + 3 => Go0 bs ∧ S1 bs < bs.length ∧ S2 bs < bs.length ∧ ((IdA bs).isSome && (IdB bs).isSome && Att bs) = false

theorem P_blank {bs : List UInt8} {k : Nat} {x0 x1 : Int} {ok : Bool} {c : Nat} (hk : k < bs.length) (hb : blankI (byt bs k) = true) (h : PState bs k x0 x1 ok c) : PState bs (k + 1) x0 x1 ok c := by
  have e := stop_yes blankI bs k hk hb
  match c, h with
  | 0, h => exact ⟨by rw [← e]; exact h.1, h.2⟩
  | 1, h => exact ⟨h.1, by rw [← e]; exact h.2.1, h.2.2⟩
  | 2, h => exact ⟨h.1, h.2.1, by rw [← e]; exact h.2.2.1, h.2.2.2⟩
  | _ + 3, h => exact h

theorem P_hash {bs : List UInt8} {k : Nat} {x0 x1 : Int} {ok : Bool} (hk : k < bs.length) (hb : blankI (byt bs k) = false) (h35 : byt bs k = 35) (h : PState bs k x0 x1 ok 0) : Want bs x0 x1 0 true := by
  have e := stop_no blankI bs k hk hb
  have h1 : k = S0 bs := by rw [← e]; exact h.1
  subst h1
  have hn : ¬ Go0 bs := fun g => g.2 h35
  exact ⟨fun _ => ⟨rfl, rfl⟩, fun g => absurd g hn, fun g => absurd g hn⟩

theorem P_scan0 {bs : List UInt8} {k : Nat} {x0 x1 : Int} {ok : Bool} (hk : k < bs.length) (hb : blankI (byt bs k) = false) (h35 : byt bs k ≠ 35) (h : PState bs k x0 x1 ok 0) :
    PState bs (stop nblankI bs k) (((idAcc (fldOf bs k (stop nblankI bs k)) 0).getD 0 : Nat) : Int) x1 (idAcc (fldOf bs k (stop nblankI bs k)) 0).isSome 1 := by
  have e := stop_no blankI bs k hk hb
  have h1 : k = S0 bs := by rw [← e]; exact h.1
  subst h1
  rw [IdA_eq]
  have hh := S1_eq bs
  refine ⟨⟨hk, h35⟩, hh, ?_, ?_⟩
  · exact Eq.refl _
  · exact Eq.refl _

theorem P_scan1 {bs : List UInt8} {k : Nat} {x0 x1 : Int} {ok : Bool} (hk : k < bs.length) (hb : blankI (byt bs k) = false) (h : PState bs k x0 x1 ok 1) :
    PState bs (stop nblankI bs k) x0 (((idAcc (fldOf bs k (stop nblankI bs k)) 0).getD 0 : Nat) : Int) (ok && (idAcc (fldOf bs k (stop nblankI bs k)) 0).isSome) 2 := by
  have e := stop_no blankI bs k hk hb
  obtain ⟨g, h1, h2, h3⟩ := h
  have h1' : k = S1 bs := e.symm.trans h1
  rw [h1'] at hk ⊢
  rw [IdB_eq]
  have hh := S2_eq bs
  refine ⟨g, hk, hh, ?_, h3, ?_⟩
  · rw [h2]
  · exact Eq.refl _

theorem P_attr {bs : List UInt8} {k : Nat} {x0 x1 : Int} {ok : Bool} (hk : k < bs.length) (hb : blankI (byt bs k) = false) (hok : ok = true) (ha : attrB (bs.drop k) = true) (h : PState bs k x0 x1 ok 2) : Want bs x0 x1 2 true := by
  have e := stop_no blankI bs k hk hb
  obtain ⟨g, h1, h2, h3, h4, h5⟩ := h
  have h1' : k = S2 bs := e.symm.trans h2
  rw [h1', Att_eq] at ha
  refine ⟨fun n => absurd g n, fun _ e1 => by omega, fun _ _ => ⟨?_, fun _ => ⟨rfl, h4, h5⟩⟩⟩
  rw [← h3, hok, ha]; simp

theorem P_third {bs : List UInt8} {k : Nat} {x0 x1 : Int} {ok : Bool} (hk : k < bs.length) (hb : blankI (byt bs k) = false) (ha : (ok && attrB (bs.drop k)) = false) (h : PState bs k x0 x1 ok 2) (k' : Nat) : PState bs k' x0 x1 ok 3 := by
  have e := stop_no blankI bs k hk hb
  obtain ⟨g, h1, h2, h3, h4, h5⟩ := h
  have h1' : k = S2 bs := e.symm.trans h2
  rw [h1', Att_eq, h3] at ha
  rw [h1'] at hk
  exact ⟨g, h1, hk, ha⟩

theorem P_more {bs : List UInt8} {k : Nat} {x0 x1 : Int} {ok : Bool} {c : Nat} (h : PState bs k x0 x1 ok (c + 3)) (k' : Nat) : PState bs k' x0 x1 ok (c + 4) := h

theorem P_end3 {bs : List UInt8} {k : Nat} {x0 x1 : Int} {ok : Bool} {c : Nat} (h : PState bs k x0 x1 ok (c + 3)) (nn : Int) : Want bs x0 x1 nn false := by
  obtain ⟨g, h1, h2, h3⟩ := h
  refine ⟨fun n => absurd g n, fun _ e1 => by omega, fun _ _ => ⟨?_, fun h => by cases h⟩⟩
  have : decide (S2 bs = bs.length) = false := by simp; omega
  rw [this, Bool.false_or, h3]

theorem P_end {bs : List UInt8} {x0 x1 : Int} {ok : Bool} {c : Nat} (hc : c ≤ 2) (h : PState bs bs.length x0 x1 ok c) (nn : Int) (hnn : ok = true → nn = c) : Want bs x0 x1 nn ok := by
  have e := stop_end blankI bs bs.length (Nat.le_refl _)
  match c, hc, h, hnn with
  | 0, _, h, hnn =>
    obtain ⟨h1, h2⟩ := h
    have hn : ¬ Go0 bs := fun g => by have := g.1; omega
    exact ⟨fun _ => ⟨h2, hnn h2⟩, fun g => absurd g hn, fun g => absurd g hn⟩
  | 1, _, h, hnn =>
    obtain ⟨g, h1, h2, h3⟩ := h
    exact ⟨fun n => absurd g n, fun _ _ => ⟨h2, fun h => ⟨hnn (by rw [h2]; exact h), h3⟩⟩, fun _ h => by omega⟩
  | 2, _, h, hnn =>
    obtain ⟨g, h1, h2, h3, h4, h5⟩ := h
    have : decide (S2 bs = bs.length) = true := by simp; omega
    exact ⟨fun n => absurd g n, fun _ e1 => by omega, fun _ _ => ⟨by rw [this]; simpa using h3, fun h => ⟨hnn h, h4, h5⟩⟩⟩

end Go.Proofs.Qxb6003863aFmt
