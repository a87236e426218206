import Derived.Test.Qxb6613049aFmtM0
namespace Go.Proofs.Qxb6613049aFmt
open Go.RowKit Go.Extern.Stop Go.Stop Go.Extern

theorem value_any (F : Interp) (b : Nat) (bs : List UInt8) (d r : Nat) (w : World) (hF : F.answers w.tape) (h : RD b bs d r w) (hd : d ≤ bs.length) (hr : r ≤ 3000000000000) (hn : bs.length ≤ 1048576) :
    Calls Tryf.prog 40 #[.pointer (some ⟨b, 0, none⟩)] w (valPost b bs d r w) := by
  by_cases c : d < bs.length ∧ byt bs d = 34
  · exact value_quoted F b bs d r w hF h c.1 hr hn c.2
  · exact value_token F b bs d r w hF h hd hr hn c

/-! The contracts once more, with the places as variables. -/
theorem empty_to (b : Nat) (bs : List UInt8) (p r a : Nat) (cm : Bool) (w : World) (h : RD b bs p r w) (hp : p ≤ bs.length) (hr : r ≤ 3000000000000) (hn : bs.length ≤ 1048576) (ha : se bs p = a) (hc : sc bs p = cm) :
    Calls Tryf.prog 25 #[.pointer (some ⟨b, 0, none⟩)] w fun e w' => e = .returned (.bool cm) ∧ ∃ r', RD b bs a r' w' ∧ Only b w w' ∧ r + a ≤ r' + p ∧ r' + 2 * p ≤ r + 2 * a + 2 := by
  subst ha hc
  have hs := (se_facts bs _ p (Nat.le_refl _) hp).1
  refine (skipEmpty_any b bs p r w h hp hr hn).mono ?_
  rintro e w' ⟨rfl, r', h1, h2, h3, h4⟩
  exact ⟨rfl, r', h1, h2, by omega, by omega⟩
theorem token_to (b : Nat) (bs : List UInt8) (p r j : Nat) (w : World) (h : RD b bs p r w) (hp : p ≤ bs.length) (hr : r ≤ 4000000000000) (hn : bs.length ≤ 1048576) (hj : stop tcI bs p = j) :
    Calls Tryf.prog 26 #[.pointer (some ⟨b, 0, none⟩)] w fun e w' => e = .returned (.string (mk (fldOf bs p j))) ∧ ∃ r', RD b bs j r' w' ∧ Only b w w' ∧ r' + p = r + j + one bs j := by
  subst hj
  have hs := stop_ge tcI bs p
  refine (token_any b bs p r w h hp hr hn).mono ?_
  rintro e w' ⟨rfl, h1, h2⟩
  exact ⟨rfl, _, h1, h2, by omega⟩
theorem space_to (b : Nat) (bs : List UInt8) (p r j : Nat) (w : World) (h : RD b bs p r w) (hp : p ≤ bs.length) (hr : r ≤ 4000000000000) (hn : bs.length ≤ 1048576) (hj : stop spI bs p = j) :
    Calls Tryf.prog 28 #[.pointer (some ⟨b, 0, none⟩)] w fun e w' => e = .returned (.bool (decide (p < j))) ∧ ∃ r', RD b bs j r' w' ∧ Only b w w' ∧ r' + p = r + j + one bs j := by
  subst hj
  have hs := stop_ge spI bs p
  refine (skipSpace_any b bs p r w h hp hr hn).mono ?_
  rintro e w' ⟨rfl, h1, h2⟩
  exact ⟨rfl, _, h1, h2, by omega⟩
theorem at_to (b : Nat) (bs : List UInt8) (p r : Nat) (c : Int) (x : Bool) (w : World) (h : RD b bs p r w) (hr : r ≤ 4000000000000) (hn : bs.length ≤ 1048576) (hx : atB bs p c = x) :
    Calls Tryf.prog 34 #[.pointer (some ⟨b, 0, none⟩), .int .u8 c] w fun e w' => e = .returned (.bool x) ∧ ∃ r', RD b bs p r' w' ∧ Only b w w' ∧ r' = r + one bs p := by
  subst hx
  refine (at_any b bs p r c w h (by omega) hn).mono ?_
  rintro e w' ⟨rfl, h1, h2⟩
  exact ⟨rfl, _, h1, h2, rfl⟩

/-- The parameters of a challenge as its third cell holds them. -/
def PM (B : Nat) (ps : List (List UInt8 × List UInt8)) (v : Value) (w : World) : Prop := (ps = [] ∧ v = .map none) ∨ ∃ m, v = .map (some m) ∧ B ≤ m ∧ ps ≠ [] ∧ MS m ps w
/-- The challenge in block cb. -/
def CB (B cb : Nat) (s t : List UInt8) (ps : List (List UInt8 × List UInt8)) (w : World) : Prop :=
  w.cell? ⟨cb, 0, none⟩ = some (.string (mk s)) ∧ w.cell? ⟨cb, 1, none⟩ = some (.string (mk t)) ∧ w.frozen? ⟨cb, 1, none⟩ = false ∧ w.frozen? ⟨cb, 2, none⟩ = false ∧ ∃ v, w.cell? ⟨cb, 2, none⟩ = some v ∧ PM B ps v w

theorem PM.same {B : Nat} {ps : List (List UInt8 × List UInt8)} {v : Value} {w w' : World} (h : PM B ps v w) (hs : ∀ k, B ≤ k → k < w.heap.size → w'.heap[k]? = w.heap[k]?) : PM B ps v w' := by
  rcases h with h | ⟨m, hv, hB, hne, hm⟩
  · exact .inl h
  · exact .inr ⟨m, hv, hB, hne, hm.same (hs m hB hm.lt)⟩
theorem CB.same {B cb : Nat} {s t : List UInt8} {ps : List (List UInt8 × List UInt8)} {w w' : World} (h : CB B cb s t ps w) (hc : w'.heap[cb]? = w.heap[cb]?) (hs : ∀ k, B ≤ k → k < w.heap.size → w'.heap[k]? = w.heap[k]?) : CB B cb s t ps w' := by
  obtain ⟨h0, h1, f1, f2, v, h2, hp⟩ := h
  exact ⟨(World.cell?_of_block (w := w) hc).trans h0, (World.cell?_of_block (w := w) hc).trans h1, (World.frozen?_of_block (w := w) hc).trans f1, (World.frozen?_of_block (w := w) hc).trans f2, v, (World.cell?_of_block (w := w) hc).trans h2, hp.same hs⟩
theorem CB.only {B cb b : Nat} {s t : List UInt8} {ps : List (List UInt8 × List UInt8)} {w w' : World} (h : CB B cb s t ps w) (o : Only b w w') (hne : cb ≠ b) (hb : b < B) : CB B cb s t ps w' :=
  h.same (o.block cb hne) (fun k hk _ => o.block k (by omega))
theorem CB.turn1 {B C cb b : Nat} {s t : List UInt8} {ps : List (List UInt8 × List UInt8)} {w w' : World} (h : CB B cb s t ps w) (o : Turn (fun k => k = b) w.heap.size w w') (hne : cb ≠ b) (hb : b < B) (hC : cb < C) (hCB : C ≤ w.heap.size) : CB B cb s t ps w' :=
  h.same (o.block cb (by omega) hne) (fun k hk hl => o.block k hl (by omega))
theorem CB.below {B cb : Nat} {s t : List UInt8} {ps : List (List UInt8 × List UInt8)} {w w' : World} (h : CB B cb s t ps w) (o : Below w.heap.size w w') : CB B cb s t ps w' := by
  have hl : cb < w.heap.size := World.block_lt_of_cell? _ _ h.1
  exact h.same (o.block cb hl) (fun k _ hl => o.block k hl)

theorem tc_small (x : Int) (h : tcI x = true) : x < 128 := by
  unfold tcI alI at h
  simp at h
  omega
theorem tok_ascii (bs : List UInt8) (i : Nat) : ∀ (k : Nat) (c : UInt8), (mk (fldOf bs i (stop tcI bs i))).data.toList[k]? = some c → c.toNat < 128 := by
  intro k c h
  rw [mk_data] at h
  unfold fldOf at h
  have hk : k < stop tcI bs i - i := by
    have := (List.getElem?_eq_some_iff.1 h).1
    rw [List.length_take] at this
    omega
  rw [List.getElem?_take_of_lt hk, List.getElem?_drop] at h
  have hb : byt bs (i + k) = (c.toNat : Int) := by
    unfold byt
    rw [List.getD_eq_getElem?_getD, h]
    rfl
  have hl : i + k < bs.length := (List.getElem?_eq_some_iff.1 h).1
  have := tc_small _ (stop_in tcI bs _ i (i + k) (Nat.le_refl _) (by omega) (by omega) hl)
  omega

/-- Where the loop of params stands, as the model has it. -/
def Inv (bs : List UInt8) (cs : List Chal) (s : List UInt8) (T : Option (List Chal)) (q p : Nat) (ps : List (List UInt8 × List UInt8)) : Prop :=
  (En bs p ∧ Mo bs p true (cs ++ [⟨s, [], ps⟩]) = T) ∨ (¬ En bs p ∧ p = q ∧ stop spI bs p = p ∧ T = if isP bs p then Mo bs p true (cs ++ [⟨s, [], ps⟩]) else none)

theorem se_here (bs : List UInt8) (p : Nat) (h : ¬ En bs p) (hs : stop spI bs p = p) : se bs p = p ∧ sc bs p = false := by
  have hno : ¬ (stop spI bs p < bs.length ∧ byt bs (stop spI bs p) = 44) := by
    rw [hs]
    rintro ⟨h1, h2⟩
    exact h (.inr h2)
  refine ⟨by rw [se_no bs p hno, hs], ?_⟩
  unfold sc
  rw [decide_eq_false hno]

theorem Inv.end_ {bs : List UInt8} {cs : List Chal} {s : List UInt8} {T : Option (List Chal)} {q p : Nat} {ps : List (List UInt8 × List UInt8)} (h : Inv bs cs s T q p ps) (hp : p ≤ bs.length) (ha : se bs p = bs.length) :
    En bs p ∧ Mo bs bs.length false (cs ++ [⟨s, [], ps⟩]) = T := by
  rcases h with ⟨h1, h2⟩ | ⟨h1, _, h3, _⟩
  · rw [← Mo_se bs true _ _ p (Nat.le_refl _) hp, ha, Mo_n] at h2
    rw [Mo_n]
    exact ⟨h1, h2⟩
  · exfalso
    rw [(se_here bs p h1 h3).1] at ha
    exact h1 (.inl (by omega))
theorem Inv.back {bs : List UInt8} {cs : List Chal} {s : List UInt8} {T : Option (List Chal)} {q p a : Nat} {ps : List (List UInt8 × List UInt8)} (h : Inv bs cs s T q p ps) (hp : p ≤ bs.length) (ha : se bs p = a) (hA : At bs a) (hP : ¬ isP bs a) (hc : sc bs p = true) :
    En bs p ∧ Mo bs a false (cs ++ [⟨s, [], ps⟩]) = T := by
  rcases h with ⟨h1, h2⟩ | ⟨h1, _, h3, _⟩
  · rw [← Mo_se bs true _ _ p (Nat.le_refl _) hp, ha, Mo_same bs a hA hP] at h2
    exact ⟨h1, h2⟩
  · rw [(se_here bs p h1 h3).2] at hc
    cases hc
theorem Inv.bad {bs : List UInt8} {cs : List Chal} {s : List UInt8} {T : Option (List Chal)} {q p a : Nat} {ps : List (List UInt8 × List UInt8)} (h : Inv bs cs s T q p ps) (hp : p ≤ bs.length) (ha : se bs p = a) (hA : At bs a) (hP : ¬ isP bs a) (hc : sc bs p = false) : T = none := by
  rcases h with ⟨h1, h2⟩ | ⟨h1, _, h3, h4⟩
  · exfalso
    rcases h1 with h1 | h1
    · have e : p = bs.length := by omega
      subst e
      have hst := stop_end spI bs bs.length (Nat.le_refl _)
      rw [se_no bs _ (by rw [hst]; omega), hst] at ha
      have := hA.lt
      omega
    · by_cases hlt : p < bs.length
      · have hst := stop_no spI bs p hlt (by rw [h1]; rfl)
        unfold sc at hc
        rw [hst, decide_eq_true ⟨hlt, h1⟩] at hc
        cases hc
      · have e : p = bs.length := by omega
        subst e
        have hst := stop_end spI bs bs.length (Nat.le_refl _)
        rw [se_no bs _ (by rw [hst]; omega), hst] at ha
        have := hA.lt
        omega
  · rw [(se_here bs p h1 h3).1] at ha
    subst ha
    rw [h4, if_neg hP]
theorem Inv.param {bs : List UInt8} {cs : List Chal} {s : List UInt8} {T : Option (List Chal)} {q p a : Nat} {ps : List (List UInt8 × List UInt8)} (h : Inv bs cs s T q p ps) (hp : p ≤ bs.length) (ha : se bs p = a) (hP : isP bs a) : Mo bs a true (cs ++ [⟨s, [], ps⟩]) = T := by
  rcases h with ⟨h1, h2⟩ | ⟨h1, _, h3, h4⟩
  · rw [← Mo_se bs true _ _ p (Nat.le_refl _) hp, ha] at h2
    exact h2
  · rw [(se_here bs p h1 h3).1] at ha
    subst ha
    rw [h4, if_pos hP]

/-- How params ends. -/
def pOk (b cb B : Nat) (bs : List UInt8) (cs : List Chal) (s : List UInt8) (T : Option (List Chal)) (q r : Nat) (w : World) (w' : World) : Prop :=
  ∃ p' r' ps, RD b bs p' r' w' ∧ CB B cb s [] ps w' ∧ Turn (fun k => k = b ∨ k = cb) B w w' ∧ Mo bs p' false (cs ++ [⟨s, [], ps⟩]) = T ∧ q ≤ p' ∧ p' ≤ bs.length ∧ stop spI bs (t6e bs q) ≤ p' ∧ r + p' ≤ r' + q ∧
    r' + 6 * q ≤ r + 5 * p' + 5 + stop spI bs (stop tcI bs p')
def pErr (b cb B : Nat) (bs : List UInt8) (T : Option (List Chal)) (q r : Nat) (w : World) (w' : World) : Prop :=
  T = none ∧ ∃ p' r', RD b bs p' r' w' ∧ Turn (fun k => k = b ∨ k = cb) B w w' ∧ q ≤ p' ∧ p' ≤ bs.length ∧ r ≤ r' ∧ r' + 8 * q ≤ r + 8 * bs.length + 16
def pPost (b cb B : Nat) (bs : List UInt8) (cs : List Chal) (s : List UInt8) (T : Option (List Chal)) (q r : Nat) (w : World) (e : Ending) (w' : World) : Prop :=
  (e = .returned .nilIface ∧ pOk b cb B bs cs s T q r w w') ∨ (∃ qq, e = .returned (.iface 80 (.pointer (some qq)))) ∧ pErr b cb B bs T q r w w'
/-- The loop's relation. -/
def pRel (b cb B : Nat) (bs : List UInt8) (cs : List Chal) (s : List UInt8) (T : Option (List Chal)) (q r : Nat) (w : World) (g : Nat) (wr : World) : Prop :=
  ∃ p r1 ps, q ≤ p ∧ p + g = bs.length ∧ RD b bs p r1 wr ∧ CB B cb s [] ps wr ∧ Turn (fun k => k = b ∨ k = cb) B w wr ∧ Inv bs cs s T q p ps ∧ ps.length ≤ p ∧ r + p ≤ r1 + q ∧ r1 + 6 * q ≤ r + 6 * p

end Go.Proofs.Qxb6613049aFmt
