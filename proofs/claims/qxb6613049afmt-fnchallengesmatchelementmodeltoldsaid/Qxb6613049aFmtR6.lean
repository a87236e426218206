import Derived.Test.Qxb6613049aFmtR5
namespace Go.Proofs.Qxb6613049aFmt
open Go.RowKit Go.Extern.Stop Go.Stop Go.Extern

theorem WriteByte_any (B b : Nat) (l : List UInt8) (c : UInt8) (w : World) (h : Lib.IsBuilder 73 5 B b (Lib.byteCells l) w) (hlen : l.length + 1 ≤ 140737488355328) (hBw : B ≤ w.heap.size) :
    Calls Tryf.prog 47 #[.pointer (some ⟨b, 0, none⟩), .int .u8 (c.toNat : Int)] w fun e w' => e = .returned .nilIface ∧ Lib.IsBuilder 73 5 B b (Lib.byteCells (l ++ [c])) w' ∧ Below B w w' := by
  refine (Any.Builder_WriteByte { Tryf.lays159 with } Tryf.Builder_Extra_159 B b (Lib.byteCells l) (c.toNat : Int) w h (by rw [Lib.byteCells_length]; exact hlen) hBw).mono ?_
  rintro e w' ⟨rfl, h1, h2⟩
  refine ⟨rfl, .inr ?_, h2⟩
  have : Lib.byteCells (l ++ [c]) = Lib.byteCells l ++ [.int .u8 (c.toNat : Int)] := by simp [Lib.byteCells]
  rw [this]
  exact h1

theorem owns_same {w w' : World} {B : Nat} {e : TypeId} {size : Nat} {v : Value} {n : Nat} {xs : List Value} (h : w.ownsRow B e size v n xs) (hs : ∀ k, B ≤ k → k < w.heap.size → w'.heap[k]? = w.heap[k]?) : w'.ownsRow B e size v n xs := by
  refine ⟨h.1, ?_⟩
  rcases h.2 with hn | ⟨g, cap, cur, rfl, hb, hgg, rest⟩
  · exact .inl hn
  · have hlt : g < w.heap.size := by
      rcases Nat.lt_or_ge g w.heap.size with h' | h'
      · exact h'
      · simp [Array.getElem?_eq_none h'] at hgg
    exact .inr ⟨g, cap, cur, rfl, hb, (hs g hb hlt).trans hgg, rest⟩
theorem bld_same {w w' : World} {T e : TypeId} {B b : Nat} {bs : List Value} (h : Lib.IsBuilder T e B b bs w) (hs : ∀ k, B ≤ k → k < w.heap.size → w'.heap[k]? = w.heap[k]?) : Lib.IsBuilder T e B b bs w' := by
  rcases h with h | h
  · have hlt := h.lt
    obtain ⟨hB, v, hb, hown, hne⟩ := h
    exact .inl ⟨hB, v, (hs b hB hlt).trans hb, owns_same hown hs, hne⟩
  · have hlt := h.lt
    obtain ⟨hB, v, hb, hown, hne⟩ := h
    exact .inr ⟨hB, v, (hs b hB hlt).trans hb, owns_same hown hs, hne⟩
theorem bld_only {w w' : World} {T e : TypeId} {B b c : Nat} {bs : List Value} (h : Lib.IsBuilder T e B b bs w) (ho : Only c w w') (hc : c < B) : Lib.IsBuilder T e B b bs w' :=
  bld_same h (fun k hk _ => ho.block k (by omega))

/-- What value does at the reader's place d. -/
def valPost (b : Nat) (bs : List UInt8) (d r : Nat) (w : World) (e : Ending) (w' : World) : Prop :=
  match PV bs d with
  | some (v, j) => e = .returned (.tuple #[.string (mk v), .nilIface]) ∧ ∃ r', RD b bs j r' w' ∧ Turn (fun k => k = b) w.heap.size w w' ∧ r + (j - d) ≤ r' ∧ r' ≤ r + (j - d) + 2
  | none => (∃ q, e = .returned (.tuple #[.string (mk []), .iface 80 (.pointer (some q))])) ∧ ∃ p' r', RD b bs p' r' w' ∧ Turn (fun k => k = b) w.heap.size w w' ∧ d ≤ p' ∧ p' ≤ bs.length ∧ r ≤ r' ∧ r' ≤ r + (bs.length - d) + 3

theorem valPost_some {b : Nat} {bs : List UInt8} {d r : Nat} {w : World} {e : Ending} {w' : World} (v : List UInt8) (j : Nat) (hp : PV bs d = some (v, j)) (he : e = .returned (.tuple #[.string (mk v), .nilIface])) (r' : Nat) (h1 : RD b bs j r' w') (h2 : Turn (fun k => k = b) w.heap.size w w') (h3 : r + (j - d) ≤ r') (h4 : r' ≤ r + (j - d) + 2) : valPost b bs d r w e w' := by
  unfold valPost
  rw [hp]
  exact ⟨he, r', h1, h2, h3, h4⟩
theorem valPost_none {b : Nat} {bs : List UInt8} {d r : Nat} {w : World} {e : Ending} {w' : World} (hp : PV bs d = none) (q : Addr) (he : e = .returned (.tuple #[.string (mk []), .iface 80 (.pointer (some q))])) (p' r' : Nat) (h1 : RD b bs p' r' w') (h2 : Turn (fun k => k = b) w.heap.size w w') (h3 : d ≤ p') (h4 : p' ≤ bs.length) (h5 : r ≤ r') (h6 : r' ≤ r + (bs.length - d) + 3) : valPost b bs d r w e w' := by
  unfold valPost
  rw [hp]
  exact ⟨⟨q, he⟩, p', r', h1, h2, h3, h4, h5, h6⟩

theorem mk_nil_iff (l : List UInt8) : (mk l = (⟨#[]⟩ : ByteArray)) ↔ l = [] := by
  constructor
  · intro h
    exact mk_inj l [] h
  · rintro rfl
    rfl
theorem fld_nil_iff (bs : List UInt8) (i j : Nat) (hj : j ≤ bs.length) (hij : i ≤ j) : fldOf bs i j = [] ↔ j = i := by
  constructor
  · intro h
    have := fldOf_length bs i j hj
    rw [h] at this
    simp at this
    omega
  · rintro rfl
    exact fldOf_nil bs j j (Nat.le_refl _)
theorem mk_beqs (l m : List UInt8) : (mk l == mk m) = (l == m) := by
  show (l.toArray == m.toArray) = _
  simp
theorem mk_list (l : List UInt8) : (mk l).toList = l := by rw [ByteArray.toList_eq, mk_data]
theorem mk_empty (l : List UInt8) (h : l = []) : (mk l).toList.isEmpty = true := by rw [mk_list, h]; rfl
theorem mk_full (l : List UInt8) (h : l ≠ []) : (mk l).toList.isEmpty = false := by rw [mk_list]; simpa using h

set_option maxHeartbeats 1000000 in
/-- No quote: a token, or an error. -/
theorem value_token (F : Interp) (b : Nat) (bs : List UInt8) (d r : Nat) (w : World) (hF : F.answers w.tape) (h : RD b bs d r w) (hd : d ≤ bs.length) (hr : r ≤ 3000000000000) (hn : bs.length ≤ 1048576) (hq : ¬ (d < bs.length ∧ byt bs d = 34)) :
    Calls Tryf.prog 40 #[.pointer (some ⟨b, 0, none⟩)] w (valPost b bs d r w) := by
  have hat := at_any b bs d r 34 w h (by omega) hn
  have e34 : atB bs d 34 = false := by
    cases e : atB bs d 34 with
    | false => rfl
    | true =>
      unfold atB at e
      rw [Bool.and_eq_true] at e
      exact absurd ⟨of_decide_eq_true e.1, eq_of_beq e.2⟩ hq
  rw [e34] at hat
  clear e34
  have o1 := one_le bs d
  have t1 := stop_ge tcI bs d
  have t2 := stop_le tcI bs d hd
  have o2 := one_le bs (stop tcI bs d)
  have hPV : Hid (PV bs d = if stop tcI bs d = d then none else some (fldOf bs d (stop tcI bs d), stop tcI bs d)) := by
    show PV bs d = _
    unfold PV
    rw [if_neg hq]
  by_cases ht : stop tcI bs d = d
  · have hbe := mk_empty (fldOf bs d (stop tcI bs d)) ((fld_nil_iff bs d _ t2 t1).2 ht)
    have HT := hide ht
    clear ht
    go_enter Tryf.func40, Tryf.ntmps40
    go_wp2_with (first
      | (go_at_call 34; refine hat.mono ?_; clear hat; rintro e1 w1 ⟨rfl, hrd1, ho1⟩; have H1 := hide hrd1; have O1 := hide ho1; clear hrd1 ho1)
      | (go_at_call 26; refine (token_any b bs d (r + one bs d) _ H1.out hd (by omega) hn).mono ?_; rintro e2 w2 ⟨rfl, hrd2, ho2⟩; have H2 := hide hrd2; have O2 := hide ho2; clear hrd2 ho2)
      | (go_at_call 27; refine (errorf_any F b bs _ _ _ _ (by rw [O2.out.tape, O1.out.tape]; exact hF) H2.out).mono ?_; rintro e3 w3 ⟨qq, rfl, hb3⟩))
    go_ret2
    have hO := O1.out.trans O2.out
    refine valPost_none (by rw [hPV.out, if_pos HT.out]) qq rfl (stop tcI bs d) _ (H2.out.turn (turn_below hb3 (fun _ => False)) H2.out.lt (fun e => e)) ((hO.turn (fun k => k = b) rfl _).trans (turn_below (hb3.mono (by rw [hO.size]; exact Nat.le_refl _)) _)) t1 t2 (by omega) (by omega)
  · have hbe := mk_full (fldOf bs d (stop tcI bs d)) (fun e => ht ((fld_nil_iff bs d _ t2 t1).1 e))
    go_enter Tryf.func40, Tryf.ntmps40
    go_wp2_with (first
      | (go_at_call 34; refine hat.mono ?_; clear hat; rintro e1 w1 ⟨rfl, hrd1, ho1⟩; have H1 := hide hrd1; have O1 := hide ho1; clear hrd1 ho1)
      | (go_at_call 26; refine (token_any b bs d (r + one bs d) _ H1.out hd (by omega) hn).mono ?_; rintro e2 w2 ⟨rfl, hrd2, ho2⟩; have H2 := hide hrd2; have O2 := hide ho2; clear hrd2 ho2))
    go_ret2
    have hO := O1.out.trans O2.out
    exact valPost_some _ _ (by rw [hPV.out, if_neg ht]) rfl _ H2.out (hO.turn (fun k => k = b) rfl _) (by omega) (by omega)

end Go.Proofs.Qxb6613049aFmt
