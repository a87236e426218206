import Derived.Test.Qxb6613049aFmtL2
namespace Go.Proofs.Qxb6613049aFmt
open Go.RowKit

/-- No name in the answer is longer than N. -/
def nmAll (N : Nat) (out : List Chal) : Prop := ∀ c ∈ out, ∀ x ∈ c.ps, x.1.length ≤ N
theorem nmAll_push {N : Nat} {out : List Chal} (h : nmAll N out) (c : Chal) (hc : ∀ x ∈ c.ps, x.1.length ≤ N) : nmAll N (out ++ [c]) := by
  intro y hy
  rcases List.mem_append.1 hy with hy | hy
  · exact h y hy
  · simp at hy
    subst hy
    exact hc
theorem nm_step {N : Nat} {e : Elem} {o o' : Bool} {out out' : List Chal} (he : nmOk N e) (h : nmAll N out) (hs : stepEl e o out = some (o', out')) : nmAll N out' := by
  rcases e with _ | _ | ⟨nm, v⟩ | ⟨s, op⟩ | ⟨s, t⟩ | ⟨s, nm, v⟩
  · simp only [stepEl, Option.some.injEq, Prod.mk.injEq] at hs
    rw [← hs.2]
    exact h
  · cases hs
  · have he' : nm.length ≤ N := he
    simp only [stepEl] at hs
    by_cases ho : o = true
    · rw [if_pos ho] at hs
      unfold addP at hs
      cases hl : out.getLast? with
      | none => rw [hl] at hs; cases hs
      | some c =>
        rw [hl] at hs
        simp only at hs
        by_cases ha : c.ps.any (fun x => x.1 == Lib.toLowerA nm) = true
        · rw [if_pos ha] at hs; cases hs
        · rw [if_neg ha] at hs
          simp only [Option.some.injEq, Prod.mk.injEq] at hs
          rw [← hs.2]
          have hm : c ∈ out := List.mem_of_getLast? hl
          refine nmAll_push (fun y hy => h y (List.dropLast_subset _ hy)) _ ?_
          intro x hx
          rcases List.mem_append.1 hx with hx | hx
          · exact h c hm x hx
          · simp at hx
            subst hx
            show (Lib.toLowerA nm).length ≤ N
            rw [lower_len]
            exact he'
    · rw [if_neg ho] at hs; cases hs
  · simp only [stepEl, Option.some.injEq, Prod.mk.injEq] at hs
    rw [← hs.2]
    exact nmAll_push h _ (fun x hx => by simp at hx)
  · simp only [stepEl, Option.some.injEq, Prod.mk.injEq] at hs
    rw [← hs.2]
    exact nmAll_push h _ (fun x hx => by simp at hx)
  · have he' : nm.length ≤ N := he
    simp only [stepEl, Option.some.injEq, Prod.mk.injEq] at hs
    rw [← hs.2]
    refine nmAll_push h _ (fun x hx => ?_)
    simp at hx
    subst hx
    show (Lib.toLowerA nm).length ≤ N
    rw [lower_len]
    exact he'
theorem nm_run {N : Nat} : ∀ (es : List Elem) (o : Bool) (out out' : List Chal), (∀ e ∈ es, nmOk N e) → nmAll N out → run es o out = some out' → nmAll N out'
  | [], o, out, out', _, h, hr => by
    have : out = out' := by simpa [run] using hr
    rw [← this]
    exact h
  | e :: es, o, out, out', he, h, hr => by
    rw [run_cons] at hr
    cases hs : stepEl e o out with
    | none => rw [hs] at hr; cases hr
    | some y =>
      obtain ⟨o1, out1⟩ := y
      rw [hs] at hr
      exact nm_run es o1 out1 out' (fun e' h' => he e' (List.mem_cons_of_mem _ h')) (nm_step (he e (List.mem_cons_self ..)) h hs) hr
theorem nm_text (ts : List UInt8) (out : List Chal) (h : Mo ts 0 false [] = some out) : nmAll ts.length out := by
  have h1 := Mo_text ts 0 (Nat.zero_le _) false []
  rw [List.drop_zero, h] at h1
  refine nm_run _ _ _ _ ?_ (fun c hc => by simp at hc) h1
  intro e he
  obtain ⟨x, hx, rfl⟩ := List.mem_map.1 he
  have h2 := els_len ts false 0 0 x hx
  have h3 := cls_nm x 0 x.length
  generalize cls x 0 x.length = y at h3 ⊢
  rcases y with _ | _ | ⟨nm, v⟩ | ⟨a, op⟩ | ⟨a, t⟩ | ⟨a, nm, v⟩
  · trivial
  · trivial
  · exact Nat.le_trans (show nm.length ≤ x.length from h3) h2
  · trivial
  · trivial
  · exact Nat.le_trans (show nm.length ≤ x.length from h3) h2

/-- A loop over a count, in a world that only grows. -/
def l2Rel (n : Nat) (g : Nat) (t : Value) (w wr : World) : Prop := ∃ k : Nat, k + g = n ∧ t = .int .i64 k ∧ Below w.heap.size w wr

theorem MS.later {m : Nat} {ps : List (List UInt8 × List UInt8)} {w w' : World} (h : MS m ps w) (hb : Below w.heap.size w w') : MS m ps w' := h.same (hb.block m h.lt)
/-- The look-up of a name that is there. -/
theorem MS.hit {m : Nat} {ps : List (List UInt8 × List UInt8)} {w : World} (h : MS m ps w) (k : Nat) (nm va : List UInt8) (hk : ps[k]? = some (nm, va)) (hl : nm.length ≤ 4611686018427387904) :
    (Instr.lookup 37 (.map (some m)) (.string (mk nm)) true).run Tryf.prog w = .ok (.tuple #[.string (mk va), .bool true]) w := by
  obtain ⟨s, hr, hs⟩ := h.look nm hl
  have hm : (nm, va) ∈ ps := List.mem_of_getElem? hk
  have hany : ps.any (fun x => x.1 == nm) = true := List.any_eq_true.2 ⟨_, hm, by simp⟩
  rw [hany, hs va hm] at hr
  exact hr

end Go.Proofs.Qxb6613049aFmt
