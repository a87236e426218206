import Derived.Test.Qxb6613049aFmtL1
import Derived.Test.Qxb6613049aFmtTie
import Derived.Test.Qxb6613049aFmtCards
import Derived.ProofKit
import Derived.OpenShut
import Derived.ShutString
import Derived.SliceStrings
import Derived.ChangeOld
import Derived.Below
import Derived.Lay
import Derived.LaidMore
import Derived.Stop.Joined
import Derived.Stop.JoinedTold
import Derived.SevenToldRow
import Derived.SevenTiedAt
namespace Go.Proofs.Qxb6613049aFmt
open Go.ChangeShapes Go.WideShapes Go.ChangeAt Go.RowKit
open Go.ChangeMaps (open_string shut_string)
open Go.Extern.Stop Go.Stop Go.Extern

theorem own : ownKnob Tryf.prog.godebug = none := by kernel_rfl
theorem laidOut : laidOutB Tryf.prog = true := by kernel_rfl
theorem stops : Tryf.pinned.checked.prog.stops = ["fmt.errorf"] := by kernel_rfl
theorem stopKnobs : Tryf.pinned.checked.prog.stopKnobs = [] := by kernel_rfl
theorem quietOs (os : Os) : Stop.quiet Tryf.pinned.checked.prog os := by
  intro k hk
  rw [stopKnobs] at hk
  cases hk

/-- What the walk is told of a slice of strings that came in. -/
theorem ss_of {w : World} {a : Addr} {len cap : Nat} {ss : List ByteArray} (hl : len ≤ cap) (hs : ss.length = cap) (hc : ∀ i, i < ss.length → w.cell? (a.add i) = some (.string (ss.getD i ByteArray.empty))) :
    ∃ b off, SS w (some a) len cap b off (ss.take len) ∧ (0 < len → b < w.heap.size) := by
  have hlen : (ss.take len).length = len := by rw [List.length_take]; omega
  by_cases h0 : len = 0
  · subst h0
    exact ⟨0, 0, ⟨hlen, (fun e => by cases e), hl, (fun h => by omega), (fun j hj => by omega)⟩, (fun h => by omega)⟩
  · obtain ⟨b, off, spot⟩ := a
    have hspot : spot = none := by simpa [Addr.add] using World.cell?_spot (hc 0 (by omega))
    subst hspot
    have hc' : ∀ j, j < len → w.cell? ⟨b, off + j, none⟩ = some (.string ((ss.take len).getD j ⟨#[]⟩)) := by
      intro j hj
      have h1 := hc j (by omega)
      rw [Go.WideShapes.add_plain] at h1
      rw [h1, List.getD_eq_getElem?_getD, List.getD_eq_getElem?_getD, List.getElem?_take_of_lt hj]
      rfl
    refine ⟨b, off, ⟨hlen, (fun e => by cases e), hl, (fun _ => rfl), hc'⟩, fun h => World.block_lt_of_cell? _ _ (hc' 0 h)⟩

set_option maxRecDepth 100000 in
set_option maxHeartbeats 4000000 in
/-- The start: the listed tables laid by their data, the list handed in nil. -/
theorem witness (os : Os) (H : Type) (enc : TypeId × Value → H) (F : Interp) :
    ∃ (w : World) (tape : Tape) (i : Input), w.os = os ∧ (w.forCall tape i).Shaped Tryf.checked.prog ∧ i.vars = [] ∧ Input.okWide Tryf.checked.prog (w.forCall tape i) .any w.heap.size 3 i ∧
      (OpenSpec.ofChange Rows.fnChallengesMatchElementModelSpec).preRow enc Tryf.checked.prog Tryf.f3 [] false Rows.fnChallengesMatchElementModelRow.laid (w.forCall tape i).memory i.args ∧ ({} : Assume).holds Tryf.checked.prog (lone (Frame.enter Tryf.checked.prog 3 i.args .normal) [] (w.forCall tape i)) ∧ F.answers tape := by
  have hok : Input.okWideB Tryf.checked.prog ((World.laidAll Tryf.prog os Rows.fnChallengesMatchElementModelRow.laid).forCall (fun _ _ => 0) ⟨#[], #[.string ByteArray.empty, .int .i64 0, .int .i64 0, .slice none 0 0], []⟩) 3 ⟨#[], #[.string ByteArray.empty, .int .i64 0, .int .i64 0, .slice none 0 0], []⟩ = true := by kernel_rfl
  refine ⟨World.laidAll Tryf.prog os Rows.fnChallengesMatchElementModelRow.laid, F.over fun _ _ => 0, ⟨#[], #[.string ByteArray.empty, .int .i64 0, .int .i64 0, .slice none 0 0], []⟩, World.laidAll_os _ _ _, World.shaped_of_ZipB (by kernel_rfl) (by kernel_rfl), (Input.okWide_of_okWideB (base := 0) hok).1, (Input.okWide_of_okWideB hok).2,
    OpenSpec.preRow_of_B rfl 8 (by kernel_rfl) (by kernel_rfl) (by rw [MakeChecks.laidMetH_plain _ _ _ (by kernel_rfl)]; exact laidMet_laidAll _ (by kernel_rfl) (by kernel_rfl)), by
    simp only [Assume.holds]
    exact ⟨by simp, by simp, by simp, by simp, by simp⟩, F.over_answers _⟩

set_option maxRecDepth 100000 in
set_option maxHeartbeats 1600000 in
theorem t_lifted (os : Os) (started : os.Started) (H : Type) (enc : TypeId × Value → H) :
    ReturnsInTold none {} Tryf.checked os 3 .any Input.okWide ((OpenSpec.ofChange Rows.fnChallengesMatchElementModelSpec).preRow enc Tryf.prog Tryf.f3 [] false Rows.fnChallengesMatchElementModelRow.laid)
      (fun F => ((OpenSpec.ofChange Rows.fnChallengesMatchElementModelSpec).at F).post enc Tryf.prog Tryf.f3 false true false false) (aloneAtReturn Tryf.prog) nothingAlways := by
  refine returnsInTold_of_row (C := Tryf.checked) (s := OpenSpec.ofChange Rows.fnChallengesMatchElementModelSpec) (by kernel_rfl) own started (by kernel_rfl) Tryf.func3 (witness os H enc) ?_
  intro F W base args ds gs before _ hF hval0 hW _ _ _ _ _
  have hval : ∀ (j : Nat) t v, Tryf.f3.params[j]? = some t → args[j]? = some v → Value.okWide Tryf.prog W .any base t v := hval0
  have hW' := hW
  obtain ⟨p, q, hA0, hV, rfl, hfz, hnd⟩ := hW
  have hA : DataW.TrodAll enc Tryf.prog W 0 (fun _ => true) true Tryf.f3.params.toList args.toList ds p := hA0
  rw [Tryf.params3] at hA hval
  obtain ⟨v0, vs0, d0, ds0, p0, q0, hargs, rfl, rfl, h0, r0⟩ := trodAll_cons hA
  obtain ⟨v1, vs1, d1, ds1, p1, q1, rfl, rfl, rfl, h1, r1⟩ := trodAll_cons r0
  obtain ⟨v2, vs2, d2, ds2, p2, q2, rfl, rfl, rfl, h2, r2⟩ := trodAll_cons r1
  obtain ⟨v3, vs3, d3, ds3, p3, q3, rfl, rfl, rfl, h3, r3⟩ := trodAll_cons r2
  obtain ⟨rfl, rfl, rfl⟩ := trodAll_nil r3
  obtain rfl : args = #[v0, v1, v2, v3] := by cases args; simp_all
  obtain ⟨rfl, rfl⟩ := trodVars_none hV
  obtain ⟨s, rfl, rfl, rfl, ws⟩ := open_string Tryf.underlying9 (hval 0 9 v0 rfl rfl) h0
  obtain ⟨pp, rfl, rfl, rfl, wp⟩ := open_int Tryf.underlying3 (hval 1 3 v1 rfl rfl) h1
  obtain ⟨rr, rfl, rfl, rfl, wr⟩ := open_int Tryf.underlying3 (hval 2 3 v2 rfl rfl) h2
  obtain ⟨a3, len3, cap3, rfl⟩ := okWide_slice Tryf.underlying22 (hval 3 22 v3 rfl rfl)
  have k3 := h3
  have lt3 : ∀ x ∈ p3, x.block < W.heap.size := by obtain ⟨m, hm⟩ := k3; exact DataW.trod_lt m _ _ _ hm
  obtain ⟨b, off, xs, hss, hb⟩ : ∃ b off xs, SS W a3 len3 cap3 b off xs ∧ (0 < len3 → b < W.heap.size) := by
    obtain ⟨fuel, hf⟩ := h3
    rcases open_strings Tryf.underlying22 Tryf.underlying9 (by kernel_rfl) hf with ⟨hcs, _⟩ | ⟨x, l, c, ss, hcs, _, hl, hm, hz, _, hcell, hsz⟩
    · simp [Value.cells] at hcs
      obtain ⟨rfl, rfl, rfl⟩ := hcs
      exact ⟨0, 0, [], ⟨rfl, (fun _ => ⟨rfl, rfl⟩), Nat.le_refl _, (fun h => by omega), (fun j hj => by omega)⟩, (fun h => by omega)⟩
    · simp [Value.cells] at hcs
      obtain ⟨rfl, rfl, rfl⟩ := hcs
      obtain ⟨b, off, h1, h2⟩ := ss_of hl (by simpa using hz) hcell
      exact ⟨b, off, _, h1, h2⟩
  clear hA0 hval0
  have hlaw := law_any F.told s.data.toList pp rr a3 len3 cap3 b off xs W hF hss hb
  rw [← eq_mk s] at hlaw
  refine hlaw.mono fun e W' ⟨he, bel⟩ => ?_
  subst he
  exact ⟨_, rfl, _, _, _, [], _, [], hW', trodAll_mk1 (shut_bool Tryf.underlying4 _),
    trodAll_cons_mk (shut_string Tryf.underlying9 ws) (trodAll_cons_mk (shut_int Tryf.underlying3 wp) (trodAll_cons_mk (shut_int Tryf.underlying3 wr) (trodAll_cons_mk (Below.trod laidOut (by kernel_rfl) (of_decide_eq_true (by kernel_rfl)) k3 bel lt3) trodAll_mk0))), rfl, bel.frame _, fun h => by cases h⟩

theorem fnChallengesMatchElementModel_told : Rows.FnChallengesMatchElementModelToldSaid :=
  Claim7.holds_of_told_tied_any_at .later 3 Tryf.f3 "fmt.errorf" [] [] _ _ _ _ _ (by kernel_rfl) rfl rfl rfl laidOut (by kernel_rfl) rfl ⟨rfl, rfl, rfl, rfl, rfl, rfl, rfl⟩ rfl rfl (by kernel_rfl) (by kernel_rfl) Tryf.func3 (by kernel_rfl)
    (of_decide_eq_true (by kernel_rfl)) (by unfold Func.isWrapper; first | (rw [if_pos (by decide +kernel)]; kernel_rfl) | (rw [if_neg (by decide +kernel)]; exact ⟨rfl, rfl⟩)) stops.symm rfl stopKnobs.symm (by kernel_rfl)
    (by kernel_rfl) (by kernel_rfl) (by kernel_rfl) (by kernel_rfl) (by kernel_rfl) (by kernel_rfl) (by kernel_rfl) (by kernel_rfl) (by kernel_rfl) rfl (by kernel_rfl) rfl rfl
    rfl rfl
    rfl (by kernel_rfl) (by kernel_rfl) (by kernel_rfl) (by decide) (by kernel_rfl) fnChallengesMatchElementModel_row_tie
    (OpenClaim.moreEntering_of (by kernel_rfl) (by kernel_rfl) (by kernel_rfl) (by kernel_rfl) (by kernel_rfl) (by kernel_rfl) (by kernel_rfl) (by kernel_rfl) (by kernel_rfl) (by kernel_rfl))
    ⟨_, WideRow.started_initial, quietOs _⟩
    (fun os started _ H enc _ => t_lifted os started H enc)
end Go.Proofs.Qxb6613049aFmt
