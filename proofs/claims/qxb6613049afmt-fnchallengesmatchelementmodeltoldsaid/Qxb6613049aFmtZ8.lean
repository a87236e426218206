import Derived.Test.Qxb6613049aFmtZ7
import Derived.BigRegion
import Derived.Deep.RegionLaw
import Derived.Deep.AppendLies
namespace Go.Proofs.Qxb6613049aFmt
open Go.RowKit

/-- An append whose run is known, for the walk. -/
theorem append_run {P : Program} (w : World) {ops : Array Oper} {rest : List Oper} {o : Oper} {a : Act} {Q : Exit → Act → World → Prop} (hgd : o.guard = none) (s x : Operand) (t tx : TypeId)
    (ho : o.op = .call { callee := .builtin .append, args := #[s, x], argTypes := #[t, tx] }) (v u : Value) (hs : a.eval s = v) (hx : a.eval x = u) {v' : Value} {w' : World}
    (hr : (Builtin.append_ #[t, tx] o.type #[v, u]).run P w = .ok v' w') (h : wpList P ops Q rest (a.put o.dst v') w') : wpList P ops Q (o :: rest) a w :=
  wpList_plain hgd fun _ hK => by
    unfold Oper.wp execOp
    simp only [ho, resolve, invoke, builtin, Sem.run_bind, Sem.run_pure, Result.andThen_ok, List.map_toArray, List.map_cons, List.map_nil, hs, hx, hr]
    exact hK _ _ h

theorem own_form {w : World} {B : Nat} {e : TypeId} {k n : Nat} {v : Value} {xs : List Value} (h : w.ownsRow B e k v n xs) (hn : 0 < n) : ∃ g cap, v = .slice (some ⟨g, 0, none⟩) n cap := by
  rcases h.2 with ⟨_, h0⟩ | ⟨g, cap, cur, rfl, _⟩
  · omega
  · exact ⟨g, cap, rfl⟩
theorem step_to (els : List (List UInt8)) (i : Nat) (hi : i < els.length) (o : Bool) (out : List Chal) (T : Option (List Chal)) (x : Elem) (hx : cls els[i] 0 els[i].length = x) (h : run ((els.drop i).map (fun e => cls e 0 e.length)) o out = T) :
    (match stepEl x o out with
      | none => none
      | some (o', out') => run ((els.drop (i + 1)).map (fun e => cls e 0 e.length)) o' out') = T := by
  rw [List.drop_eq_getElem_cons hi, List.map_cons, hx, run_cons] at h
  exact h

theorem World.size_alloc (w : World) (o : Obj) : (w.alloc o).heap.size = w.heap.size + 1 := by simp
theorem new4 (W : World) (b : Nat) (hb : b = W.heap.size) (a0 a1 a2 a3 : Value) (t : TypeId) : ∀ j u, [a0, a1, a2, a3][j]? = some u → (W.alloc (.cells #[a0, a1, a2, a3] t)).cell? ((⟨b, 0, none⟩ : Addr).add j) = some u := by
  subst hb
  intro j u hj
  rw [Addr.add_lit, Nat.zero_add]
  exact (World.cell?_alloc_new (w := W) _ _ _).trans (by simpa using hj)
theorem new1 (W : World) (b : Nat) (hb : b = W.heap.size) (y : Value) (t : TypeId) : ∀ j u, [y][j]? = some u → (W.alloc (.cells #[y] t)).cell? ((⟨b, 0, none⟩ : Addr).add j) = some u := by
  subst hb
  intro j u hj
  rw [Addr.add_lit, Nat.zero_add]
  exact (World.cell?_alloc_new (w := W) _ _ _).trans (by simpa using hj)
theorem ZS.fresh {B C : Nat} {v : Value} {ms : List MC} {m : Nat} {ns : List (List UInt8)} {w1 w : World} (h : ZS B C v ms m ns w1 w) (m' : Nat) (hm' : m' = w.heap.size) : ZS B C v ms m' [] w1 (w.alloc (.map #[] 0)) := by
  subst hm'
  exact ⟨h.wm.same (fun g _ hl _ => Below.heap_alloc _ _ _ hl), by have := h.cs; simp; omega, MB.made w, h.below.alloc h.bs _, h.bs, by have := h.bs; simp; omega⟩
theorem ZS.low {B C : Nat} {v : Value} {ms : List MC} {m : Nat} {ns : List (List UInt8)} {w1 w : World} (h : ZS B C v ms m ns w1 w) : ∀ y ∈ ms, ∀ g, y.block g → g < w.heap.size := by
  intro y hy g hg
  rcases hg with hg | hg
  · exact ((h.wm.rows y hy).1.lt g hg).2
  · exact ((h.wm.rows y hy).2.lt g hg).2
theorem ZS.pushed {B C C' : Nat} {v v' : Value} {ms : List MC} {m : Nat} {ns : List (List UInt8)} {w1 w w2 : World} (mm : MC) (X : Obj) (h : ZS B C v ms m ns w1 w) (hC' : C' ≤ w.heap.size) (hC : ∀ y ∈ ms, ∀ g, y.block g → g < C')
    (hm : w.ownsRow B 9 1 mm.vn mm.ns.length (strCells mm.ns) ∧ w.ownsRow B 9 1 mm.vv mm.vs.length (strCells mm.vs)) (hh : ∀ g, mm.block g → C' ≤ g) (ht : ∀ g, mm.vn.ownBlock = some g → mm.vv.ownBlock ≠ some g)
    (ho : w2.ownsRow B 41 4 v' (ms.length + 1) (mcCells ms ++ [.string (mk mm.s), .string (mk mm.t), mm.vn, mm.vv])) (hg : (w.alloc X).grownBy w2 v.ownBlock) : ZS B C' v' (ms ++ [mm]) m ns w1 w2 := by
  have hsz : (w.alloc X).heap.size = w.heap.size + 1 := by simp
  have hs := hg.size
  refine ⟨h.wm.push mm X hC hm hh ht ho hg, by omega, ?_, (h.below.alloc h.bs X).grown hg (by have := h.bs; omega) (fun k hk => (h.wm.row.lt k hk).1), h.bm, by have := h.bs; omega⟩
  have hlt := h.mb.lt
  refine h.mb.same ((hg.block m (by omega) ?_).trans (Below.heap_alloc _ _ _ hlt))
  intro e
  obtain ⟨cs, t, f, hc⟩ := own_cells h.wm.row m e.symm
  exact h.mb.ne hc rfl

theorem MB.made' (w : World) (m : Nat) (hm : m = w.heap.size) : MB m [] (w.alloc (.map #[] 0)) := by
  subst hm
  exact MB.made w
theorem turned_other {w w' : World} {m g : Nat} (h : w.mapTurned w' m) (hg : g ≠ m) : w'.heap[g]? = w.heap[g]? := by
  have hs : w'.heap.size = w.heap.size := by
    obtain ⟨es, clock, es', clock', hb, rfl⟩ := h
    simp [ChangeMaps.setBlock]
  by_cases hl : g < w.heap.size
  · exact (turned_turn h (fun k => k = m) w.heap.size (.inr rfl)).block g hl hg
  · rw [Array.getElem?_eq_none (by omega), Array.getElem?_eq_none (by omega)]
theorem below_turned {w w' : World} {B m : Nat} (h : w.mapTurned w' m) (hB : B ≤ m) : Below B w w' := by
  have t := turned_turn h (fun k => k = m) B (.inr rfl)
  exact ⟨t.os, t.tape, t.output, t.size, fun k hk => turned_other h (by omega)⟩
theorem alloc_at (W : World) (o : Obj) (b : Nat) (hb : b = W.heap.size) : (W.alloc o).heap[b]? = some o := by
  subst hb
  exact heap_alloc_new W o
theorem cells_lt {w : World} {g : Nat} {o : Obj} (h : w.heap[g]? = some o) : g < w.heap.size := (Array.getElem?_eq_some_iff.1 h).1
/-- A challenge with its first parameter: the state before it joins the list. -/
theorem sp_state {B C : Nat} {v : Value} {ms : List MC} {m m' cb : Nat} {ns : List (List UInt8)} {w1 w2 w5 : World} (ln va : List UInt8) (h : ZS B C v ms m ns w1 w2) (hb : Below w2.heap.size w2 w5) (hm : MB m' [ln] w5) (hm' : w2.heap.size ≤ m') (hcb : w2.heap.size ≤ cb) (hne : cb ≠ m') (u u' : Value) :
    ZS B C v ms m' [ln] w1 ((((w5.setCell ⟨cb, 2, none⟩ u).setCell ⟨cb, 3, none⟩ u').alloc (.cells #[.string (mk ln)] 9)).alloc (.cells #[.string (mk va)] 9)) ∧
    ((((w5.setCell ⟨cb, 2, none⟩ u).setCell ⟨cb, 3, none⟩ u').alloc (.cells #[.string (mk ln)] 9)).alloc (.cells #[.string (mk va)] 9)).ownsRow B 9 1 (.slice (some ⟨w5.heap.size, 0, none⟩) 1 1) 1 (strCells [ln]) ∧
    ((((w5.setCell ⟨cb, 2, none⟩ u).setCell ⟨cb, 3, none⟩ u').alloc (.cells #[.string (mk ln)] 9)).alloc (.cells #[.string (mk va)] 9)).ownsRow B 9 1 (.slice (some ⟨w5.heap.size + 1, 0, none⟩) 1 1) 1 (strCells [va]) := by
  have hs := h.bs
  have hs5 := hb.size
  have hml := hm.lt
  have hb6 : Below w2.heap.size w2 ((w5.setCell ⟨cb, 2, none⟩ u).setCell ⟨cb, 3, none⟩ u') := (hb.setCell (p := ⟨cb, 2, none⟩) hcb u).setCell (p := ⟨cb, 3, none⟩) hcb u'
  have hm6 : MB m' [ln] ((w5.setCell ⟨cb, 2, none⟩ u).setCell ⟨cb, 3, none⟩ u') := hm.same (by rw [Below.heap_setCell _ _ _ _ (Ne.symm hne), Below.heap_setCell _ _ _ _ (Ne.symm hne)])
  have s6 : ((w5.setCell ⟨cb, 2, none⟩ u).setCell ⟨cb, 3, none⟩ u').heap.size = w5.heap.size := by rw [size_setCell, size_setCell]
  generalize (w5.setCell ⟨cb, 2, none⟩ u).setCell ⟨cb, 3, none⟩ u' = w6 at hb6 hm6 s6
  have s7 : (w6.alloc (.cells #[.string (mk ln)] 9)).heap.size = w5.heap.size + 1 := by rw [← s6]; simp
  have hb8 : Below w2.heap.size w2 ((w6.alloc (.cells #[.string (mk ln)] 9)).alloc (.cells #[.string (mk va)] 9)) := (hb6.alloc (by omega) _).alloc (by omega) _
  have s8 := hb8.size
  refine ⟨⟨h.wm.same (fun g _ hl _ => hb8.block g hl), by have := h.cs; omega, ?_, h.below.trans (hb8.mono hs), by omega, by omega⟩, ?_, ?_⟩
  · exact hm6.same ((Below.heap_alloc _ _ _ (by have := hm6.lt; omega)).trans (Below.heap_alloc _ _ _ hm6.lt))
  · have h1 := World.ownsRow_lit (base := B) w6 (e := 9) (size := 1) #[.string (mk ln)] 1 (by omega) (by unfold maxLen; omega) rfl
    rw [s6] at h1
    exact h1.alloc _
  · have h1 := World.ownsRow_lit (base := B) (w6.alloc (.cells #[.string (mk ln)] 9)) (e := 9) (size := 1) #[.string (mk va)] 1 (by omega) (by unfold maxLen; omega) rfl
    rw [s7] at h1
    exact h1

theorem ZS.cells {B C g cap : Nat} {mi : List MC} {mc : MC} {m : Nat} {ns : List (List UInt8)} {w1 w : World} (h : ZS B C (.slice (some ⟨g, 0, none⟩) (mi.length + 1) cap) (mi ++ [mc]) m ns w1 w) :
    w.ownsRow B 41 4 (.slice (some ⟨g, 0, none⟩) (mi.length + 1) cap) (mi.length + 1) (mcCells (mi ++ [mc])) := by
  have h1 := h.wm.row
  rw [List.length_append, List.length_singleton] at h1
  exact h1
theorem row_cells {B g cap : Nat} {mi : List MC} {mc : MC} {w : World} (h : w.ownsRow B 41 4 (.slice (some ⟨g, 0, none⟩) (mi.length + 1) cap) (mi.length + 1) (mcCells (mi ++ [mc]))) :
    w.cell? ⟨g, mi.length * 4 + 2, none⟩ = some mc.vn ∧ w.cell? ⟨g, mi.length * 4 + 3, none⟩ = some mc.vv ∧ w.frozen? ⟨g, mi.length * 4 + 2, none⟩ = false ∧ w.frozen? ⟨g, mi.length * 4 + 3, none⟩ = false := by
  have hl : (mcCells mi).length = mi.length * 4 := mcCells_length mi
  refine ⟨?_, ?_, h.frozenAt _, h.frozenAt _⟩
  · rw [h.cellAt _ (by omega), mcCells_push, List.getElem?_append_right (by omega), hl, show mi.length * 4 + 2 - mi.length * 4 = 2 from by omega]
    rfl
  · rw [h.cellAt _ (by omega), mcCells_push, List.getElem?_append_right (by omega), hl, show mi.length * 4 + 3 - mi.length * 4 = 3 from by omega]
    rfl
/-- The list's row while one of its texts' rows grows. -/
theorem row_grown {B g cap n : Nat} {mi : List MC} {mc : MC} {w w2 : World} {u : Value} {xs : List Value} (X : Obj) (h : w.ownsRow B 41 4 (.slice (some ⟨g, 0, none⟩) (mi.length + 1) cap) (mi.length + 1) (mcCells (mi ++ [mc]))) (hu : w.ownsRow B 9 1 u n xs) (hg : (w.alloc X).grownBy w2 u.ownBlock) :
    w2.ownsRow B 41 4 (.slice (some ⟨g, 0, none⟩) (mi.length + 1) cap) (mi.length + 1) (mcCells (mi ++ [mc])) := by
  refine (h.alloc X).kept hg (.inr ?_)
  intro e
  exact own_ne hu h (by decide) g e.symm rfl
/-- What a growing row of texts and a store into the list's row leave. -/
theorem grown_other {B g cap n o : Nat} {ms : List MC} {w w2 : World} {u y : Value} {xs : List Value} (X : Obj) (h : w.ownsRow B 41 4 (.slice (some ⟨g, 0, none⟩) n cap) n (mcCells ms)) {k : Nat} (hu : w.ownsRow B 9 1 u k xs) (hg : (w.alloc X).grownBy w2 u.ownBlock) (b : Nat) (ob : Obj) (hb : w.heap[b]? = some ob) (hne : ∀ cs t, ob = .cells cs t (0, 0) → t ≠ 41 ∧ t ≠ 9) :
    (w2.setCell ⟨g, o, none⟩ y).heap[b]? = some ob := by
  have hlt := cells_lt hb
  have hbg : b ≠ g := by
    intro e
    subst e
    rcases h.2 with ⟨h1, _⟩ | ⟨g', cap', cur, h1, _, hgg, _⟩
    · cases h1
    · injection h1 with h1
      injection h1 with h1
      injection h1 with h1
      subst h1
      rw [hb] at hgg
      injection hgg with hgg
      exact (hne _ _ hgg).1 rfl
  have hbu : some b ≠ u.ownBlock := by
    intro e
    rcases hu.2 with ⟨rfl, _⟩ | ⟨g', cap', cur, rfl, _, hgg, _⟩
    · cases e
    · injection e with e
      have e' : b = g' := e
      subst e'
      rw [hb] at hgg
      injection hgg with hgg
      exact (hne _ _ hgg).2 rfl
  rw [Below.heap_setCell _ _ _ _ hbg, hg.block b (by rw [World.size_alloc]; omega) hbu, Below.heap_alloc _ _ _ hlt]
  exact hb
theorem MB.obj {m : Nat} {ns : List (List UInt8)} {w : World} (h : MB m ns w) : ∃ ob, w.heap[m]? = some ob ∧ ∀ cs t, ob ≠ .cells cs t (0, 0) := by
  obtain ⟨D, ⟨es, clock, hb, r⟩, h2⟩ := h
  exact ⟨_, hb, fun cs t e => by cases e⟩
theorem ZS.named {B C g cap : Nat} {mi : List MC} {mc : MC} {m : Nat} {ns : List (List UInt8)} {w1 w w2 : World} {vn' : Value} {x : List UInt8} (X : Obj) (h : ZS B C (.slice (some ⟨g, 0, none⟩) (mi.length + 1) cap) (mi ++ [mc]) m ns w1 w)
    (ho : w2.ownsRow B 9 1 vn' (mc.ns.length + 1) (strCells mc.ns ++ [.string (mk x)])) (hg : (w.alloc X).grownBy w2 mc.vn.ownBlock) (hf : ∀ g, vn'.ownBlock = some g → mc.vn.ownBlock = some g ∨ w.heap.size ≤ g) :
    ZS B C (.slice (some ⟨g, 0, none⟩) (mi.length + 1) cap) (mi ++ [{ mc with ns := mc.ns ++ [x], vn := vn' }]) m ns w1 (w2.setCell ⟨g, mi.length * 4 + 2, none⟩ vn') := by
  have hr := (h.wm.rows mc (by simp)).1
  have hs := hg.size
  rw [World.size_alloc] at hs
  have hcs := h.cs
  have hbs := h.bs
  refine ⟨by rw [Nat.mul_comm]; exact h.wm.name X hcs ho hg hf, by rw [size_setCell]; omega, ?_, ?_, h.bm, by rw [size_setCell]; omega⟩
  · obtain ⟨ob, hob, hne⟩ := h.mb.obj
    exact h.mb.same ((grown_other X h.cells hr hg m ob hob (fun cs t e => absurd e (hne cs t))).trans hob.symm)
  · exact ((h.below.alloc hbs X).grown hg (by rw [World.size_alloc]; omega) (fun k hk => (hr.lt k hk).1)).setCell (p := ⟨g, mi.length * 4 + 2, none⟩) (h.cells.lt g rfl).1 _
theorem ZS.valued {B C g cap : Nat} {mi : List MC} {mc : MC} {m : Nat} {ns : List (List UInt8)} {w1 w w2 : World} {vv' : Value} {x : List UInt8} (X : Obj) (h : ZS B C (.slice (some ⟨g, 0, none⟩) (mi.length + 1) cap) (mi ++ [mc]) m ns w1 w)
    (ho : w2.ownsRow B 9 1 vv' (mc.vs.length + 1) (strCells mc.vs ++ [.string (mk x)])) (hg : (w.alloc X).grownBy w2 mc.vv.ownBlock) (hf : ∀ g, vv'.ownBlock = some g → mc.vv.ownBlock = some g ∨ w.heap.size ≤ g) :
    ZS B C (.slice (some ⟨g, 0, none⟩) (mi.length + 1) cap) (mi ++ [{ mc with vs := mc.vs ++ [x], vv := vv' }]) m ns w1 (w2.setCell ⟨g, mi.length * 4 + 3, none⟩ vv') := by
  have hr := (h.wm.rows mc (by simp)).2
  have hs := hg.size
  rw [World.size_alloc] at hs
  have hcs := h.cs
  have hbs := h.bs
  refine ⟨by rw [Nat.mul_comm]; exact h.wm.value X hcs ho hg hf, by rw [size_setCell]; omega, ?_, ?_, h.bm, by rw [size_setCell]; omega⟩
  · obtain ⟨ob, hob, hne⟩ := h.mb.obj
    exact h.mb.same ((grown_other X h.cells hr hg m ob hob (fun cs t e => absurd e (hne cs t))).trans hob.symm)
  · exact ((h.below.alloc hbs X).grown hg (by rw [World.size_alloc]; omega) (fun k hk => (hr.lt k hk).1)).setCell (p := ⟨g, mi.length * 4 + 3, none⟩) (h.cells.lt g rfl).1 _

set_option maxHeartbeats 8000000 in
set_option maxRecDepth 100000 in
theorem zzModel_any (ts : List UInt8) (w : World) (hn : ts.length ≤ 1048576) :
    Calls Tryf.prog 7 #[.string (mk ts)] w (zmPost ts w) := by
  have hi41 : Tryf.prog.info? 41 = some Tryf.t41 := by kernel_rfl
  have hmk : ∀ w : World, (Instr.makeMap 47 none).run Tryf.prog w = .ok (.map (some w.heap.size)) (w.alloc (.map #[] 0)) := fun w => rfl
  generalize hT : Mo ts 0 false [] = T
  have HT := hide hT
  clear hT
  have hel := els_len ts false 0 0
  have hec := els_count ts ts.length 0 0 false (by omega)
  have hrun : run ((elsOf ts false 0 0).map (fun e => cls e 0 e.length)) false [] = T := by
    have := Mo_text ts 0 (Nat.zero_le _) false []
    rw [List.drop_zero] at this
    rw [this]
    exact HT.out
  have c17 := zzSplit_any ts w hn
  generalize elsOf ts false 0 0 = els at c17 hel hec hrun
  have HEL := hide hel
  have HRUN := hide hrun
  clear hel hrun
  have hec1 := hec.1
  have hec2 := hec.2
  clear hec
  go_enter Tryf.func7, Tryf.ntmps7
  go_wp2_with (go_at_call 17; refine c17.mono ?_; clear c17; rintro e1 w1 ⟨v1, rfl, hown1, hb1⟩; have HO1 := hide hown1; have HB1 := hide hb1; clear hb1; obtain ⟨ge, cape, rfl⟩ := own_form hown1 (by omega); clear hown1)
  go_loopg [5, 6, 7, 8] els.length (fun g t5 t6 t7 t8 wr => zmRel w1.heap.size els T w1 g t5 t6 t7 t8 wr)
  case atStart =>
    refine ⟨0, false, [], w1.heap.size, [], w1.heap.size, [], by omega, rfl, rfl, rfl, ⟨WM.nil _ _ _, by simp, MB.made w1, (Below.refl _ _).alloc (Nat.le_refl _) _, Nat.le_refl _, by simp⟩, rfl, (fun e => by cases e), Nat.le_refl _, Nat.le_refl _, (fun y hy => by simp at hy), ?_⟩
    exact HRUN.out
  case round =>
    obtain ⟨i, o, out, m, ns, C, ms, hig, rfl, rfl, rfl, hzs, hmcs, hop, hml, hnl, hyl, hru⟩ := hrel
    have HZ := hide hzs
    have HM := hide hmcs
    have HP := hide hop
    have HY := hide hyl
    have HR := hide hru
    have Hg := hide hig
    have hin : i ≤ els.length := by omega
    clear hzs hmcs hop hyl hru hig HRUN
    by_cases hi : i < els.length
    · have hlt : (i : Int) < (els.length : Int) := by omega
      have hge := (HO1.out.lt ge rfl).2
      have hcell : wr.cell? ⟨ge, i, none⟩ = some (.string (mk els[i])) := by
        rw [HZ.out.below.cell (p := ⟨ge, i, none⟩) hge, HO1.out.cellAt i (by omega)]
        unfold strCells
        rw [List.getElem?_map, List.getElem?_eq_getElem hi]
        rfl
      have hlen := HEL.out els[i] (List.getElem_mem hi)
      have c18 := zzClassify_any els[i] wr (by omega)
      have hnm := cls_nm els[i] 0 els[i].length
      have HS := hide (fun x hx => step_to els i hi o out T x hx HR.out)
      generalize hxx : cls els[i] 0 els[i].length = x at c18 hnm
      have HX := hide (HS.out x hxx)
      clear HS hxx
      generalize els[i] = el at hcell hlen c18 hnm
      rcases x with _ | _ | ⟨nm, v⟩ | ⟨s, op⟩ | ⟨s, t⟩ | ⟨s, nm, v⟩
      · have HTT : Hid (run ((els.drop (i + 1)).map (fun e => cls e 0 e.length)) o out = T) := HX.out
        simp only [elC] at c18
        clear HX
        go_wp2_with (go_at_call 18; refine c18.mono ?_; clear c18; rintro e2 w2 ⟨rfl, hb2⟩; have Z2 := hide (HZ.out.later hb2); clear hb2)
        go_roundg (els.length - (i + 1))
        case measure => have := Hg.out; omega
        case rel => exact ⟨i + 1, o, out, m, ns, C, ms, by omega, by go_num, rfl, rfl, Z2.out.later ((Below.refl _ _).alloc (Nat.le_refl _) _), HM.out, HP.out, by omega, by omega, fun y hy => ⟨by have := (HY.out y hy).1; omega, by have := (HY.out y hy).2; omega⟩, HTT.out⟩
      · have HTT : Hid (none = T) := HX.out
        simp only [elC] at c18
        clear HX
        go_wp2_with (go_at_call 18; refine c18.mono ?_; clear c18; rintro e2 w2 ⟨rfl, hb2⟩; have Z2 := hide (HZ.out.later hb2); clear hb2)
        go_ret2
        exact ⟨HB1.out.trans ((Z2.out.later ((Below.refl _ _).alloc (Nat.le_refl _) _)).below.mono HB1.out.size), .inr ⟨rfl, HT.out.trans HTT.out.symm⟩⟩
      · have hnm' : nm.length ≤ 1048576 := by have : nm.length ≤ el.length := hnm; omega
        simp only [elC] at c18
        cases o with
        | false =>
          have HTT : Hid (none = T) := HX.out
          clear HX
          go_wp2_with (go_at_call 18; refine c18.mono ?_; clear c18; rintro e2 w2 ⟨rfl, hb2⟩; have Z2 := hide (HZ.out.later hb2); clear hb2)
          go_ret2
          exact ⟨HB1.out.trans ((Z2.out.later ((Below.refl _ _).alloc (Nat.le_refl _) _)).below.mono HB1.out.size), .inr ⟨rfl, HT.out.trans HTT.out.symm⟩⟩
        | true =>
          obtain ⟨mi, mc, hmm, hns⟩ := HP.out rfl
          subst hmm hns
          obtain ⟨ci, c, hout, hmi, hmc⟩ := HM.out.last
          subst hout
          have HMI := hide hmi
          have HMC := hide hmc
          have hcn : Hid (mc.ns = c.ps.map (fun x => x.1)) := by injection hmc with a1 a2; injection a2 with b1 b2; injection b2 with c1 c2
          have hll := lower_len nm
          have c19 := fun w => zzLower_any nm w hnm'
          have HX2 := HX.out
          simp only [stepEl, if_true, addP_last] at HX2
          generalize Lib.toLowerA nm = ln at HX2 hll c19
          have hml' : mi.length + 1 ≤ i := by rw [List.length_append, List.length_singleton] at hml; exact hml
          have hform : ∃ g cap, u5 = .slice (some ⟨g, 0, none⟩) (mi.length + 1) cap := by
            have h1 := HZ.out.wm.row
            rw [List.length_append, List.length_singleton] at h1
            exact own_form h1 (by omega)
          obtain ⟨g, cap, rfl⟩ := hform
          cases hh : mc.ns.any (fun x => x == ln) with
          | true =>
            have hpa : c.ps.any (fun x => x.1 == ln) = true := by
              rw [hcn.out, List.any_map] at hh
              exact hh
            rw [hpa, if_pos rfl] at HX2
            have HTT : Hid (none = T) := HX2
            clear HX HX2 hpa hmi hmc hml
            go_wp2_with (first | (go_at_call 18; refine c18.mono ?_; clear c18; rintro e2 w2 ⟨rfl, hb2⟩; have Z2 := hide (HZ.out.later hb2); clear hb2) | (go_at_call 19; refine (c19 _).mono ?_; clear c19; rintro e4 w4 ⟨rfl, hb4⟩; have Z4 := hide ((Z2.out.later ((Below.refl _ _).alloc (Nat.le_refl _) _)).later hb4); clear hb4; have hlk := Z4.out.mb.look ln (by omega); rw [hh] at hlk))
            go_ret2
            exact ⟨HB1.out.trans (Z4.out.below.mono HB1.out.size), .inr ⟨rfl, HT.out.trans HTT.out.symm⟩⟩
          | false =>
            have hpa : c.ps.any (fun x => x.1 == ln) = false := by
              rw [hcn.out, List.any_map] at hh
              exact hh
            rw [hpa, if_neg (by simp)] at HX2
            have HTT : Hid (run ((els.drop (i + 1)).map (fun e => cls e 0 e.length)) true (ci ++ [{ c with ps := c.ps ++ [(ln, v)] }]) = T) := HX2
            clear HX HX2 hpa hmi hmc hml
            have hnl' : mc.ns.length ≤ 1048577 := by omega
            have hvl' : mc.vs.length ≤ 1048577 := by have := (HY.out mc (by simp)).2; omega
            go_wp2_with (first | (go_at_call 18; refine c18.mono ?_; clear c18; rintro e2 w2 ⟨rfl, hb2⟩; have Z2 := hide (HZ.out.later hb2); clear hb2) | (go_at_call 19; refine (c19 _).mono ?_; clear c19; rintro e4 w4 ⟨rfl, hb4⟩; have Z4 := hide ((Z2.out.later ((Below.refl _ _).alloc (Nat.le_refl _) _)).later hb4); have hlk := Z4.out.mb.look ln (by omega); rw [hh] at hlk; obtain ⟨w5, hst, hz5, hsz5, hoth⟩ := Z4.out.seen ln (by omega) (by omega); have Z5 := hide hz5; have hm2 := Z2.out.mb.lt; have he5 : w5.heap[w2.heap.size]? = some (.cells #[.int .i64 2, .string ⟨#[]⟩, .string ⟨#[]⟩, .string (mk nm), .string (mk v), .bool false] 49 (0, 0)) := ((hoth w2.heap.size (by omega)).trans ((hb4.block w2.heap.size (by simp)).trans (heap_alloc_new w2 _))); have E5 := hide he5; obtain ⟨x4, xf4⟩ := block_cells he5 4 _ rfl; obtain ⟨c52, c53, f52, f53⟩ := row_cells hz5.cells; clear hb4 hz5 hsz5 hoth he5 hm2) | (at_builtin; obtain ⟨v6, w6, hr6, ho6, hg6, hf6⟩ := append_str (w5.alloc (.cells #[.string (mk ln)] 9)) w1.heap.size mc.vn mc.ns.length (strCells mc.ns) ((Z5.out.wm.rows mc (by simp)).1.alloc _) ⟨w5.heap.size, 0, none⟩ (mk ln) 22 (by simp) (by omega) (by have := Z5.out.bs; rw [World.size_alloc]; omega); obtain ⟨g6, c6, rfl⟩ := own_form ho6 (by omega); refine append_run _ rfl _ _ 22 22 rfl _ _ rfl rfl hr6 ?_; have O6 := hide ho6; have G6 := hide hg6; have F6 : Hid (∀ g, (Value.slice (some ⟨g6, 0, none⟩) (mc.ns.length + 1) c6).ownBlock = some g → mc.vn.ownBlock = some g ∨ w5.heap.size ≤ g) := (fun g hg => (match hf6 g hg with | .inl h => .inl h | .inr h => .inr (by rw [World.size_alloc] at h; omega))); obtain ⟨c62, c63, f62, f63⟩ := row_cells (row_grown _ Z5.out.cells (Z5.out.wm.rows mc (by simp)).1 hg6); clear hr6 ho6 hg6 hf6))
            have z7 := Z5.out.named _ O6.out G6.out F6.out
            have e7 := grown_other (o := mi.length * 4 + 2) (y := .slice (some ⟨g6, 0, none⟩) (mc.ns.length + 1) c6) _ Z5.out.cells (Z5.out.wm.rows mc (by simp)).1 G6.out w2.heap.size _ E5.out (fun cs t e => by injection e with e1 e2 e3; subst e2; exact ⟨by decide, by decide⟩)
            generalize w6.setCell ⟨g, mi.length * 4 + 2, none⟩ (.slice (some ⟨g6, 0, none⟩) (mc.ns.length + 1) c6) = w7 at z7 e7 ⊢
            have Z7 := hide z7
            have E7 := hide e7
            obtain ⟨d4, df4⟩ := block_cells e7 4 _ rfl
            obtain ⟨-, d3, -, df3⟩ := row_cells z7.cells
            have hgl := z7.cells.lt g rfl
            have hgl2 := hgl.2
            have hel7 := cells_lt e7
            have RV := hide (z7.wm.rows _ (List.mem_append_right _ (List.mem_singleton.2 rfl))).2
            clear z7 e7 hgl
            go_region_law ((refine step_append_lies _ (by rfl) _ _ _ (by rfl) w1.heap.size 9 Tryf.t9 _ 1 16 Tryf.underlying22 info9 rfl rfl rfl rfl (by decide) mc.vv mc.vs.length (strCells mc.vs) (by rfl) (by exact RV.out.alloc _) ⟨w7.heap.size, 0, none⟩ 1 1 [.string (mk v)] (by rfl) (by rfl) (by exact new1 _ _ rfl _ _) (by intro u hu; simp at hu; subst hu; rfl) (by omega) (by unfold maxLen; omega) (by omega) (by have := Z7.out.bs; simp; omega) (w7.heap.size + 1) (by simp) ?_; intro g8 c8 w8 hown8 hgrow8 hat8 hlt8; have O8 := hide hown8; have G8 : Hid ((w7.alloc (.cells #[.string (mk v)] 9)).grownBy w8 mc.vv.ownBlock) := ⟨hgrow8.os, hgrow8.tape, hgrow8.output, hgrow8.size, hgrow8.block⟩; have F8 : Hid (∀ g, (Value.slice (some ⟨g8, 0, none⟩) (mc.vs.length + 1) c8).ownBlock = some g → mc.vv.ownBlock = some g ∨ w7.heap.size ≤ g) := (fun g' hg' => by injection hg' with hg'; have hg2 : g8 = g' := hg'; subst hg2; exact (match hat8 with | .inl h => .inl h | .inr h => .inr (by omega))); obtain ⟨-, c83, -, f83⟩ := row_cells (row_grown _ Z7.out.cells RV.out G8.out); clear hown8 hgrow8 hat8 hlt8))
            all_goals
              go_wp2
              go_roundg (els.length - (i + 1))
              case measure => have := Hg.out; omega
              case rel =>
                have z9 := Z7.out.valued _ O8.out G8.out F8.out
                refine ⟨i + 1, true, ci ++ [{ c with ps := c.ps ++ [(ln, v)] }], m, mc.ns ++ [ln], C, mi ++ [⟨mc.s, mc.t, mc.ns ++ [ln], mc.vs ++ [v], .slice (some ⟨g6, 0, none⟩) (mc.ns.length + 1) c6, .slice (some ⟨g8, 0, none⟩) (mc.vs.length + 1) c8⟩], by omega, by go_num, rfl, rfl, ?_, ?_, fun _ => ⟨mi, _, rfl, rfl⟩, by rw [List.length_append, List.length_singleton]; omega, by rw [List.length_append, List.length_singleton]; omega, ?_, HTT.out⟩
                · first | exact z9 | exact z9.later (Below.refl _ _).drew
                · refine HMI.out.push _ _ ?_
                  have h := HMC.out
                  injection h with a1 a2
                  injection a2 with b1 b2
                  injection b2 with c1 c2
                  simp only [List.map_append, List.map_cons, List.map_nil, ← c1, ← c2, a1, b1]
                · intro y hy
                  rcases List.mem_append.1 hy with hy | hy
                  · have := HY.out y (List.mem_append_left _ hy)
                    exact ⟨by omega, by omega⟩
                  · have h2 := HY.out mc (by simp)
                    simp at hy
                    subst hy
                    exact ⟨by show (mc.ns ++ [ln]).length ≤ _; rw [List.length_append, List.length_singleton]; omega, by show (mc.vs ++ [v]).length ≤ _; rw [List.length_append, List.length_singleton]; omega⟩
      · have HTT : Hid (run ((els.drop (i + 1)).map (fun e => cls e 0 e.length)) op (out ++ [⟨s, [], []⟩]) = T) := HX.out
        simp only [elC] at c18
        clear HX
        go_wp2_with (first | (go_at_call 18; refine c18.mono ?_; clear c18; rintro e2 w2 ⟨rfl, hb2⟩; have Z2 := hide (HZ.out.later hb2); clear hb2) | (at_builtin; refine wpList_append_own _ rfl _ _ 25 rfl w1.heap.size 41 Tryf.t41 _ 4 80 Tryf.underlying25 hi41 rfl rfl rfl rfl (by decide) _ _ _ rfl (by exact (((Z2.out.wm.row.alloc _).alloc _).alloc _).alloc _) _ 1 1 [.string (mk s), .string (mk []), .slice none 0 0, .slice none 0 0] rfl rfl ?c1 ?c2 ?c3 ?c4 ?c5 ?_))
        case c1 => exact new4 _ _ (by simp) _ _ _ _ _
        case c2 => intro u hu; simp at hu; rcases hu with rfl | rfl | rfl | rfl <;> rfl
        case c3 => unfold maxLen; omega
        case c4 => omega
        case c5 => have := Z2.out.bs; simp; omega
        intro v' w5 hown' hgrow hnil
        have W5 := hide hown'
        have G5 := hide hgrow
        clear hnil hown' hgrow
        go_wp2
        go_roundg (els.length - (i + 1))
        case measure => have := Hg.out; omega
        case rel =>
          have z3 := ((Z2.out.later ((Below.refl _ _).alloc (Nat.le_refl _) (.cells #[.int .i64 3, .string (mk s), .string ⟨#[]⟩, .string ⟨#[]⟩, .string ⟨#[]⟩, .bool op] 49))).fresh (w2.heap.size + 1) (by simp)).later ((Below.refl _ _).alloc (Nat.le_refl _) (.cells #[.string (mk s), .string ⟨#[]⟩, .slice none 0 0, .slice none 0 0] 41))
          have z4 := z3.pushed ⟨s, [], [], [], .slice none 0 0, .slice none 0 0⟩ _ (Nat.le_refl _) z3.low ⟨World.ownsRow_nil _ _ _ _, World.ownsRow_nil _ _ _ _⟩ (fun g hg => by rcases hg with hg | hg <;> cases hg) (fun g hg => by cases hg) W5.out G5.out
          refine ⟨i + 1, op, out ++ [⟨s, [], []⟩], _, [], _, ms ++ [⟨s, [], [], [], .slice none 0 0, .slice none 0 0⟩], by omega, by go_num, rfl, rfl, z4, HM.out.push _ _ rfl, fun _ => ⟨ms, _, rfl, rfl⟩, by rw [List.length_append, List.length_singleton]; omega, Nat.zero_le _, ?_, HTT.out⟩
          intro y hy
          rcases List.mem_append.1 hy with hy | hy
          · exact ⟨by have := (HY.out y hy).1; omega, by have := (HY.out y hy).2; omega⟩
          · simp at hy
            subst hy
            exact ⟨Nat.zero_le _, Nat.zero_le _⟩
      · have HTT : Hid (run ((els.drop (i + 1)).map (fun e => cls e 0 e.length)) false (out ++ [⟨s, t, []⟩]) = T) := HX.out
        simp only [elC] at c18
        clear HX
        go_wp2_with (first | (go_at_call 18; refine c18.mono ?_; clear c18; rintro e2 w2 ⟨rfl, hb2⟩; have Z2 := hide (HZ.out.later hb2); clear hb2) | (at_builtin; refine wpList_append_own _ rfl _ _ 25 rfl w1.heap.size 41 Tryf.t41 _ 4 80 Tryf.underlying25 hi41 rfl rfl rfl rfl (by decide) _ _ _ rfl (by exact (((Z2.out.wm.row.alloc _).alloc _).alloc _).alloc _) _ 1 1 [.string (mk s), .string (mk t), .slice none 0 0, .slice none 0 0] rfl rfl ?c1 ?c2 ?c3 ?c4 ?c5 ?_))
        case c1 => exact new4 _ _ (by simp) _ _ _ _ _
        case c2 => intro u hu; simp at hu; rcases hu with rfl | rfl | rfl | rfl <;> rfl
        case c3 => unfold maxLen; omega
        case c4 => omega
        case c5 => have := Z2.out.bs; simp; omega
        intro v' w5 hown' hgrow hnil
        have W5 := hide hown'
        have G5 := hide hgrow
        clear hnil hown' hgrow
        go_wp2
        go_roundg (els.length - (i + 1))
        case measure => have := Hg.out; omega
        case rel =>
          have z3 := ((Z2.out.later ((Below.refl _ _).alloc (Nat.le_refl _) (.cells #[.int .i64 4, .string (mk s), .string (mk t), .string ⟨#[]⟩, .string ⟨#[]⟩, .bool false] 49))).fresh (w2.heap.size + 1) (by simp)).later ((Below.refl _ _).alloc (Nat.le_refl _) (.cells #[.string (mk s), .string (mk t), .slice none 0 0, .slice none 0 0] 41))
          have z4 := z3.pushed ⟨s, t, [], [], .slice none 0 0, .slice none 0 0⟩ _ (Nat.le_refl _) z3.low ⟨World.ownsRow_nil _ _ _ _, World.ownsRow_nil _ _ _ _⟩ (fun g hg => by rcases hg with hg | hg <;> cases hg) (fun g hg => by cases hg) W5.out G5.out
          refine ⟨i + 1, false, out ++ [⟨s, t, []⟩], _, [], _, ms ++ [⟨s, t, [], [], .slice none 0 0, .slice none 0 0⟩], by omega, by go_num, rfl, rfl, z4, HM.out.push _ _ rfl, fun _ => ⟨ms, _, rfl, rfl⟩, by rw [List.length_append, List.length_singleton]; omega, Nat.zero_le _, ?_, HTT.out⟩
          intro y hy
          rcases List.mem_append.1 hy with hy | hy
          · exact ⟨by have := (HY.out y hy).1; omega, by have := (HY.out y hy).2; omega⟩
          · simp at hy
            subst hy
            exact ⟨Nat.zero_le _, Nat.zero_le _⟩
      · have hnm' : nm.length ≤ 1048576 := by have : nm.length ≤ el.length := hnm; omega
        have HTT : Hid (run ((els.drop (i + 1)).map (fun e => cls e 0 e.length)) true (out ++ [⟨s, [], [(Lib.toLowerA nm, v)]⟩]) = T) := HX.out
        simp only [elC] at c18
        clear HX
        have hll := lower_len nm
        have c19 := fun w => zzLower_any nm w hnm'
        generalize Lib.toLowerA nm = ln at HTT hll c19
        go_wp2_with (first | (go_at_call 18; refine c18.mono ?_; clear c18; rintro e2 w2 ⟨rfl, hb2⟩; have Z2 := hide (HZ.out.later hb2); clear hb2) | (go_at_call 19; refine (c19 _).mono ?_; clear c19; rintro e4 w4 ⟨rfl, hb4⟩; have hb40 : Below w2.heap.size w2 w4 := (((((Below.refl w2.heap.size w2).alloc (Nat.le_refl _) _).alloc (by simp) _).alloc (by simp; omega) _).trans (hb4.mono (by simp; omega))); have hm4 : MB (w2.heap.size + 1) [] w4 := (MB.same (MB.made' (w2.alloc _) (w2.heap.size + 1) (by simp)) ((hb4.block (w2.heap.size + 1) (by simp)).trans (Below.heap_alloc _ _ _ (by simp)))); obtain ⟨w5, hst, hmb5, htn⟩ := hm4.store ln (by omega) (by simp); have B5 := hide (hb40.trans (below_turned htn (by omega))); have M5 := hide hmb5; have he4 : w4.heap[w2.heap.size]? = some (.cells #[.int .i64 5, .string (mk s), .string ⟨#[]⟩, .string (mk nm), .string (mk v), .bool false] 49 (0, 0)) := ((hb4.block w2.heap.size (by simp; omega)).trans ((Below.heap_alloc _ _ _ (by simp; omega)).trans ((Below.heap_alloc _ _ _ (by simp)).trans (heap_alloc_new w2 _)))); have hc4 : w4.heap[w2.heap.size + 1 + 1]? = some (.cells #[.string (mk s), .string ⟨#[]⟩, .slice none 0 0, .slice none 0 0] 41 (0, 0)) := ((hb4.block (w2.heap.size + 1 + 1) (by simp)).trans (alloc_at _ _ _ (by simp))); have he5 := (turned_other htn (by omega)).trans he4; have hc5 := (turned_other htn (by omega)).trans hc4; have hcl := cells_lt hc5; have hel := cells_lt he5; have hcl1 : ∀ u, w2.heap.size + 1 + 1 < (w5.setCell ⟨w2.heap.size + 1 + 1, 2, none⟩ u).heap.size := (fun u => by rw [size_setCell]; exact hcl); have hel1 : ∀ u, w2.heap.size < (w5.setCell ⟨w2.heap.size + 1 + 1, 2, none⟩ u).heap.size := (fun u => by rw [size_setCell]; exact hel); have hcl2 : w2.heap.size + 1 + 1 < w5.heap.size + 1 := (by omega); have hel2 : w2.heap.size < w5.heap.size + 1 := (by omega); obtain ⟨x4, xf4⟩ := block_cells he5 4 _ rfl; obtain ⟨y0, yf0⟩ := block_cells hc5 0 _ rfl; obtain ⟨y1, yf1⟩ := block_cells hc5 1 _ rfl; obtain ⟨y2, yf2⟩ := block_cells hc5 2 _ rfl; obtain ⟨y3, yf3⟩ := block_cells hc5 3 _ rfl; clear hb4 hb40 hm4 hmb5 htn he4 hc4 he5 hc5) | (at_builtin; refine wpList_append_own _ rfl _ _ 25 rfl w1.heap.size 41 Tryf.t41 _ 4 80 Tryf.underlying25 hi41 rfl rfl rfl rfl (by decide) _ _ _ rfl (by exact (sp_state ln v Z2.out B5.out M5.out (by omega) (by omega) (by omega) _ _).1.wm.row.alloc _) _ 1 1 [.string (mk s), .string (mk []), .slice (some ⟨w5.heap.size, 0, none⟩) 1 1, .slice (some ⟨w5.heap.size + 1, 0, none⟩) 1 1] rfl rfl ?c1 ?c2 ?c3 ?c4 ?c5 ?_))
        case c1 => exact new4 _ _ (by simp) _ _ _ _ _
        case c2 => intro u hu; simp at hu; rcases hu with rfl | rfl | rfl | rfl <;> rfl
        case c3 => unfold maxLen; omega
        case c4 => omega
        case c5 => have := Z2.out.bs; have := B5.out.size; simp; omega
        intro v' w9 hown' hgrow hnil
        have W5 := hide hown'
        have G5 := hide hgrow
        clear hnil hown' hgrow
        go_wp2
        go_roundg (els.length - (i + 1))
        case measure => have := Hg.out; omega
        case rel =>
          obtain ⟨z3, r1, r2⟩ := sp_state (m' := w2.heap.size + 1) (cb := w2.heap.size + 1 + 1) ln v Z2.out B5.out M5.out (by omega) (by omega) (by omega) (.slice (some ⟨w5.heap.size, 0, none⟩) 1 1) (.slice (some ⟨w5.heap.size + 1, 0, none⟩) 1 1)
          have z4 := z3.pushed (C' := w5.heap.size) ⟨s, [], [ln], [v], .slice (some ⟨w5.heap.size, 0, none⟩) 1 1, .slice (some ⟨w5.heap.size + 1, 0, none⟩) 1 1⟩ _ (by rw [World.size_alloc, World.size_alloc, size_setCell, size_setCell]; omega) (fun y hy g hg => by have := Z2.out.low y hy g hg; have := B5.out.size; omega) ⟨r1, r2⟩
            (fun g hg => by rcases hg with hg | hg <;> simp [Value.ownBlock] at hg <;> omega) (fun g hg => by simp [Value.ownBlock] at hg ⊢; omega) W5.out G5.out
          refine ⟨i + 1, true, out ++ [⟨s, [], [(ln, v)]⟩], _, [ln], _, ms ++ [⟨s, [], [ln], [v], .slice (some ⟨w5.heap.size, 0, none⟩) 1 1, .slice (some ⟨w5.heap.size + 1, 0, none⟩) 1 1⟩], by omega, by go_num, rfl, rfl, z4, HM.out.push _ _ rfl, fun _ => ⟨ms, _, rfl, rfl⟩, by rw [List.length_append, List.length_singleton]; omega, by simp, ?_, HTT.out⟩
          intro y hy
          rcases List.mem_append.1 hy with hy | hy
          · exact ⟨by have := (HY.out y hy).1; omega, by have := (HY.out y hy).2; omega⟩
          · simp at hy
            subst hy
            exact ⟨by simp, by simp⟩
    · have hlt : decide (i < els.length) = false := by simp; omega
      have HTT : Hid (some out = T) := by
        have h := HR.out
        rw [List.drop_eq_nil_of_le (by omega)] at h
        exact h
      go_wp2
      go_ret2
      have hml2 : out.length = ms.length := by have := congrArg List.length HM.out; rw [List.length_map, List.length_map] at this; omega
      exact ⟨HB1.out.trans (HZ.out.below.mono HB1.out.size), .inl ⟨_, out, C, ms, rfl, HT.out.trans HTT.out.symm, HZ.out.wm.mono HB1.out.size, HM.out, by omega, fun y hy => by have := (HY.out y hy).1; omega⟩⟩

end Go.Proofs.Qxb6613049aFmt
