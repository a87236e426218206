import Derived.Test.Qxb6003863aFmtW4
import Derived.Test.Qxb6003863aFmtFmt
import Derived.Deep.AppendSrc
namespace Go.Proofs.Qxb6003863aFmt
open Go.RowKit Go.Extern.Stop Go.Stop Go.Extern

/-- A slice's bytes as numbers, at an address. -/
def Bytes (w : World) (b o : Nat) (xs : List Int) : Prop := ∀ (j : Nat) (v : Value), (xs.map (Value.int .u8))[j]? = some v → w.cell? ((⟨b, o, none⟩ : Addr).add j) = some v

theorem info5 : ∃ i, Tryf.prog.info? 5 = some i ∧ i.zero = some (.int .u8 0) ∧ i.size = 1 ∧ i.bytes = 1 := by
  have h : (Tryf.prog.info? 5).map (fun i => (i.zero, i.size, i.bytes)) = some (some (.int .u8 0), 1, 1) := by kernel_rfl
  obtain ⟨i, hi, he⟩ := Option.map_eq_some_iff.1 h
  simp only [Prod.mk.injEq] at he
  exact ⟨i, hi, he.1, he.2.1, he.2.2⟩

/-- An append whose run is known, for the walk. -/
theorem wpList_append_eq {P : Program} (w : World) {ops : Array Oper} {rest : List Oper} {o : Oper} {a : Act} {Q : Exit → Act → World → Prop} (hgd : o.guard = none) (s x : Operand) (t tx : TypeId)
    (ho : o.op = .call { callee := .builtin .append, args := #[s, x], argTypes := #[t, tx] }) (v u : Value) (hs : a.eval s = v) (hx : a.eval x = u) {v' : Value} {w' : World}
    (hr : (Builtin.append_ #[t, tx] o.type #[v, u]).run P w = .ok v' w') (h : wpList P ops Q rest (a.put o.dst v') w') : wpList P ops Q (o :: rest) a w :=
  wpList_plain hgd fun _ hK => by
    unfold Oper.wp execOp
    simp only [ho, resolve, invoke, builtin, Sem.run_bind, Sem.run_pure, Result.andThen_ok, List.map_toArray, List.map_cons, List.map_nil, hs, hx, hr]
    exact hK _ _ h

/-- The first k bytes of a text that lies in memory, as numbers. -/
theorem first_bytes (b off n : Nat) (bs : List UInt8) (w : World) (hc : ∀ j, j < n → w.cell? ⟨b, off + j, none⟩ = some (.int .u8 (byt bs j))) (k : Nat) (hk : k ≤ n) :
    ∃ xs : List Int, xs.length = k ∧ Bytes w b off xs := by
  refine ⟨(List.range k).map (byt bs), by simp, ?_⟩
  intro j v hj
  simp only [List.getElem?_map] at hj
  by_cases hjn : j < k
  · rw [List.getElem?_range hjn] at hj
    simp only [Option.map_some, Option.some.injEq] at hj
    rw [← hj, Addr.add_lit]
    exact hc j (by omega)
  · rw [List.getElem?_eq_none (by simp; omega)] at hj
    cases hj

set_option maxRecDepth 100000 in
set_option maxHeartbeats 400000 in
theorem clip_any (b off n cap : Nat) (bs : List UInt8) (w : World) (hn : bs.length = n) (hmax : n ≤ 1048576) (hcap : n ≤ cap) (hbig : cap ≤ 9223372036854775807)
    (hlt : b < w.heap.size) (hc : ∀ j, j < n → w.cell? ⟨b, off + j, none⟩ = some (.int .u8 (byt bs j))) :
    Calls Tryf.prog 41 #[.slice (some ⟨b, off, none⟩) n cap] w fun e w' => ∃ b' o' cap' xs, e = .returned (.slice (some ⟨b', o', none⟩) xs.length cap') ∧ Bytes w' b' o' xs ∧ b' < w'.heap.size ∧ Below w.heap.size w w' := by
  by_cases h40 : n ≤ 40
  · obtain ⟨xs, hl, hx⟩ := first_bytes b off n bs w hc n (Nat.le_refl _)
    go_enter Tryf.func41, Tryf.ntmps41
    go_wp2
    go_ret
    exact ⟨b, off, cap, xs, by rw [hl]; rfl, hx, hlt, Below.refl _ _⟩
  · obtain ⟨xs, hl, hx⟩ := first_bytes b off n bs w hc 40 (by omega)
    obtain ⟨i, hi, hz, hs, hby⟩ := info5
    have holds : (Builtin.firstCells i.size 40 (.slice (some ⟨b, off, none⟩) 40 40)).run Tryf.prog w.drew = .ok (xs.map (Value.int .u8)).toArray w.drew :=
      run_firstCells_some w.drew i.size 40 ⟨b, off, none⟩ 40 40 _ (by simp [hs, hl]) (fun j v hj => by simpa using hx j v hj)
    have hsrc : Src Tryf.prog i.size 9 (.string ⟨#[46, 46, 46]⟩) 3 (([46, 46, 46] : List Int).map (Value.int .u8)) w := by
      rw [hs]; exact Src.ofString w Tryf.underlying9 ⟨#[46, 46, 46]⟩
    have happ := run_append_grow_src (P := Tryf.prog) w 22 9 22 5 i (.int .u8 0) Tryf.underlying22 hi hz (some ⟨b, off, none⟩) 40 40 _ holds (.string ⟨#[46, 46, 46]⟩) 3 _ hsrc (by omega) (by omega) (by rw [hby]; decide)
    rw [← List.map_append] at happ
    have hl2 : (xs ++ [46, 46, 46]).length = 40 + 3 := by simp [hl]
    generalize (xs ++ [46, 46, 46] : List Int) = ys at happ hl2
    generalize Builtin.zeroCells (Value.int .u8 0).cells (grownCap w (40 + 3) 40 5 - (40 + 3)) = zs at happ
    generalize grownCap w (40 + 3) 40 5 = g at happ
    clear hx holds hsrc hl
    have hn40 : ¬ (n : Int) ≤ 40 := by omega
    go_enter Tryf.func41, Tryf.ntmps41
    go_wp2_with (at_builtin; refine wpList_append_eq _ rfl _ _ 22 9 rfl _ _ rfl rfl happ ?_)
    go_ret
    refine ⟨w.heap.size, 0, g, ys, by rw [hl2]; rfl, ?_, by simp, ((Below.refl _ _).alloc (Nat.le_refl _) _).drew⟩
    intro j v hj
    have hj' : ((ys.map (Value.int .u8)).toArray ++ zs)[j]? = some v := by
      obtain ⟨hlt', _⟩ := List.getElem?_eq_some_iff.1 hj
      rw [Array.getElem?_append_left (by simpa using hlt')]
      simpa using hj
    rw [Addr.add_lit, Nat.zero_add]
    exact (World.cell?_alloc_new (w := w) _ _ _).trans hj'


end Go.Proofs.Qxb6003863aFmt
