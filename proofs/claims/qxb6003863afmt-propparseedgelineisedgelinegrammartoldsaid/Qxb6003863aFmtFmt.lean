import Derived.Test.Qxb6003863aFmtProg
import Derived.Stop.CallBack
import Derived.Stop.IfaceNil
import GoSem.ClaimData
import Derived.Laws.Cells
import Derived.Stop.FmtTextSlices
namespace Go.Proofs
open Go.Extern.Stop Go.Stop Go.Extern

@[go_sem] theorem Tryf.call43 (args : Array Value) (w : World) : (callFunc 43 args).run Tryf.prog w = ((FmtStop.errorf #[9, 77] #[25] args).run Tryf.prog w).andThen fun v w' => .ok (.value v) w' :=
  run_callFunc_extern Tryf.func43 (by kernel_rfl) (by kernel_rfl) (by kernel_rfl) (by kernel_rfl) args w
@[go_sem] theorem Tryf.guard (name : String) (w : World) : (FmtStop.guard name).run Tryf.prog w = .ok () w := by kernel_rfl
@[go_sem] theorem Tryf.fmt0 : FmtStop.printed? ⟨#[110, 111, 100, 101, 32, 105, 100, 32, 37, 115, 32, 105, 115, 32, 110, 111, 116, 32, 98, 101, 108, 111, 119, 32, 50, 94, 54, 51]⟩ 1 = some [(0, 115, false)] := by kernel_rfl
@[go_sem] theorem Tryf.fmt0r (w : World) : (FmtDoors.printed ⟨#[110, 111, 100, 101, 32, 105, 100, 32, 37, 115, 32, 105, 115, 32, 110, 111, 116, 32, 98, 101, 108, 111, 119, 32, 50, 94, 54, 51]⟩ 1).run Tryf.prog w = .ok [(0, 115, false)] w := by kernel_rfl
@[go_sem] theorem Tryf.fmt1 : FmtStop.printed? ⟨#[37, 113, 32, 105, 115, 32, 110, 111, 116, 32, 97, 32, 110, 111, 100, 101, 32, 105, 100, 44, 32, 97, 32, 110, 111, 110, 45, 110, 101, 103, 97, 116, 105, 118, 101, 32, 100, 101, 99, 105, 109, 97, 108, 32, 105, 110, 116, 101, 103, 101, 114]⟩ 1 = some [(0, 113, false)] := by kernel_rfl
@[go_sem] theorem Tryf.fmt1r (w : World) : (FmtDoors.printed ⟨#[37, 113, 32, 105, 115, 32, 110, 111, 116, 32, 97, 32, 110, 111, 100, 101, 32, 105, 100, 44, 32, 97, 32, 110, 111, 110, 45, 110, 101, 103, 97, 116, 105, 118, 101, 32, 100, 101, 99, 105, 109, 97, 108, 32, 105, 110, 116, 101, 103, 101, 114]⟩ 1).run Tryf.prog w = .ok [(0, 113, false)] w := by kernel_rfl
@[go_sem] theorem Tryf.fmt2 : FmtStop.printed? ⟨#[37, 100, 32, 102, 105, 101, 108, 100, 115, 44, 32, 119, 97, 110, 116, 32, 97, 110, 32, 101, 100, 103, 101, 32, 37, 113, 44, 32, 97, 32, 110, 111, 100, 101, 32, 37, 113, 32, 111, 114, 32, 97, 32, 99, 111, 109, 109, 101, 110, 116]⟩ 3 = some [(0, 100, false), (1, 113, false), (2, 113, false)] := by kernel_rfl
@[go_sem] theorem Tryf.fmt2r (w : World) : (FmtDoors.printed ⟨#[37, 100, 32, 102, 105, 101, 108, 100, 115, 44, 32, 119, 97, 110, 116, 32, 97, 110, 32, 101, 100, 103, 101, 32, 37, 113, 44, 32, 97, 32, 110, 111, 100, 101, 32, 37, 113, 32, 111, 114, 32, 97, 32, 99, 111, 109, 109, 101, 110, 116]⟩ 3).run Tryf.prog w = .ok [(0, 100, false), (1, 113, false), (2, 113, false)] w := by kernel_rfl

def Tryf.shape9 : List UInt8 := [12, 6, 0, 0, 0, 0, 0, 0, 0, 115, 116, 114, 105, 110, 103]
@[go_sem] theorem Tryf.op9_113w (name : String) (x : ByteArray) (w : World) : (FmtStop.operand name true 113 false (.iface 9 (.string x))).run Tryf.prog w = .ok (Tryf.shape9, FmtStop.pack x.data.toList) w := by kernel_rfl
def Tryf.shape3 : List UInt8 := [5, 3, 0, 0, 0, 0, 0, 0, 0, 105, 110, 116]
@[go_sem] theorem Tryf.op3_100w (name : String) (x : Int) (w : World) : (FmtStop.operand name true 100 false (.iface 3 (.int .i64 x))).run Tryf.prog w = .ok (Tryf.shape3, Go.Extern.Stop.digits 8 (x % 2 ^ 64).toNat) w := by kernel_rfl
@[go_sem] theorem Tryf.ptr90 (w : World) : (FmtStop.ptrTo "errors.errorString").run Tryf.prog w = .ok 90 w := by kernel_rfl
@[go_sem] theorem Tryf.elem90 (w : World) : (elemOf 90).run Tryf.prog w = .ok 92 w := by kernel_rfl
@[go_sem] theorem Tryf.isError90 (w : World) : (FmtDoors.textMethod 90 "Error").run Tryf.prog w = .ok true w := by kernel_rfl

/-- The shape of a slice of bytes. -/
def Tryf.shape22 : List UInt8 := 13 :: (FmtStop.pack [91, 93, 117, 105, 110, 116, 56] ++ 6 :: FmtStop.pack [117, 105, 110, 116, 56])
theorem Tryf.value5 (name : String) (x : Int) (w : World) : (FmtStop.value name FmtStop.depth 5 [.int .u8 x]).run Tryf.prog w = .ok (digits 8 (x % 2 ^ 64).toNat) w := by kernel_rfl
theorem Tryf.values5 (name : String) (w : World) : ∀ xs : List Int, (List.mapM ((fun c => FmtStop.value name FmtStop.depth 5 [c]) ∘ Value.int IntKind.u8) xs).run Tryf.prog w = .ok (xs.map fun x => digits 8 (x % 18446744073709551616).toNat) w
  | [] => by simp [List.mapM_nil]
  | x :: xs => by
    have ih := Tryf.values5 name w xs
    have h := Tryf.value5 name x w
    simp [List.mapM_cons, h, ih, Result.andThen]

theorem Tryf.opBytes_115 (name : String) (a : Addr) (cap : Nat) (xs : List Int) (w : World) (hc : ∀ j v, (xs.map (Value.int .u8))[j]? = some v → w.cell? (a.add j) = some v) :
    ∃ r, (FmtStop.operand name true 115 false (.iface 22 (.slice (some a) xs.length cap))).run Tryf.prog w = .ok r w := by
  have h1 : ∃ s, (typeStr 22).run Tryf.prog w = .ok s w := ⟨Tryf.t22.str, by kernel_rfl⟩
  obtain ⟨s1, h1⟩ := h1
  have d2 : Tryf.t22.desc = .slice 5 := rfl
  have hb : (FmtStop.bare (FmtStop.asked true 115 false) 22).run Tryf.prog w = .ok true w := by kernel_rfl
  have hs : (FmtStop.scalar 5).run Tryf.prog w = .ok true w := by kernel_rfl
  have hy : (Extern.Stop.isByte 5).run Tryf.prog w = .ok true w := by kernel_rfl
  have hw : Tryf.prog.funcs.any (·.name == FmtStop.writeWord) = true := by kernel_rfl
  have hsh : (FmtStop.shape name (FmtStop.asked true 115 false) FmtStop.depth 5).run Tryf.prog w = .ok (6 :: FmtStop.pack [117, 105, 110, 116, 56]) w := by kernel_rfl
  have hl := run_loadCells_list (P := Tryf.prog) w a (xs.map (Value.int .u8)) hc
  rw [List.length_map] at hl
  have hno : (∀ i, (hi : i < Tryf.prog.funcs.size) → ¬ Tryf.prog.funcs[i].name = FmtStop.writeWord) → False := by
    intro hno
    obtain ⟨i, hi, _, _, he⟩ := Array.any_iff_exists.1 hw
    exact absurd (by simpa using he) (hno i hi)
  simp [FmtStop.operand, h1, hb, hs, hy, hsh, hl, Tryf.values5]
  rw [if_neg hno]
  exact ⟨_, _, rfl⟩

theorem Tryf.opBytes_113 (name : String) (a : Addr) (cap : Nat) (xs : List Int) (w : World) (hc : ∀ j v, (xs.map (Value.int .u8))[j]? = some v → w.cell? (a.add j) = some v) :
    ∃ r, (FmtStop.operand name true 113 false (.iface 22 (.slice (some a) xs.length cap))).run Tryf.prog w = .ok r w := by
  have h1 : ∃ s, (typeStr 22).run Tryf.prog w = .ok s w := ⟨Tryf.t22.str, by kernel_rfl⟩
  obtain ⟨s1, h1⟩ := h1
  have d2 : Tryf.t22.desc = .slice 5 := rfl
  have hb : (FmtStop.bare (FmtStop.asked true 113 false) 22).run Tryf.prog w = .ok true w := by kernel_rfl
  have hs : (FmtStop.scalar 5).run Tryf.prog w = .ok true w := by kernel_rfl
  have hy : (Extern.Stop.isByte 5).run Tryf.prog w = .ok true w := by kernel_rfl
  have hw : Tryf.prog.funcs.any (·.name == FmtStop.writeWord) = true := by kernel_rfl
  have hsh : (FmtStop.shape name (FmtStop.asked true 113 false) FmtStop.depth 5).run Tryf.prog w = .ok (6 :: FmtStop.pack [117, 105, 110, 116, 56]) w := by kernel_rfl
  have hl := run_loadCells_list (P := Tryf.prog) w a (xs.map (Value.int .u8)) hc
  rw [List.length_map] at hl
  have hno : (∀ i, (hi : i < Tryf.prog.funcs.size) → ¬ Tryf.prog.funcs[i].name = FmtStop.writeWord) → False := by
    intro hno
    obtain ⟨i, hi, _, _, he⟩ := Array.any_iff_exists.1 hw
    exact absurd (by simpa using he) (hno i hi)
  simp [FmtStop.operand, h1, hb, hs, hy, hsh, hl, Tryf.values5]
  rw [if_neg hno]
  exact ⟨_, _, rfl⟩

end Go.Proofs
