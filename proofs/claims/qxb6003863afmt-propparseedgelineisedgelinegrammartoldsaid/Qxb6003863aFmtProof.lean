import Derived.Test.Qxb6003863aFmtW11
import Derived.Test.Qxb6003863aFmtTie
import Derived.Test.Qxb6003863aFmtCards
import Derived.ProofKit
import Derived.OpenShut
import Derived.ShutString
import Derived.ChangeOld
import Derived.Below
import Derived.Lay
import Derived.LaidMore
import Derived.Stop.Joined
import Derived.Stop.JoinedTold
import Derived.SevenToldRow
import Derived.SevenTiedAt
namespace Go.Proofs.Qxb6003863aFmt
open Go.ChangeShapes Go.WideShapes Go.ChangeAt Go.RowKit
open Go.Extern.Stop Go.Stop Go.Extern

theorem own : ownKnob Tryf.prog.godebug = none := by kernel_rfl
theorem laidOut : laidOutB Tryf.prog = true := by kernel_rfl

/-- What the walk is told of a slice of bytes that came in. -/
def IsRow (w : World) (a : Option Addr) (len cap : Nat) (zs : List Int) : Prop :=
  (a = none ∧ len = 0 ∧ cap = 0 ∧ zs = []) ∨
  ∃ x, a = some x ∧ len ≤ cap ∧ cap ≤ maxLen ∧ zs.length = cap ∧ (∀ i, i < zs.length → w.cell? (x.add i) = some (.int .u8 (zs.getD i 0))) ∧ ∀ n ∈ zs, (Lit.int .u8 n).wf = true

theorem byt_of_ints (zs : List Int) (hw : ∀ n ∈ zs, (Lit.int .u8 n).wf = true) (len j : Nat) (hj : j < len) (hl : len ≤ zs.length) :
    byt ((zs.take len).map fun z => UInt8.ofNat z.toNat) j = zs.getD j 0 := by
  have hz : zs[j]? = some (zs[j]'(by omega)) := List.getElem?_eq_getElem (by omega)
  have hm := hw (zs[j]'(by omega)) (List.getElem_mem _)
  simp [Lit.wf, IntKind.min, IntKind.max, IntKind.signed, IntKind.bits] at hm
  unfold byt
  rw [List.getD_eq_getElem?_getD, List.getElem?_map, List.getElem?_take_of_lt hj, hz, List.getD_eq_getElem?_getD, hz]
  simp only [Option.map_some, Option.getD_some]
  rw [UInt8.toNat_ofNat']
  omega

theorem walk (F : Interp) (a0 : Option Addr) (len0 cap0 : Nat) (z0 : List Int) (w : World) (hF : F.answers w.tape) (w0 : IsRow w a0 len0 cap0 z0) :
    Calls Tryf.prog 3 #[.slice a0 len0 cap0] w fun e w' => e = .returned (.bool true) ∧ Below w.heap.size w w' := by
  by_cases h0 : len0 = 0
  · subst h0
    exact law_empty a0 cap0 w
  · by_cases hbig : 1048576 < len0
    · exact law_long a0 len0 cap0 w hbig
    · rcases w0 with ⟨_, h, _⟩ | ⟨x, rfl, hl, hm, hz, hc, hwf⟩
      · omega
      · obtain ⟨b, off, rfl, hcell⟩ := ints_at hc (by omega)
        have hblk : b < w.heap.size := by
          have h1 := hcell 0 (by omega)
          rcases Nat.lt_or_ge b w.heap.size with h | h
          · exact h
          · simp [World.cell?, Array.getElem?_eq_none h] at h1
        unfold maxLen at hm
        refine law_some F b off len0 cap0 ((z0.take len0).map fun z => UInt8.ofNat z.toNat) w hF (by simp; omega) (by omega) (by omega) hl (by omega) hblk ?_
        intro j hj
        rw [byt_of_ints z0 hwf len0 j hj (by omega)]
        exact hcell j (by omega)

end Go.Proofs.Qxb6003863aFmt
