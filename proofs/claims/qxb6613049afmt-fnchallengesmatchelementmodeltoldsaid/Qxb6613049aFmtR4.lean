import Derived.Test.Qxb6613049aFmtR3
import Derived.Test.Qxb6613049aFmtFmt
namespace Go.Proofs.Qxb6613049aFmt
open Go.RowKit Go.Extern.Stop Go.Stop Go.Extern

/-- The text that errorf makes. -/
def fmA : ByteArray := ⟨#[37, 115, 32, 97, 116, 32, 98, 121, 116, 101, 32, 37, 100]⟩

set_option maxHeartbeats 400000 in
theorem fmtErrorfA_any (F : Interp) (w : World) (hF : F.answers w.tape) (k : Nat) (n : Int) (s : ByteArray) (hk0 : w.cell? ⟨k, 0, none⟩ = some (.iface 9 (.string s))) (hk1 : w.cell? ⟨k, 1, none⟩ = some (.iface 3 (.int .i64 n))) :
    Calls Tryf.prog 37 #[.string ⟨#[37, 115, 32, 97, 116, 32, 98, 121, 116, 101, 32, 37, 100]⟩, .slice (some ⟨k, 0, none⟩) 2 2] w fun e w' => ∃ q, e = .returned (.iface 80 (.pointer (some q))) ∧ Below w.heap.size w w' := by
  have hF' := answers_open hF
  go_enter Tryf.func37, Tryf.ntmps37
  go_wp2
  go_ret
  exact ⟨_, rfl, ((Below.refl _ w).alloc (Nat.le_refl _) _).drew⟩

set_option maxHeartbeats 400000 in
theorem fmtErrorfB_any (F : Interp) (w : World) (hF : F.answers w.tape) (k : Nat) (n : Int) (hk0 : w.cell? ⟨k, 0, none⟩ = some (.iface 3 (.int .i64 n))) :
    Calls Tryf.prog 37 #[.string ⟨#[112, 97, 114, 97, 109, 101, 116, 101, 114, 32, 97, 116, 32, 98, 121, 116, 101, 32, 37, 100, 32, 110, 97, 109, 101, 100, 32, 116, 119, 105, 99, 101, 32, 105, 110, 32, 111, 110, 101, 32, 99, 104, 97, 108, 108, 101, 110, 103, 101]⟩, .slice (some ⟨k, 0, none⟩) 1 1] w fun e w' => ∃ q, e = .returned (.iface 80 (.pointer (some q))) ∧ Below w.heap.size w w' := by
  have hF' := answers_open hF
  go_enter Tryf.func37, Tryf.ntmps37
  go_wp2
  go_ret
  exact ⟨_, rfl, ((Below.refl _ w).alloc (Nat.le_refl _) _).drew⟩

set_option maxHeartbeats 400000 in
theorem errorf_any (F : Interp) (b : Nat) (bs : List UInt8) (p r : Nat) (what : ByteArray) (w : World) (hF : F.answers w.tape) (h : RD b bs p r w) :
    Calls Tryf.prog 27 #[.pointer (some ⟨b, 0, none⟩), .string what] w fun e w' => ∃ q, e = .returned (.iface 80 (.pointer (some q))) ∧ Below w.heap.size w w' := by
  obtain ⟨h0, h1, h2, f1, f2⟩ := h
  go_enter Tryf.func27, Tryf.ntmps27
  go_wp2_with (go_at_call 37; refine (fmtErrorfA_any F _ (by exact hF) _ p what (by simp) (by simp)).mono ?_; rintro e1 w1 ⟨q, rfl, hb1⟩)
  go_ret
  exact ⟨q, rfl, ((Below.refl _ w).alloc (Nat.le_refl _) _).trans (hb1.mono (by simp))⟩

end Go.Proofs.Qxb6613049aFmt
