import Derived.Test.Qxb6003863aFmtW5
namespace Go.Proofs.Qxb6003863aFmt
open Go.RowKit Go.Extern.Stop Go.Stop Go.Extern

set_option maxHeartbeats 400000 in
theorem errorf0_any (F : Interp) (w : World) (hF : F.answers w.tape) (k b o cap : Nat) (xs : List Int) (hk : w.cell? ⟨k, 0, none⟩ = some (.iface 22 (.slice (some ⟨b, o, none⟩) xs.length cap))) (hx : Bytes w b o xs) :
    Calls Tryf.prog 38 #[.string ⟨#[110, 111, 100, 101, 32, 105, 100, 32, 37, 115, 32, 105, 115, 32, 110, 111, 116, 32, 98, 101, 108, 111, 119, 32, 50, 94, 54, 51]⟩, .slice (some ⟨k, 0, none⟩) 1 1] w fun e w' => ∃ q, e = .returned (.iface 90 (.pointer (some q))) ∧ Below w.heap.size w w' := by
  have hF' := answers_open hF
  obtain ⟨r, hop⟩ := Tryf.opBytes_115 "fmt.errorf" ⟨b, o, none⟩ cap xs w hx
  go_enter Tryf.func38, Tryf.ntmps38
  go_wp2
  go_ret
  exact ⟨_, rfl, ((Below.refl _ w).alloc (Nat.le_refl _) _).drew⟩

set_option maxHeartbeats 400000 in
theorem errorf1_any (F : Interp) (w : World) (hF : F.answers w.tape) (k b o cap : Nat) (xs : List Int) (hk : w.cell? ⟨k, 0, none⟩ = some (.iface 22 (.slice (some ⟨b, o, none⟩) xs.length cap))) (hx : Bytes w b o xs) :
    Calls Tryf.prog 38 #[.string ⟨#[37, 113, 32, 105, 115, 32, 110, 111, 116, 32, 97, 32, 110, 111, 100, 101, 32, 105, 100, 44, 32, 97, 32, 110, 111, 110, 45, 110, 101, 103, 97, 116, 105, 118, 101, 32, 100, 101, 99, 105, 109, 97, 108, 32, 105, 110, 116, 101, 103, 101, 114]⟩, .slice (some ⟨k, 0, none⟩) 1 1] w fun e w' => ∃ q, e = .returned (.iface 90 (.pointer (some q))) ∧ Below w.heap.size w w' := by
  have hF' := answers_open hF
  obtain ⟨r, hop⟩ := Tryf.opBytes_113 "fmt.errorf" ⟨b, o, none⟩ cap xs w hx
  go_enter Tryf.func38, Tryf.ntmps38
  go_wp2
  go_ret
  exact ⟨_, rfl, ((Below.refl _ w).alloc (Nat.le_refl _) _).drew⟩

set_option maxHeartbeats 400000 in
theorem errorf2_any (F : Interp) (w : World) (hF : F.answers w.tape) (k : Nat) (n : Int) (s1 s2 : ByteArray) (hk0 : w.cell? ⟨k, 0, none⟩ = some (.iface 3 (.int .i64 n))) (hk1 : w.cell? ⟨k, 1, none⟩ = some (.iface 9 (.string s1))) (hk2 : w.cell? ⟨k, 2, none⟩ = some (.iface 9 (.string s2))) :
    Calls Tryf.prog 38 #[.string ⟨#[37, 100, 32, 102, 105, 101, 108, 100, 115, 44, 32, 119, 97, 110, 116, 32, 97, 110, 32, 101, 100, 103, 101, 32, 37, 113, 44, 32, 97, 32, 110, 111, 100, 101, 32, 37, 113, 32, 111, 114, 32, 97, 32, 99, 111, 109, 109, 101, 110, 116]⟩, .slice (some ⟨k, 0, none⟩) 3 3] w fun e w' => ∃ q, e = .returned (.iface 90 (.pointer (some q))) ∧ Below w.heap.size w w' := by
  have hF' := answers_open hF
  go_enter Tryf.func38, Tryf.ntmps38
  go_wp2
  go_ret
  exact ⟨_, rfl, ((Below.refl _ w).alloc (Nat.le_refl _) _).drew⟩

end Go.Proofs.Qxb6003863aFmt
