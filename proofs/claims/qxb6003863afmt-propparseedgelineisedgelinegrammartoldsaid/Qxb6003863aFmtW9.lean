import Derived.Test.Qxb6003863aFmtW8
namespace Go.Proofs.Qxb6003863aFmt
open Go.RowKit Go.Extern.Stop Go.Stop Go.Extern

set_option maxHeartbeats 400000 in
theorem zzParse_any (F : Interp) (b off n cap : Nat) (bs : List UInt8) (w : World) (hF : F.answers w.tape) (hn : bs.length = n) (h0 : 0 < n) (hmax : n ≤ 1048576) (hcap : n ≤ cap) (hbig : cap ≤ 9223372036854775807)
    (hlt : b < w.heap.size) (hc : ∀ j, j < n → w.cell? ⟨b, off + j, none⟩ = some (.int .u8 (byt bs j))) :
    Calls Tryf.prog 7 #[.slice (some ⟨b, off, none⟩) n cap] w fun e w' => parsePost bs w e w' := by
  have hcon := fun (o : Obj) => parse_any F b off n cap bs (w.alloc o) (by exact hF) hn h0 hmax hcap hbig (by simp; omega) (fun j hj => cell_later ((Below.refl _ w).alloc (Nat.le_refl _) o) (hc j hj))
  have Hcon := hide hcon
  clear hcon hc
  go_enter Tryf.func7, Tryf.ntmps7
  go_wp2_with fail
  refine (Hcon.out _).mono ?_
  rintro e w1 ⟨x0, x1, nn, ok, ev, rfl, hev, hW, hB⟩
  have gi0 := hB.cell (p := ⟨w.heap.size, 0, none⟩) (by simp)
  have gi1 := hB.cell (p := ⟨w.heap.size, 1, none⟩) (by simp)
  have gf0 := hB.frozen (p := ⟨w.heap.size, 0, none⟩) (by simp)
  have gf1 := hB.frozen (p := ⟨w.heap.size, 1, none⟩) (by simp)
  simp at gi0 gi1 gf0 gf1
  go_wp2
  exact bodyPost_ret (v := .tuple #[.agg #[.int .i64 x0, .int .i64 x1], .int .i64 nn, ev]) (by simp [results, Tryf.results7, go_sem, gi0, gi1]) rfl ⟨x0, x1, nn, ok, ev, rfl, hev, hW, ((((Below.refl _ w).alloc (Nat.le_refl _) _).trans (hB.mono (by simp))).setCell (Nat.le_refl _) _).setCell (Nat.le_refl _) _⟩

end Go.Proofs.Qxb6003863aFmt
