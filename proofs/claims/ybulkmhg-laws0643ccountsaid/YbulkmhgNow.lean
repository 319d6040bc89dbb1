import Derived.Test.YbulkmhgRows
import Derived.Test.YbulkmhgLocks
import Derived.Conc.RwLone
import Derived.WalkKit
import Derived.RegionTactic
import Derived.ChangeAlike
namespace Go.Proofs.Ybulkmhg
open Go.RowKit
open Go.RwLone

set_option maxHeartbeats 800000 in
theorem now_any (b off : Nat) (base : Option Addr) (n c : Nat) (x0 x2 x3 : Value) (w : World)
    (c0 : w.cell? ⟨b, off, none⟩ = some x0) (c2 : w.cell? ⟨b, off + 2, none⟩ = some x2) (c3 : w.cell? ⟨b, off + 3, none⟩ = some x3)
    (hc : w.cell? ⟨b, off + 4, none⟩ = some (.int .i32 0)) (hn : w.cell? ⟨b, off + 6, none⟩ = some (.slice base n c)) (hz : w.frozen? ⟨b, off + 4, none⟩ = false)
    (hb : b < w.heap.size) :
    Calls Yba.prog 5 #[.pointer (some ⟨b, off, none⟩)] w fun e w' => e = .returned (.agg #[.int .i64 n]) ∧ Below b w w' := by
  have hne : b ≠ w.heap.size := by omega
  have w1 : wrap32 (0 + 1) = 1 := by decide +kernel
  have w2 : wrap32 (1 + -1) = 0 := by decide +kernel
  go_enter_defers Yba.func5, Yba.ntmps5
  go_wp2_with fail
  refine (rlock_open Yba.rwRLib b off 0 x0 x3 _ ?_ ?_ ?_ ?_ ?_).mono ?_
  · go_simp
  · go_simp
  · go_simp
  · go_simp
  · decide +kernel
  rintro e w' ⟨rfl, rfl⟩
  rw [w1]
  go_wp2_with fail
  go_region
  go_wp2
  refine leaves_cons (f := 8) (args := #[.pointer (some ⟨b, off, none⟩)]) (by simp) (by simp [go_sem]) ?_
  refine (runlock_deferred Yba.rwRLib b off 1 x0 x2 .returning _ ?_ ?_ ?_ ?_ ?_).mono ?_
  · go_simp
  · go_simp
  · go_simp
  · go_simp
  · decide +kernel
  rintro e u' w'' ⟨rfl, rfl, rfl⟩
  rw [w2]
  refine ⟨.agg #[.int .i64 n], ?_, rfl, ?_⟩
  · simp [results, Yba.results5, go_sem, hb]
  · have h1 := (Below.refl b w).setCell (p := ⟨b, off + 4, none⟩) (Nat.le_refl _) (.int .i32 1)
    have h2 := h1.alloc (by simp; omega) (Obj.cells #[.int .i64 n] 60)
    exact h2.drew.setCell (Nat.le_refl _) _
end Go.Proofs.Ybulkmhg
