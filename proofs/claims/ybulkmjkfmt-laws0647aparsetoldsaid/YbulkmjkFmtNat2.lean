import Derived.Test.YbulkmjkFmtNat1
namespace Go.Proofs.YbulkmjkFmt
open Go.RowKit

theorem info49 : (Ybaf.prog.info? 49).map (fun i => (i.zero, i.size, i.bytes)) = some (some (.int .u64 0), 1, 8) := by kernel_rfl

/-- a slice of the call's own making, its cells there and free; what they hold is not said -/
structure Room (w : World) (B g n cap : Nat) : Prop where
  base : B ≤ g
  lt : g < w.heap.size
  len : n ≤ cap
  most : cap ≤ 9223372036854775807
  there : ∀ j, j < cap → ∃ v, w.cell? ⟨g, j, none⟩ = some v
  free : ∀ j, w.frozen? ⟨g, j, none⟩ = false

theorem room_made (w : World) (B n c : Nat) (hB : B ≤ w.heap.size) (hn : n ≤ c) (hc : c ≤ 9223372036854775807) (z : Array Value) : Room (w.alloc (.cells (madeCells z c) 49)) B w.heap.size n c where
  base := hB
  lt := by simp
  len := hn
  most := hc
  there := fun j hj => by
    rw [World.cell?_alloc_at _ _ _ _ rfl]
    exact ⟨_, Array.getElem?_eq_getElem (by rw [size_madeCells]; exact hj)⟩
  free := fun j => World.frozen?_alloc_at _ _ _ _ rfl

set_option maxRecDepth 100000 in
set_option maxHeartbeats 1000000 in
theorem make_nil (B n : Nat) (w : World) (hB : B ≤ w.heap.size) (h0 : 0 < n) (hn : n ≤ 5000) :
    Calls Ybaf.prog 41 #[.slice none 0 0, .int .i64 n] w fun e w' => ∃ g cap, e = .returned (.slice (some ⟨g, 0, none⟩) n cap) ∧ Room w' B g n cap ∧ Below w.heap.size w w' := by
  obtain ⟨i, hi, hz0, hz1, hz2⟩ := info_parts info49
  have hk0 : ¬ (n : Int) ≤ 0 := by omega
  by_cases h1 : n = 1
  · subst h1
    have hmk := run_make (P := Ybaf.prog) w 41 49 i (.int .u64 0) Ybaf.underlying41 hi hz0 .i64 .i64 1 1 (by omega) (by omega) (by rw [hz2]; omega) (by omega)
    rw [hz1] at hmk
    have hr := room_made w B 1 1 hB (by omega) (by omega) #[.int .u64 0]
    have hb := (Below.refl w.heap.size w).alloc (Nat.le_refl _) (.cells (madeCells #[.int .u64 0] 1) 49)
    generalize hw1 : (w.alloc (.cells (madeCells #[.int .u64 0] 1) 49)) = w1 at hr hb
    have hmk2 : Sem.run Ybaf.prog (Instr.makeSlice 41 (Value.int IntKind.i64 1) (Value.int IntKind.i64 1)) w = Result.ok (Value.slice (some { block := w.heap.size, off := 0 }) 1 1) w1 := by rw [← hw1]; exact hmk
    clear hmk hw1
    go_enter Ybaf.func41, Ybaf.ntmps41
    go_wp2
    go_ret
    exact ⟨_, _, rfl, hr, hb⟩
  · have hmk := run_make (P := Ybaf.prog) w 41 49 i (.int .u64 0) Ybaf.underlying41 hi hz0 .i64 .i64 n (n + 4) (by omega) (by omega) (by rw [hz2]; omega) (by omega)
    rw [hz1, Nat.mul_one, Int.toNat_natCast, show ((n : Int) + 4).toNat = n + 4 by omega] at hmk
    have hr := room_made w B n (n + 4) hB (by omega) (by omega) #[.int .u64 0]
    have hb := (Below.refl w.heap.size w).alloc (Nat.le_refl _) (.cells (madeCells #[.int .u64 0] (n + 4)) 49)
    generalize hw1 : (w.alloc (.cells (madeCells #[.int .u64 0] (n + 4)) 49)) = w1 at hr hb
    have hmk2 : Sem.run Ybaf.prog (Instr.makeSlice 41 (Value.int IntKind.i64 n) (Value.int IntKind.i64 (n + 4))) w = Result.ok (Value.slice (some { block := w.heap.size, off := 0 }) n (n + 4)) w1 := by rw [← hw1]; exact hmk
    have hk1 : ((n : Int) == 1) = false := by simp; omega
    clear hmk hw1
    go_enter Ybaf.func41, Ybaf.ntmps41
    go_wp2
    go_ret
    exact ⟨_, _, rfl, hr, hb⟩

set_option maxRecDepth 100000 in
set_option maxHeartbeats 1000000 in
theorem make_some (B n g l cap : Nat) (w : World) (hB : B ≤ w.heap.size) (h0 : 0 < n) (hn : n ≤ 5000) (R : Room w B g l cap) :
    Calls Ybaf.prog 41 #[.slice (some ⟨g, 0, none⟩) l cap, .int .i64 n] w fun e w' => ∃ g cap, e = .returned (.slice (some ⟨g, 0, none⟩) n cap) ∧ Room w' B g n cap ∧ Below w.heap.size w w' := by
  obtain ⟨i, hi, hz0, hz1, hz2⟩ := info_parts info49
  have hcm := R.most
  by_cases hle : n ≤ cap
  · have hk0 : (n : Int) ≤ cap := by omega
    have R2 : Hid (Room w B g n cap) := { R with len := hle }
    clear R
    go_enter Ybaf.func41, Ybaf.ntmps41
    go_wp2
    go_ret
    exact ⟨_, _, rfl, R2, Below.refl _ _⟩
  have hk0 : ¬ (n : Int) ≤ cap := by omega
  by_cases h1 : n = 1
  · subst h1
    have hmk := run_make (P := Ybaf.prog) w 41 49 i (.int .u64 0) Ybaf.underlying41 hi hz0 .i64 .i64 1 1 (by omega) (by omega) (by rw [hz2]; omega) (by omega)
    rw [hz1] at hmk
    have hr := room_made w B 1 1 hB (by omega) (by omega) #[.int .u64 0]
    have hb := (Below.refl w.heap.size w).alloc (Nat.le_refl _) (.cells (madeCells #[.int .u64 0] 1) 49)
    generalize hw1 : (w.alloc (.cells (madeCells #[.int .u64 0] 1) 49)) = w1 at hr hb
    have hmk2 : Sem.run Ybaf.prog (Instr.makeSlice 41 (Value.int IntKind.i64 1) (Value.int IntKind.i64 1)) w = Result.ok (Value.slice (some { block := w.heap.size, off := 0 }) 1 1) w1 := by rw [← hw1]; exact hmk
    clear hmk hw1
    go_enter Ybaf.func41, Ybaf.ntmps41
    go_wp2
    go_ret
    exact ⟨_, _, rfl, hr, hb⟩
  · have hmk := run_make (P := Ybaf.prog) w 41 49 i (.int .u64 0) Ybaf.underlying41 hi hz0 .i64 .i64 n (n + 4) (by omega) (by omega) (by rw [hz2]; omega) (by omega)
    rw [hz1, Nat.mul_one, Int.toNat_natCast, show ((n : Int) + 4).toNat = n + 4 by omega] at hmk
    have hr := room_made w B n (n + 4) hB (by omega) (by omega) #[.int .u64 0]
    have hb := (Below.refl w.heap.size w).alloc (Nat.le_refl _) (.cells (madeCells #[.int .u64 0] (n + 4)) 49)
    generalize hw1 : (w.alloc (.cells (madeCells #[.int .u64 0] (n + 4)) 49)) = w1 at hr hb
    have hmk2 : Sem.run Ybaf.prog (Instr.makeSlice 41 (Value.int IntKind.i64 n) (Value.int IntKind.i64 (n + 4))) w = Result.ok (Value.slice (some { block := w.heap.size, off := 0 }) n (n + 4)) w1 := by rw [← hw1]; exact hmk
    have hk1 : ((n : Int) == 1) = false := by simp; omega
    clear hmk hw1
    go_enter Ybaf.func41, Ybaf.ntmps41
    go_wp2
    go_ret
    exact ⟨_, _, rfl, hr, hb⟩
end Go.Proofs.YbulkmjkFmt
