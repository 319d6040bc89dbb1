import Derived.Test.YbulkmjkFmtRead
namespace Go.Proofs.YbulkmjkFmt
open Go.RowKit

/-- the words of a number below 2^64 -/
def word1 (n : Nat) : List Nat := if n = 0 then [] else [n]

theorem newInt_end (w : World) (x : Int) (n : Nat) (ng : Bool) (hx : x = n) (h0 : n ≠ 0) (hn : n < 1000000000000000000) :
    IntAt ((w.alloc (Obj.cells #[.int .u64 x] 49)).alloc (Obj.cells #[.bool ng, .slice (some ⟨w.heap.size, 0, none⟩) 1 1] 43)) (w.heap.size + 1) ng (.slice (some ⟨w.heap.size, 0, none⟩) 1 1) ∧
    NatV ((w.alloc (Obj.cells #[.int .u64 x] 49)).alloc (Obj.cells #[.bool ng, .slice (some ⟨w.heap.size, 0, none⟩) 1 1] 43)) w.heap.size (.slice (some ⟨w.heap.size, 0, none⟩) 1 1) (word1 n) ∧
    Below w.heap.size w ((w.alloc (Obj.cells #[.int .u64 x] 49)).alloc (Obj.cells #[.bool ng, .slice (some ⟨w.heap.size, 0, none⟩) 1 1] 43)) := by
  subst hx
  have e : word1 n = [n] := by simp [word1, h0]
  have c : ((w.alloc (Obj.cells #[.int .u64 (n : Int)] 49)).alloc (Obj.cells #[.bool ng, .slice (some ⟨w.heap.size, 0, none⟩) 1 1] 43)).cell? ⟨w.heap.size, 0, none⟩ = some (.int .u64 (n : Int)) := by go_simp
  rw [e]
  refine ⟨⟨by simp, by go_simp, by go_simp, fun j => by go_simp⟩, ⟨fun _ => by simpa using h0, ?_, Or.inr ⟨w.heap.size, 1, rfl, ⟨Nat.le_refl _, by simp; omega, by simp, by omega, ?_, fun j => by go_simp⟩, ?_⟩⟩, ((Below.refl _ _).alloc (Nat.le_refl _) _).alloc (by simp) _⟩
  · intro j h
    have : j = 0 := by simp at h; omega
    subst this
    simp only [W64, List.getElem_cons_zero]
    omega
  · intro j h
    have : j = 0 := by omega
    subst this
    exact ⟨_, c⟩
  · intro j h
    have : j = 0 := by simp at h; omega
    subst this
    exact c

set_option maxRecDepth 100000 in
set_option maxHeartbeats 1000000 in
theorem newInt_any (v : Int) (n : Nat) (w : World) (hn : n < 1000000000000000000) (hv : v = n ∨ v = -(n : Int)) :
    Calls Ybaf.prog 8 #[.int .i64 v] w fun e w' => ∃ yb, e = .returned (.pointer (some ⟨yb, 0, none⟩)) ∧ w.heap.size ≤ yb ∧ ∃ yv, IntAt w' yb (decide (v < 0)) yv ∧ NatV w' w.heap.size yv (word1 n) ∧ Below w.heap.size w w' := by
  by_cases h0 : n = 0
  · subst h0
    have hv0 : v = 0 := by omega
    subst hv0
    go_enter Ybaf.func8, Ybaf.ntmps8
    go_wp2_with fail
    go_ret
    refine ⟨_, rfl, Nat.le_refl _, _, ⟨by simp, by go_simp, by go_simp, fun j => by go_simp⟩, ⟨norm_nil, by simp [word1], Or.inl ⟨rfl, rfl⟩⟩, (Below.refl _ _).alloc (Nat.le_refl _) _⟩
  · have hvb : (v == 0) = false := by simp; omega
    by_cases hneg : v < 0
    · have hw : IntKind.u64.wrap (-IntKind.u64.wrap v) = n := by
        simp only [IntKind.wrap_u64]
        omega
      obtain ⟨q1, q2, q3⟩ := newInt_end w (IntKind.u64.wrap (-IntKind.u64.wrap v)) n true hw h0 hn
      have hd : decide (v < 0) = true := by simpa using hneg
      have HQ : Hid (IntKind.u64.wrap (-IntKind.u64.wrap v) = n) := hw
      clear hw
      go_enter Ybaf.func8, Ybaf.ntmps8
      go_wp2_with fail
      go_ret
      exact ⟨_, rfl, by omega, _, by first | exact q1 | (rw [hd]; exact q1), q2, q3⟩
    · obtain ⟨q1, q2, q3⟩ := newInt_end w v n false (by omega) h0 hn
      have hd : decide (v < 0) = false := by simpa using hneg
      go_enter Ybaf.func8, Ybaf.ntmps8
      go_wp2_with fail
      go_ret
      exact ⟨_, rfl, by omega, _, by first | exact q1 | (rw [hd]; exact q1), q2, q3⟩

set_option maxRecDepth 100000 in
set_option maxHeartbeats 1000000 in
theorem sign_any (zb : Nat) (ng : Bool) (b : Option Addr) (n c : Nat) (w : World) (I : IntAt w zb ng (.slice b n c)) :
    Calls Ybaf.prog 9 #[.pointer (some ⟨zb, 0, none⟩)] w fun e w' => e = .returned (.int .i64 (if n = 0 then 0 else if ng = true then -1 else 1)) ∧ w' = w := by
  have c0 := I.c0
  have c1 := I.c1
  by_cases h0 : n = 0
  · subst h0
    go_enter Ybaf.func9, Ybaf.ntmps9
    go_wp2_with fail
    go_ret
    exact ⟨rfl, rfl⟩
  · have hb : ((n : Int) == 0) = false := by simp; omega
    rw [if_neg h0]
    cases ng
    · go_enter Ybaf.func9, Ybaf.ntmps9
      go_wp2_with fail
      go_ret
      exact ⟨rfl, rfl⟩
    · go_enter Ybaf.func9, Ybaf.ntmps9
      go_wp2_with fail
      go_ret
      exact ⟨rfl, rfl⟩

set_option maxRecDepth 100000 in
set_option maxHeartbeats 1000000 in
theorem natcmp_nil (b b' : Option Addr) (c c' : Nat) (w : World) :
    Calls Ybaf.prog 20 #[.slice b 0 c, .slice b' 0 c'] w fun e w' => e = .returned (.int .i64 0) ∧ w' = w := by
  go_enter Ybaf.func20, Ybaf.ntmps20
  go_wp2_with fail
  go_ret
  exact ⟨rfl, rfl⟩

set_option maxRecDepth 100000 in
set_option maxHeartbeats 1000000 in
theorem natcmp_one (g g' : Nat) (c c' : Nat) (n : Nat) (w : World) (h1 : w.cell? ⟨g, 0, none⟩ = some (.int .u64 n)) (h2 : w.cell? ⟨g', 0, none⟩ = some (.int .u64 n)) :
    Calls Ybaf.prog 20 #[.slice (some ⟨g, 0, none⟩) 1 c, .slice (some ⟨g', 0, none⟩) 1 c'] w fun e w' => e = .returned (.int .i64 0) ∧ ∃ q, w' = w.drewN q := by
  go_enter Ybaf.func20, Ybaf.ntmps20
  go_wp2_with fail
  go_loopw [7] (fun i wr => i = .int .i64 0 ∧ ∃ q, wr = w.drewN q) (fun _ _ => 0)
  case atStart => exact ⟨rfl, 0, rfl⟩
  case round =>
    obtain ⟨rfl, q, rfl⟩ := hrel
    go_wp2_with fail
    go_quiet (fail)
    go_wp2
    go_quiet (fail)
    go_wp2
    go_quiet (fail)
    go_wp2
    go_ret
    simp only [World.drewN_drewN]
    exact ⟨rfl, _, rfl⟩

theorem cells_of_cell {w : World} {b : Nat} {v : Value} (h : w.cell? ⟨b, 0, none⟩ = some v) : ∃ c t fr, w.heap[b]? = some (.cells c t fr) := by
  unfold World.cell? at h
  split at h
  · rename_i c t fr heq
    exact ⟨c, t, fr, heq⟩
  · cases h

theorem run_sameAddr_free {P : Program} (w : World) {a b : Nat} (hne : a ≠ b) {u v : Value} (ha : w.cell? ⟨a, 0, none⟩ = some u) (fa : ∀ j, w.frozen? ⟨a, j, none⟩ = false) (hb : w.cell? ⟨b, 0, none⟩ = some v) (fb : ∀ j, w.frozen? ⟨b, j, none⟩ = false) :
    (sameAddr ⟨a, 0, none⟩ ⟨b, 0, none⟩).run P w = .ok false w := by
  obtain ⟨ca, ta, fra, ea⟩ := cells_of_cell ha
  obtain ⟨cb, tb, frb, eb⟩ := cells_of_cell hb
  have sa : w.shape? a = some (ta, ca.size) := by simp [World.shape?, ea]
  have sb : w.shape? b = some (tb, cb.size) := by simp [World.shape?, eb]
  simp [sameAddr, hne, fa, fb, noView, viewAt, sa, sb, mayBeOne, stringish]

theorem eql_ptr_other (w : World) {a b : Nat} (hne : a ≠ b) {u v : Value} (ha : w.cell? ⟨a, 0, none⟩ = some u) (fa : ∀ j, w.frozen? ⟨a, j, none⟩ = false) (hb : w.cell? ⟨b, 0, none⟩ = some v) (fb : ∀ j, w.frozen? ⟨b, j, none⟩ = false) :
    Sem.run Ybaf.prog (binOp .eql 24 (.pointer (some ⟨a, 0, none⟩)) (.pointer (some ⟨b, 0, none⟩))) w = .ok (.bool false) w := by
  have h : ∀ d : Nat, (Op.equalIn (d + 1) 24 (.pointer (some ⟨a, 0, none⟩)) (.pointer (some ⟨b, 0, none⟩))).run Ybaf.prog w = .ok false w := fun d => by
    simp [Op.equalIn, run_underlying Ybaf.underlying24]
    exact run_sameAddr_free w hne ha fa hb fb
  simp only [binOp]
  simp [Op.equal, Op.maxDepth, h 9999]

set_option maxRecDepth 100000 in
set_option maxHeartbeats 1000000 in
theorem cmp_same (zb yb : Nat) (ng : Bool) (x y : Value) (w : World) (hne : zb ≠ yb) (I : IntAt w zb ng x) (J : IntAt w yb ng y) (B C n : Nat) (hx : NatV w B x (word1 n)) (hy : NatV w C y (word1 n)) :
    Calls Ybaf.prog 7 #[.pointer (some ⟨zb, 0, none⟩), .pointer (some ⟨yb, 0, none⟩)] w fun e w' => e = .returned (.int .i64 0) ∧ ∃ q, w' = w.drewN q := by
  have c0 := I.c0
  have c1 := I.c1
  have d0 := J.c0
  have d1 := J.c1
  have heq := eql_ptr_other w hne I.c0 I.free J.c0 J.free
  obtain ⟨_, _, hx⟩ := hx
  obtain ⟨_, _, hy⟩ := hy
  by_cases h0 : n = 0
  · subst h0
    have ex : ∃ b c, x = .slice b 0 c := by
      rcases hx with ⟨rfl, _⟩ | ⟨g, cap, rfl, _⟩
      · exact ⟨_, _, rfl⟩
      · exact ⟨_, _, rfl⟩
    have ey : ∃ b c, y = .slice b 0 c := by
      rcases hy with ⟨rfl, _⟩ | ⟨g, cap, rfl, _⟩
      · exact ⟨_, _, rfl⟩
      · exact ⟨_, _, rfl⟩
    obtain ⟨b, c, rfl⟩ := ex
    obtain ⟨b', c', rfl⟩ := ey
    clear hx hy I J
    cases ng
    all_goals
      go_enter Ybaf.func7, Ybaf.ntmps7
      go_wp2_with fail
      go_quiet (fail)
      go_wp2_with fail
      generalize hW : w.drewN nq = W1
      have c0' := (show W1.cell? ⟨zb, 0, none⟩ = w.cell? ⟨zb, 0, none⟩ by rw [← hW]; rfl).trans c0
      have c1' := (show W1.cell? ⟨zb, 1, none⟩ = w.cell? ⟨zb, 1, none⟩ by rw [← hW]; rfl).trans c1
      have d0' := (show W1.cell? ⟨yb, 0, none⟩ = w.cell? ⟨yb, 0, none⟩ by rw [← hW]; rfl).trans d0
      have d1' := (show W1.cell? ⟨yb, 1, none⟩ = w.cell? ⟨yb, 1, none⟩ by rw [← hW]; rfl).trans d1
      have HW : Hid (W1 = w.drewN nq) := hW.symm
      clear hW
      go_quiet ((go_at_call 20; exact Calls.quiet_of_same (natcmp_nil _ _ _ _ _)))
      go_wp2_with fail
      go_ret
      rw [HW.out]
      simp only [World.drewN_drewN]
      exact ⟨rfl, _, rfl⟩
  · have e1 : word1 n = [n] := by simp [word1, h0]
    rw [e1] at hx hy
    have ex : ∃ g c, x = .slice (some ⟨g, 0, none⟩) 1 c ∧ w.cell? ⟨g, 0, none⟩ = some (.int .u64 n) := by
      rcases hx with ⟨_, h⟩ | ⟨g, cap, rfl, _, h⟩
      · cases h
      · exact ⟨_, _, rfl, h 0 (by simp)⟩
    have ey : ∃ g c, y = .slice (some ⟨g, 0, none⟩) 1 c ∧ w.cell? ⟨g, 0, none⟩ = some (.int .u64 n) := by
      rcases hy with ⟨_, h⟩ | ⟨g, cap, rfl, _, h⟩
      · cases h
      · exact ⟨_, _, rfl, h 0 (by simp)⟩
    obtain ⟨g, c, rfl, hg⟩ := ex
    obtain ⟨g', c', rfl, hg'⟩ := ey
    clear hx hy I J e1
    cases ng
    all_goals
      go_enter Ybaf.func7, Ybaf.ntmps7
      go_wp2_with fail
      go_quiet (fail)
      go_wp2_with fail
      generalize hW : w.drewN nq = W1
      have c0' := (show W1.cell? ⟨zb, 0, none⟩ = w.cell? ⟨zb, 0, none⟩ by rw [← hW]; rfl).trans c0
      have c1' := (show W1.cell? ⟨zb, 1, none⟩ = w.cell? ⟨zb, 1, none⟩ by rw [← hW]; rfl).trans c1
      have d0' := (show W1.cell? ⟨yb, 0, none⟩ = w.cell? ⟨yb, 0, none⟩ by rw [← hW]; rfl).trans d0
      have d1' := (show W1.cell? ⟨yb, 1, none⟩ = w.cell? ⟨yb, 1, none⟩ by rw [← hW]; rfl).trans d1
      have k1 : W1.cell? ⟨g, 0, none⟩ = some (.int .u64 n) := by rw [← hW]; exact hg
      have k2 : W1.cell? ⟨g', 0, none⟩ = some (.int .u64 n) := by rw [← hW]; exact hg'
      have HW : Hid (W1 = w.drewN nq) := hW.symm
      clear hW
      go_quiet ((go_at_call 20; exact Calls.quiet_of (natcmp_one g g' c c' n _ (by exact k1) (by exact k2))))
      go_wp2_with fail
      go_ret
      rw [HW.out]
      simp only [World.drewN_drewN]
      exact ⟨rfl, _, rfl⟩
end Go.Proofs.YbulkmjkFmt
