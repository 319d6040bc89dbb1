import Derived.Test.YbulkmjkFmtVal
import Derived.RegionTactic
import Derived.Deep.QuietTactic
import Derived.BigQuiet
namespace Go.Proofs.YbulkmjkFmt
open Go.RowKit

/-- block rb is a strings.Reader over s that stands at i -/
structure Rd (w : World) (rb : Nat) (s : ByteArray) (i : Nat) : Prop where
  lt : rb < w.heap.size
  c0 : w.cell? ⟨rb, 0, none⟩ = some (.string s)
  c1 : w.cell? ⟨rb, 1, none⟩ = some (.int .i64 i)
  c2 : ∃ pr, w.cell? ⟨rb, 2, none⟩ = some (.int .i64 pr)
  free : ∀ j, w.frozen? ⟨rb, j, none⟩ = false

theorem Rd.drewN {w : World} {rb : Nat} {s : ByteArray} {i : Nat} (R : Rd w rb s i) (n : Nat) : Rd (w.drewN n) rb s i := ⟨R.lt, R.c0, R.c1, R.c2, R.free⟩

/-- nothing but block rb's cells has turned -/
structure Near (rb : Nat) (w w' : World) : Prop where
  cell : ∀ b j, b ≠ rb → w'.cell? ⟨b, j, none⟩ = w.cell? ⟨b, j, none⟩
  frozen : ∀ a, w'.frozen? a = w.frozen? a
  size : w'.heap.size = w.heap.size
  below : Below rb w w'

theorem Near.refl (rb : Nat) (w : World) : Near rb w w := ⟨fun _ _ _ => rfl, fun _ => rfl, rfl, Below.refl _ _⟩
theorem Near.trans {rb : Nat} {a b c : World} (h : Near rb a b) (k : Near rb b c) : Near rb a c :=
  ⟨fun x j hx => (k.cell x j hx).trans (h.cell x j hx), fun x => (k.frozen x).trans (h.frozen x), k.size.trans h.size, h.below.trans k.below⟩
theorem Near.setCell {rb : Nat} {a b : World} (h : Near rb a b) (o : Nat) (v : Value) : Near rb a (b.setCell ⟨rb, o, none⟩ v) :=
  ⟨fun x j hx => by rw [World.cell?_setCell_other _ _ _ _ (fun e => hx (by cases e; rfl))]; exact h.cell x j hx, fun x => by simp [h.frozen], by simp [h.size], h.below.setCell (Nat.le_refl _) _⟩
theorem below_drewN {B : Nat} {a w : World} (h : Below B a w) (n : Nat) : Below B a (w.drewN n) := ⟨h.os, h.tape, h.output, h.size, h.block⟩
theorem Near.drewN {rb : Nat} {a b : World} (h : Near rb a b) (n : Nat) : Near rb a (b.drewN n) :=
  ⟨fun x j hx => h.cell x j hx, fun x => h.frozen x, h.size, below_drewN h.below n⟩

theorem rd_at {w : World} {rb : Nat} {s : ByteArray} {i : Nat} (R : Rd w rb s i) (n : Nat) (k : Int) (i' : Nat) (hk : k = (i' : Int)) :
    Rd (((w.setCell ⟨rb, 2, none⟩ (.int .i64 (-1))).drewN n).setCell ⟨rb, 1, none⟩ (.int .i64 k)) rb s i' := by
  subst hk
  obtain ⟨pr, h2⟩ := R.c2
  have e2 : (w.setCell ⟨rb, 2, none⟩ (.int .i64 (-1))).cell? ⟨rb, 2, none⟩ = some (.int .i64 (-1)) := World.cell?_setCell_same _ _ _ h2
  refine ⟨by simpa using R.lt, ?_, ?_, ⟨-1, ?_⟩, fun j => by simpa using R.free j⟩
  · rw [World.cell?_setCell_other _ _ _ _ (by simp)]
    show (w.setCell ⟨rb, 2, none⟩ (.int .i64 (-1))).cell? _ = _
    rw [World.cell?_setCell_other _ _ _ _ (by simp)]
    exact R.c0
  · refine World.cell?_setCell_same _ _ _ (u := .int .i64 i) ?_
    show (w.setCell ⟨rb, 2, none⟩ (.int .i64 (-1))).cell? _ = _
    rw [World.cell?_setCell_other _ _ _ _ (by simp)]
    exact R.c1
  · rw [World.cell?_setCell_other _ _ _ _ (by simp)]
    exact e2

theorem rd_at2 {w : World} {rb : Nat} {s : ByteArray} {i : Nat} (R : Rd w rb s i) (n : Nat) :
    Rd ((w.setCell ⟨rb, 2, none⟩ (.int .i64 (-1))).drewN n) rb s i := by
  obtain ⟨pr, h2⟩ := R.c2
  refine ⟨by simpa using R.lt, ?_, ?_, ⟨-1, World.cell?_setCell_same _ _ _ h2⟩, fun j => by simpa using R.free j⟩
  · show (w.setCell ⟨rb, 2, none⟩ (.int .i64 (-1))).cell? _ = _
    rw [World.cell?_setCell_other _ _ _ _ (by simp)]
    exact R.c0
  · show (w.setCell ⟨rb, 2, none⟩ (.int .i64 (-1))).cell? _ = _
    rw [World.cell?_setCell_other _ _ _ _ (by simp)]
    exact R.c1

set_option maxRecDepth 100000 in
set_option maxHeartbeats 1000000 in
theorem readByte_some (rb i : Nat) (s : ByteArray) (w : World) (R : Rd w rb s i) (hi : i < s.size) (hs : s.size ≤ 1024) :
    Calls Ybaf.prog 75 #[.pointer (some ⟨rb, 0, none⟩)] w fun e w' => e = .returned (.tuple #[.int .u8 (s[i]).toNat, .nilIface]) ∧ Rd w' rb s (i + 1) ∧ Near rb w w' := by
  have hi' : (i : Int) < (s.size : Int) := by omega
  have f1 := R.free 1
  have f2 := R.free 2
  have h0 := R.c0
  have h1 := R.c1
  obtain ⟨pr, h2⟩ := R.c2
  have H : Hid (Rd w rb s i) := R
  clear R
  go_enter Ybaf.func75, Ybaf.ntmps75
  go_wp2
  go_quiet (fail)
  go_wp2
  go_quiet (fail)
  go_wp2
  go_ret2
  exact ⟨rfl, rd_at H.out _ _ _ (by simp), (((Near.refl rb w).setCell 2 _).drewN _).setCell 1 _⟩

set_option maxRecDepth 100000 in
set_option maxHeartbeats 1000000 in
theorem readByte_none (rb i : Nat) (s : ByteArray) (eof : Value) (w : World) (R : Rd w rb s i) (hg : w.cell? ⟨1, 0, none⟩ = some eof) (hrb : 1 < rb) (hi : s.size ≤ i) :
    Calls Ybaf.prog 75 #[.pointer (some ⟨rb, 0, none⟩)] w fun e w' => e = .returned (.tuple #[.int .u8 0, eof]) ∧ Rd w' rb s i ∧ Near rb w w' := by
  have hi' : ¬ (i : Int) < (s.size : Int) := by omega
  have hi'' : (s.size : Int) ≤ (i : Int) := by omega
  have hne : rb ≠ 1 := by omega
  have hne' : 1 ≠ rb := by omega
  have f1 := R.free 1
  have f2 := R.free 2
  have h0 := R.c0
  have h1 := R.c1
  obtain ⟨pr, h2⟩ := R.c2
  have H : Hid (Rd w rb s i) := R
  clear R
  go_enter Ybaf.func75, Ybaf.ntmps75
  go_wp2
  go_quiet (fail)
  go_wp2
  go_quiet (fail)
  go_wp2
  go_ret2
  exact ⟨rfl, (rd_at2 H.out _).drewN _, (((Near.refl rb w).setCell 2 _).drewN _).drewN _⟩

set_option maxRecDepth 100000 in
set_option maxHeartbeats 1000000 in
theorem unread_any (rb i : Nat) (s : ByteArray) (w : World) (R : Rd w rb s (i + 1)) (hs : i < 1024) :
    Calls Ybaf.prog 76 #[.pointer (some ⟨rb, 0, none⟩)] w fun e w' => e = .returned .nilIface ∧ Rd w' rb s i ∧ Near rb w w' := by
  have hi' : ¬ (i : Int) + 1 ≤ 0 := by omega
  have f1 := R.free 1
  have f2 := R.free 2
  have h0 := R.c0
  have h1 := R.c1
  obtain ⟨pr, h2⟩ := R.c2
  have H : Hid (Rd w rb s (i + 1)) := R
  clear R
  go_enter Ybaf.func76, Ybaf.ntmps76
  go_wp2
  go_ret
  exact ⟨rfl, rd_at H.out 0 _ _ (by simp), ((Near.refl rb w).setCell 2 _).setCell 1 _⟩
end Go.Proofs.YbulkmjkFmt
