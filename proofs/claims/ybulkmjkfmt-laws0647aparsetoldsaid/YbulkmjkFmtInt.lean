import Derived.Test.YbulkmjkFmtScan2
namespace Go.Proofs.YbulkmjkFmt
open Go.RowKit

/-- block zb is a big.Int as new(big.Int) lays it, or as a call has left it -/
structure IntAt (w : World) (zb : Nat) (ng : Bool) (v : Value) : Prop where
  lt : zb < w.heap.size
  c0 : w.cell? ⟨zb, 0, none⟩ = some (.bool ng)
  c1 : w.cell? ⟨zb, 1, none⟩ = some v
  free : ∀ j, w.frozen? ⟨zb, j, none⟩ = false

theorem IntAt.below {w w' : World} {zb B : Nat} {ng : Bool} {v : Value} (I : IntAt w zb ng v) (h : Below B w w') (hB : zb < B) : IntAt w' zb ng v :=
  ⟨by have := h.size; have := I.lt; omega, (h.cell (p := ⟨zb, 0, none⟩) hB).trans I.c0, (h.cell (p := ⟨zb, 1, none⟩) hB).trans I.c1, fun j => (h.frozen (p := ⟨zb, j, none⟩) hB).trans (I.free j)⟩

/-- what Int.scan's good way leaves -/
def IntDone (w : World) (zb rb : Nat) (s : ByteArray) (k : Nat) (w' : World) : Prop :=
  ∃ v ws, NatV w' (rb + 1) v ws ∧ val ws = dec (seg s (signAt s) k) ∧ Rd w' rb s (signAt s + k) ∧ IntAt w' zb (decide (0 < ws.length) && negAt s) v ∧ Below zb w w' ∧ signAt s + k ≤ s.size ∧
    (∀ j (h : signAt s + j < s.size), j < k → isDig s[signAt s + j]) ∧ (∀ h : signAt s + k < s.size, ¬ isDig s[signAt s + k])

def IntPost (w : World) (zb rb : Nat) (s : ByteArray) (a5 : Addr) (e : Ending) (w' : World) : Prop :=
  (e = .returned (.tuple #[.pointer none, .int .i64 10, .iface 117 (.pointer (some a5))]) ∧ Below zb w w' ∧ (∀ h : signAt s < s.size, ¬ isDig s[signAt s])) ∨
  (∃ k, e = .returned (.tuple #[.pointer (some ⟨zb, 0, none⟩), .int .i64 10, .nilIface]) ∧ 0 < k ∧ IntDone w zb rb s k w')

set_option maxRecDepth 100000 in
set_option maxHeartbeats 1000000 in
theorem intScan_empty (zb rb : Nat) (s : ByteArray) (a : Addr) (w : World) (R : Rd w rb s 0) (hg : w.cell? ⟨1, 0, none⟩ = some (.iface 117 (.pointer (some a)))) (hrb : 5 < zb) (hz : zb < rb) (h0 : s.size = 0) :
    Calls Ybaf.prog 29 #[.pointer (some ⟨zb, 0, none⟩), .iface 55 (.pointer (some ⟨rb, 0, none⟩)), .int .i64 10] w fun e w' => e = .returned (.tuple #[.pointer none, .int .i64 0, .iface 117 (.pointer (some a))]) ∧ Below zb w w' := by
  go_enter Ybaf.func29, Ybaf.ntmps29
  go_wp2_with fail
  refine (scanSign_empty rb s 117 a w R hg (by omega) h0).mono ?_
  rintro e w' ⟨rfl, R', N⟩
  go_wp2_with fail
  go_ret3
  exact ⟨rfl, N.below.mono (by omega)⟩

set_option maxRecDepth 100000 in
set_option maxHeartbeats 1000000 in
theorem intScan_some (zb rb : Nat) (s : ByteArray) (a a5 : Addr) (w : World) (R : Rd w rb s 0) (I : IntAt w zb false (.slice none 0 0)) (hg : w.cell? ⟨1, 0, none⟩ = some (.iface 117 (.pointer (some a)))) (hg5 : w.cell? ⟨5, 0, none⟩ = some (.iface 117 (.pointer (some a5)))) (hrb : 5 < zb) (hz : zb < rb) (h0 : 0 < s.size) (hs : s.size ≤ 1024) :
    Calls Ybaf.prog 29 #[.pointer (some ⟨zb, 0, none⟩), .iface 55 (.pointer (some ⟨rb, 0, none⟩)), .int .i64 10] w fun e w' => IntPost w zb rb s a5 e w' := by
  go_enter Ybaf.func29, Ybaf.ntmps29
  go_wp2_with fail
  refine (scanSign_some rb s w R h0 hs).mono ?_
  rintro e w1 ⟨rfl, R1, N1⟩
  have I1 := I.below (N1.below) hz
  have i0 := I1.c0
  have i1 := I1.c1
  have f1 := I1.free 1
  have HI : Hid (Rd w1 rb s (signAt s) ∧ Near rb w w1 ∧ IntAt w1 zb false (.slice none 0 0)) := ⟨R1, N1, I1⟩
  have hr1 : w1.cell? ⟨1, 0, none⟩ = some (.iface 117 (.pointer (some a))) := (N1.cell 1 0 (by omega)).trans hg
  have hr5 : w1.cell? ⟨5, 0, none⟩ = some (.iface 117 (.pointer (some a5))) := (N1.cell 5 0 (by omega)).trans hg5
  clear R1 I1 N1
  have hsg : signAt s ≤ s.size := by
    unfold signAt
    split
    · split <;> omega
    · omega
  go_wp2_with fail
  refine (scan_any rb (signAt s) s a a5 w1 HI.out.1 hr1 hr5 (by omega) hs hsg).mono ?_
  rintro e w2 ⟨v, k, er, rfl, rfl, T⟩
  have HT : Hid (ScanTail w1 rb (signAt s) s k v w2) := T
  have hb2 : Below rb w1 w2 := by
    obtain ⟨ws, _, _, _, h, _⟩ := T
    exact h
  have I2 := HI.out.2.2.below hb2 hz
  have j0 := I2.c0
  have j1 := I2.c1
  have k0 := I2.free 0
  have k1 := I2.free 1
  have HI2 : Hid (IntAt w2 zb false (.slice none 0 0) ∧ Below rb w w2) := ⟨I2, HI.out.2.1.below.trans hb2⟩
  clear T I2 hb2 i0 i1 f1 hr1 hr5
  have hv : ∃ (b : Option Addr) (n c : Nat), v = .slice b n c ∧ Hid (∃ ws, n = ws.length ∧ NatV w2 (rb + 1) v ws ∧ val ws = dec (seg s (signAt s) k)) := by
    obtain ⟨ws, t1, t2, _⟩ := HT.out
    rcases t1.2.2 with ⟨rfl, rfl⟩ | ⟨g, cap, rfl, _⟩
    · exact ⟨none, 0, 0, rfl, [], rfl, t1, t2⟩
    · exact ⟨_, ws.length, cap, rfl, ws, rfl, t1, t2⟩
  obtain ⟨b, n, c, rfl, HW⟩ := hv
  have fin : ∀ ng, ng = (decide (0 < n) && negAt s) → IntDone w zb rb s k ((w2.setCell ⟨zb, 1, none⟩ (.slice b n c)).setCell ⟨zb, 0, none⟩ (.bool ng)) := by
    intro ng hng
    obtain ⟨ws, rfl, t1, t2⟩ := HW.out
    obtain ⟨_, _, _, t3, t4, t5, t6, t7⟩ := HT.out
    obtain ⟨I2, hbw⟩ := HI2.out
    have n1 : Near zb w2 ((w2.setCell ⟨zb, 1, none⟩ (.slice b ws.length c)).setCell ⟨zb, 0, none⟩ (.bool ng)) := ((Near.refl zb w2).setCell 1 _).setCell 0 _
    have hbl : rb ≠ zb := by omega
    refine ⟨.slice b ws.length c, ws, t1.near n1 (by omega), t2, ⟨by rw [n1.size]; exact t3.lt, (n1.cell rb 0 hbl).trans t3.c0, (n1.cell rb 1 hbl).trans t3.c1, t3.c2.imp fun _ e => (n1.cell rb 2 hbl).trans e, fun j => (n1.frozen _).trans (t3.free j)⟩, ⟨by rw [n1.size]; exact I2.lt, ?_, ?_, fun j => (n1.frozen _).trans (I2.free j)⟩, (hbw.mono (by omega)).trans n1.below, t5, t6, t7⟩
    · rw [hng]
      exact World.cell?_setCell_same _ _ _ ((World.cell?_setCell_other _ _ _ _ (by simp)).trans I2.c0)
    · exact (World.cell?_setCell_other _ _ _ _ (by simp)).trans (World.cell?_setCell_same _ _ _ I2.c1)
  have HF : Hid (∀ ng, ng = (decide (0 < n) && negAt s) → IntDone w zb rb s k ((w2.setCell ⟨zb, 1, none⟩ (.slice b n c)).setCell ⟨zb, 0, none⟩ (.bool ng))) := fin
  clear fin
  by_cases hk : k = 0
  · subst hk
    have e1 : (if (0 : Nat) = 0 then (.iface 117 (.pointer (some a5)) : Value) else .nilIface) = .iface 117 (.pointer (some a5)) := rfl
    rw [e1]
    clear e1
    go_wp2_with fail
    go_ret3
    obtain ⟨ws, t1, t2, t3, t4, t5, t6, t7⟩ := HT.out
    have hbz : Below zb w w2 := HI2.out.2.mono (by omega)
    exact Or.inl ⟨rfl, hbz.setCell (Nat.le_refl _) _, t7⟩
  · rw [if_neg hk]
    by_cases hl : 0 < n
    · have hl' : (0 : Int) < (n : Int) := by omega
      have hF := HF.out (negAt s) (by simp [hl])
      have HF2 : Hid (IntDone w zb rb s k ((w2.setCell ⟨zb, 1, none⟩ (.slice b n c)).setCell ⟨zb, 0, none⟩ (.bool (negAt s)))) := hF
      clear hF
      go_wp2_with fail
      go_ret3
      exact Or.inr ⟨k, rfl, by omega, HF2.out⟩
    · have hl' : n = 0 := by omega
      subst hl'
      have hF := HF.out false (by simp)
      have HF2 : Hid (IntDone w zb rb s k ((w2.setCell ⟨zb, 1, none⟩ (.slice b 0 c)).setCell ⟨zb, 0, none⟩ (.bool false))) := hF
      clear hF
      go_wp2_with fail
      go_ret3
      exact Or.inr ⟨k, rfl, by omega, HF2.out⟩
end Go.Proofs.YbulkmjkFmt
