import Derived.Test.YbulkmjkFmtInt
namespace Go.Proofs.YbulkmjkFmt
open Go.RowKit

theorem neq_eof (a : Addr) (w : World) : Sem.run Ybaf.prog (binOp .neq 28 (.iface 117 (.pointer (some a))) (.iface 117 (.pointer (some a)))) w = .ok (.bool false) w := by
  obtain ⟨i, hi, hc⟩ := Option.map_eq_some_iff.1 info117
  obtain ⟨j, hj⟩ := Option.isSome_iff_exists.1 info139
  simp only [binOp]
  simp [Op.equal, Op.maxDepth, run_equalIn_iface_ptr_same w 9998 a Ybaf.underlying28 Ybaf.underlying117 hi hc hj]
theorem neq_nil_eof (a : Addr) (w : World) : Sem.run Ybaf.prog (binOp .neq 28 .nilIface (.iface 117 (.pointer (some a)))) w = .ok (.bool true) w := by
  have h : ∀ d : Nat, (Op.equalIn (d + 1) 28 .nilIface (.iface 117 (.pointer (some a)))).run Ybaf.prog w = .ok false w := fun d => by simp [Op.equalIn, run_underlying Ybaf.underlying28]
  simp only [binOp]
  simp [Op.equal, Op.maxDepth, h 9999]

/-- the text is a sign or none, and then digits, one at least -/
def Good (s : ByteArray) : Prop := signAt s < s.size ∧ ∀ j, signAt s ≤ j → (h : j < s.size) → isDig s[j]

/-- what SetString leaves of a good text -/
def SetDone (w : World) (zb : Nat) (s : ByteArray) (w' : World) : Prop :=
  ∃ v ws B, zb < B ∧ NatV w' B v ws ∧ val ws = dec (seg s (signAt s) (s.size - signAt s)) ∧ IntAt w' zb (decide (0 < ws.length) && negAt s) v ∧ Below zb w w'

def SetPost (w : World) (zb : Nat) (s : ByteArray) (e : Ending) (w' : World) : Prop :=
  (e = .returned (.tuple #[.pointer (some ⟨zb, 0, none⟩), .bool true]) ∧ Good s ∧ SetDone w zb s w') ∨
  (e = .returned (.tuple #[.pointer none, .bool false]) ∧ ¬ Good s ∧ Below zb w w')

set_option maxRecDepth 100000 in
set_option maxHeartbeats 1000000 in
theorem setFromScanner_any (zb rb : Nat) (s : ByteArray) (a a5 : Addr) (w : World) (R : Rd w rb s 0) (I : IntAt w zb false (.slice none 0 0)) (hg : w.cell? ⟨1, 0, none⟩ = some (.iface 117 (.pointer (some a)))) (hg5 : w.cell? ⟨5, 0, none⟩ = some (.iface 117 (.pointer (some a5)))) (hrb : 5 < zb) (hz : zb < rb) (hs : s.size ≤ 1024) :
    Calls Ybaf.prog 24 #[.pointer (some ⟨zb, 0, none⟩), .iface 55 (.pointer (some ⟨rb, 0, none⟩)), .int .i64 10] w fun e w' => SetPost w zb s e w' := by
  have hm1 := meth_read
  have hm2 := meth_unread
  by_cases h0 : s.size = 0
  · have hng : ¬ Good s := fun h => by have := h.1; omega
    go_enter Ybaf.func24, Ybaf.ntmps24
    go_wp2_with fail
    refine (intScan_empty zb rb s a w R hg hrb hz h0).mono ?_
    rintro e w1 ⟨rfl, hb⟩
    go_wp2_with fail
    go_ret2
    exact Or.inr ⟨rfl, hng, hb⟩
  · have hsg : signAt s ≤ s.size := by
      unfold signAt
      split
      · split <;> omega
      · omega
    go_enter Ybaf.func24, Ybaf.ntmps24
    go_wp2_with fail
    refine (intScan_some zb rb s a a5 w R I hg hg5 hrb hz (by omega) hs).mono ?_
    rintro e w1 (⟨rfl, hb, hn⟩ | ⟨k, rfl, hk, D⟩)
    · have hng : ¬ Good s := fun h => hn h.1 (h.2 _ (Nat.le_refl _) h.1)
      have H : Hid (¬ Good s ∧ Below zb w w1) := ⟨hng, hb⟩
      clear hng hb hn
      go_wp2_with fail
      go_ret2
      exact Or.inr ⟨rfl, H.out.1, H.out.2⟩
    · obtain ⟨v, ws, d1, d2, d3, d4, d5, d6, d7, d8⟩ := D
      have hr1 : w1.cell? ⟨1, 0, none⟩ = some (.iface 117 (.pointer (some a))) := (d5.cell (p := ⟨1, 0, none⟩) (by show 1 < zb; omega)).trans hg
      have hneq := neq_eof a
      have hneq2 := neq_nil_eof a
      by_cases hend : signAt s + k = s.size
      · have hgd : Good s := ⟨by omega, fun j h1 h2 => by
          have := d7 (j - signAt s) (by omega) (by omega)
          have e : signAt s + (j - signAt s) = j := by omega
          simpa only [e] using this⟩
        have hk2 : k = s.size - signAt s := by omega
        have H : Hid (NatV w1 (rb + 1) v ws ∧ val ws = dec (seg s (signAt s) (s.size - signAt s)) ∧ IntAt w1 zb (decide (0 < ws.length) && negAt s) v ∧ Below zb w w1 ∧ Good s ∧ Rd w1 rb s (signAt s + k)) := ⟨d1, by rw [← hk2]; exact d2, d4, d5, hgd, d3⟩
        clear d1 d2 d3 d4 d5 d6 d7 d8 hgd hk2
        go_wp2_with fail
        refine (readByte_none rb _ s _ w1 H.out.2.2.2.2.2 hr1 (by omega) (by omega)).mono ?_
        rintro e w2 ⟨rfl, R2, N2⟩
        have hr2 : w2.cell? ⟨1, 0, none⟩ = some (.iface 117 (.pointer (some a))) := (N2.cell 1 0 (by omega)).trans hr1
        have H2 : Hid (Near rb w1 w2) := N2
        clear R2 N2 hr1
        go_wp2_with fail
        go_ret2
        obtain ⟨d1, d2, d4, d5, hgd, _⟩ := H.out
        exact Or.inl ⟨rfl, hgd, v, ws, rb + 1, by omega, d1.near H2.out (by omega), d2, d4.below H2.out.below hz, d5.trans (H2.out.below.mono (by omega))⟩
      · have hlt : signAt s + k < s.size := by omega
        have hng : ¬ Good s := fun h => d8 hlt (h.2 _ (by omega) hlt)
        have H : Hid (¬ Good s ∧ Below zb w w1 ∧ Rd w1 rb s (signAt s + k)) := ⟨hng, d5, d3⟩
        clear d1 d2 d3 d4 d5 d6 d7 d8 hng
        go_wp2_with fail
        refine (readByte_some rb _ s w1 H.out.2.2 hlt hs).mono ?_
        rintro e w2 ⟨rfl, R2, N2⟩
        have hr2 : w2.cell? ⟨1, 0, none⟩ = some (.iface 117 (.pointer (some a))) := (N2.cell 1 0 (by omega)).trans hr1
        have H2 : Hid (Near rb w1 w2) := N2
        clear R2 N2 hr1
        go_wp2_with fail
        go_ret2
        exact Or.inr ⟨rfl, H.out.1, H.out.2.1.trans (H2.out.below.mono (by omega))⟩

set_option maxRecDepth 100000 in
set_option maxHeartbeats 1000000 in
theorem newReader_any (s : ByteArray) (w : World) : Calls Ybaf.prog 25 #[.string s] w fun e w' => e = .returned (.pointer (some ⟨w.heap.size, 0, none⟩)) ∧ Rd w' w.heap.size s 0 ∧ Below w.heap.size w w' := by
  go_enter Ybaf.func25, Ybaf.ntmps25
  go_wp2_with fail
  go_ret
  refine ⟨rfl, ⟨by simp, ?_, ?_, ⟨-1, ?_⟩, fun j => World.frozen?_alloc_at _ _ _ _ rfl⟩, (Below.refl _ _).alloc (Nat.le_refl _) _⟩
  · rw [World.cell?_alloc_at _ _ _ _ rfl]; rfl
  · rw [World.cell?_alloc_at _ _ _ _ rfl]; rfl
  · rw [World.cell?_alloc_at _ _ _ _ rfl]; rfl

set_option maxRecDepth 100000 in
set_option maxHeartbeats 1000000 in
theorem setString_any (zb : Nat) (s : ByteArray) (a a5 : Addr) (w : World) (I : IntAt w zb false (.slice none 0 0)) (hg : w.cell? ⟨1, 0, none⟩ = some (.iface 117 (.pointer (some a)))) (hg5 : w.cell? ⟨5, 0, none⟩ = some (.iface 117 (.pointer (some a5)))) (hrb : 5 < zb) (hs : s.size ≤ 1024) :
    Calls Ybaf.prog 12 #[.pointer (some ⟨zb, 0, none⟩), .string s, .int .i64 10] w fun e w' => SetPost w zb s e w' := by
  have hzl := I.lt
  have HI : Hid (IntAt w zb false (.slice none 0 0)) := I
  go_enter Ybaf.func12, Ybaf.ntmps12
  go_wp2_with fail
  refine (newReader_any s w).mono ?_
  rintro e w1 ⟨rfl, R1, b1⟩
  have HR : Hid (Rd w1 w.heap.size s 0 ∧ Below w.heap.size w w1) := ⟨R1, b1⟩
  have hr1 : w1.cell? ⟨1, 0, none⟩ = some (.iface 117 (.pointer (some a))) := (b1.cell (p := ⟨1, 0, none⟩) (by show 1 < w.heap.size; omega)).trans hg
  have hr5 : w1.cell? ⟨5, 0, none⟩ = some (.iface 117 (.pointer (some a5))) := (b1.cell (p := ⟨5, 0, none⟩) (by show 5 < w.heap.size; omega)).trans hg5
  clear R1 b1
  go_wp2_with fail
  refine (setFromScanner_any zb w.heap.size s a a5 w1 HR.out.1 (HI.out.below HR.out.2 hzl) hr1 hr5 hrb hzl hs).mono ?_
  rintro e w2 (⟨rfl, hgd, D⟩ | ⟨rfl, hgd, hb⟩)
  · go_wp2_with fail
    go_ret2
    obtain ⟨v, ws, B, d0, d1, d2, d3, d4⟩ := D
    exact Or.inl ⟨rfl, hgd, v, ws, B, d0, d1, d2, d3, (HR.out.2.mono (by omega)).trans d4⟩
  · go_wp2_with fail
    go_ret2
    exact Or.inr ⟨rfl, hgd, (HR.out.2.mono (by omega)).trans hb⟩
end Go.Proofs.YbulkmjkFmt
