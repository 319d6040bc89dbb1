import Derived.Test.YbulkmjkFmtSet
namespace Go.Proofs.YbulkmjkFmt
open Go.RowKit

set_option maxRecDepth 100000 in
set_option maxHeartbeats 1000000 in
theorem counterInitial_any (p : Addr) (w : World) : Calls Ybaf.prog 13 #[.pointer (some p)] w fun e w' => e = .returned (.agg #[.int .u8 3, .slice none 0 0, .pointer (some p)]) ∧ Below w.heap.size w w' := by
  go_enter Ybaf.func13, Ybaf.ntmps13
  go_wp2
  refine bodyPost_ret (v := .agg #[.int .u8 3, .slice none 0 0, .pointer (some p)]) (by simp [results, Ybaf.results13, go_sem]) rfl ⟨rfl, ?_⟩
  exact (Below.refl _ _).alloc (Nat.le_refl _) _

def ReadPost (w : World) (s : ByteArray) (e : Ending) (w' : World) : Prop :=
  (e = .returned (.tuple #[.agg #[.int .u8 3, .slice none 0 0, .pointer (some ⟨w.heap.size + 1, 0, none⟩)], .bool true, .nilIface]) ∧ Good s ∧
    ∃ v ws B, w.heap.size + 1 < B ∧ NatV w' B v ws ∧ val ws = dec (seg s (signAt s) (s.size - signAt s)) ∧ IntAt w' (w.heap.size + 1) (decide (0 < ws.length) && negAt s) v ∧ Below w.heap.size w w') ∨
  (e = .returned (.tuple #[.agg #[.int .u8 0, .slice none 0 0, .pointer none], .bool false, .nilIface]) ∧ ¬ Good s ∧ Below w.heap.size w w')

theorem NatV.grow {w w' : World} {B : Nat} {v : Value} {ws : List Nat} (h : NatV w B v ws) (n : Below w.heap.size w w') : NatV w' B v ws := by
  obtain ⟨h1, h2, h3⟩ := h
  refine ⟨h1, h2, h3.imp_right ?_⟩
  rintro ⟨g, cap, e, R, hc⟩
  have hl := R.lt
  exact ⟨g, cap, e, ⟨R.base, Nat.lt_of_lt_of_le hl n.size, R.len, R.most, fun j hj => by rw [n.cell (p := ⟨g, j, none⟩) hl]; exact R.there j hj, fun j => by rw [n.frozen (p := ⟨g, j, none⟩) hl]; exact R.free j⟩, fun j hj => by rw [n.cell (p := ⟨g, j, none⟩) hl]; exact hc j hj⟩

theorem lt_of_cell {w : World} {b o : Nat} {v : Value} (h : w.cell? ⟨b, o, none⟩ = some v) : b < w.heap.size := by
  by_cases hb : b < w.heap.size
  · exact hb
  · have : w.heap[b]? = none := Array.getElem?_eq_none (by omega)
    simp [World.cell?, this] at h

set_option maxRecDepth 100000 in
set_option maxHeartbeats 1000000 in
theorem readCount_any (s : ByteArray) (a a5 : Addr) (w : World) (hg : w.cell? ⟨1, 0, none⟩ = some (.iface 117 (.pointer (some a)))) (hg5 : w.cell? ⟨5, 0, none⟩ = some (.iface 117 (.pointer (some a5)))) (hs : s.size ≤ 1024) :
    Calls Ybaf.prog 6 #[.string s] w fun e w' => ReadPost w s e w' := by
  have h5 := lt_of_cell hg5
  have hb0 : Below w.heap.size w ((w.alloc (Obj.cells #[.int .u8 0, .slice none 0 0, .pointer none] 26)).alloc (Obj.cells #[.bool false, .slice none 0 0] 43)) :=
    ((Below.refl w.heap.size w).alloc (Nat.le_refl _) _).alloc (by simp) _
  have hI : IntAt ((w.alloc (Obj.cells #[.int .u8 0, .slice none 0 0, .pointer none] 26)).alloc (Obj.cells #[.bool false, .slice none 0 0] 43)) (w.heap.size + 1) false (.slice none 0 0) :=
    ⟨by simp, by go_simp, by go_simp, fun j => by go_simp⟩
  have hc0 : ((w.alloc (Obj.cells #[.int .u8 0, .slice none 0 0, .pointer none] 26)).alloc (Obj.cells #[.bool false, .slice none 0 0] 43)).cell? ⟨w.heap.size, 0, none⟩ = some (.int .u8 0) := by go_simp
  have hc1 : ((w.alloc (Obj.cells #[.int .u8 0, .slice none 0 0, .pointer none] 26)).alloc (Obj.cells #[.bool false, .slice none 0 0] 43)).cell? ⟨w.heap.size, 1, none⟩ = some (.slice none 0 0) := by go_simp
  have hc2 : ((w.alloc (Obj.cells #[.int .u8 0, .slice none 0 0, .pointer none] 26)).alloc (Obj.cells #[.bool false, .slice none 0 0] 43)).cell? ⟨w.heap.size, 2, none⟩ = some (.pointer none) := by go_simp
  have hfz : ∀ j, ((w.alloc (Obj.cells #[.int .u8 0, .slice none 0 0, .pointer none] 26)).alloc (Obj.cells #[.bool false, .slice none 0 0] 43)).frozen? ⟨w.heap.size, j, none⟩ = false := fun j => by go_simp
  go_enter Ybaf.func6, Ybaf.ntmps6
  go_wp2_with fail
  generalize ((w.alloc (Obj.cells #[.int .u8 0, .slice none 0 0, .pointer none] 26)).alloc (Obj.cells #[.bool false, .slice none 0 0] 43)) = W at hb0 hI hc0 hc1 hc2 hfz ⊢
  have hr1 : W.cell? ⟨1, 0, none⟩ = some (.iface 117 (.pointer (some a))) := (hb0.cell (p := ⟨1, 0, none⟩) (by show 1 < w.heap.size; omega)).trans hg
  have hr5 : W.cell? ⟨5, 0, none⟩ = some (.iface 117 (.pointer (some a5))) := (hb0.cell (p := ⟨5, 0, none⟩) (by show 5 < w.heap.size; omega)).trans hg5
  refine (setString_any (w.heap.size + 1) s a a5 W hI hr1 hr5 (by omega) hs).mono ?_
  rintro e w2 hp
  have hb2 : Below (w.heap.size + 1) W w2 := by
    rcases hp with ⟨_, _, v, ws, B, _, _, _, _, h⟩ | ⟨_, _, h⟩ <;> exact h
  have l0 : w.heap.size < w.heap.size + 1 := by omega
  have g0 : w2.cell? ⟨w.heap.size, 0, none⟩ = some (.int .u8 0) := (hb2.cell (p := ⟨w.heap.size, 0, none⟩) l0).trans hc0
  have g1 : w2.cell? ⟨w.heap.size, 1, none⟩ = some (.slice none 0 0) := (hb2.cell (p := ⟨w.heap.size, 1, none⟩) l0).trans hc1
  have g2 : w2.cell? ⟨w.heap.size, 2, none⟩ = some (.pointer none) := (hb2.cell (p := ⟨w.heap.size, 2, none⟩) l0).trans hc2
  have f0 : w2.frozen? ⟨w.heap.size, 0, none⟩ = false := (hb2.frozen (p := ⟨w.heap.size, 0, none⟩) l0).trans (hfz 0)
  have f1 : w2.frozen? ⟨w.heap.size, 1, none⟩ = false := (hb2.frozen (p := ⟨w.heap.size, 1, none⟩) l0).trans (hfz 1)
  have f2 : w2.frozen? ⟨w.heap.size, 2, none⟩ = false := (hb2.frozen (p := ⟨w.heap.size, 2, none⟩) l0).trans (hfz 2)
  have HB : Hid (Below w.heap.size w w2) := hb0.trans (hb2.mono (by omega))
  have hsz2 : w.heap.size < w2.heap.size := lt_of_cell g0
  clear hb0 hI hc0 hc1 hc2 hfz hb2 hr1 hr5
  rcases hp with ⟨rfl, hgd, D⟩ | ⟨rfl, hgd, _⟩
  · have HD : Hid (Good s ∧ SetDone W (w.heap.size + 1) s w2) := ⟨hgd, D⟩
    clear hgd D
    go_wp2_with fail
    refine (counterInitial_any ⟨w.heap.size + 1, 0, none⟩ w2).mono ?_
    rintro e w3 ⟨rfl, b3⟩
    have m0 : w3.cell? ⟨w.heap.size, 0, none⟩ = some (.int .u8 0) := (b3.cell (p := ⟨w.heap.size, 0, none⟩) hsz2).trans g0
    have m1 : w3.cell? ⟨w.heap.size, 1, none⟩ = some (.slice none 0 0) := (b3.cell (p := ⟨w.heap.size, 1, none⟩) hsz2).trans g1
    have m2 : w3.cell? ⟨w.heap.size, 2, none⟩ = some (.pointer none) := (b3.cell (p := ⟨w.heap.size, 2, none⟩) hsz2).trans g2
    have n0 : w3.frozen? ⟨w.heap.size, 0, none⟩ = false := (b3.frozen (p := ⟨w.heap.size, 0, none⟩) hsz2).trans f0
    have n1 : w3.frozen? ⟨w.heap.size, 1, none⟩ = false := (b3.frozen (p := ⟨w.heap.size, 1, none⟩) hsz2).trans f1
    have n2 : w3.frozen? ⟨w.heap.size, 2, none⟩ = false := (b3.frozen (p := ⟨w.heap.size, 2, none⟩) hsz2).trans f2
    have H3 : Hid (Below w2.heap.size w2 w3) := b3
    clear b3 g0 g1 g2 f0 f1 f2
    go_wp2_with fail
    refine bodyPost_ret (v := .tuple #[.agg #[.int .u8 3, .slice none 0 0, .pointer (some ⟨w.heap.size + 1, 0, none⟩)], .bool true, .nilIface]) (by simp [results, Ybaf.results6, go_sem, m0, m1, m2]) rfl ?_
    obtain ⟨hgd, v, ws, B, d0, d1, d2, d3, d4⟩ := HD.out
    have N4 : Near w.heap.size w3 (((w3.setCell ⟨w.heap.size, 0, none⟩ (.int .u8 3)).setCell ⟨w.heap.size, 1, none⟩ (.slice none 0 0)).setCell ⟨w.heap.size, 2, none⟩ (.pointer (some ⟨w.heap.size + 1, 0, none⟩))) :=
      (((Near.refl w.heap.size w3).setCell 0 _).setCell 1 _).setCell 2 _
    have hI3 := d3.below H3.out d3.lt
    have hne : w.heap.size + 1 ≠ w.heap.size := by omega
    refine Or.inl ⟨rfl, hgd, v, ws, B, d0, (d1.grow H3.out).near N4 (by omega), d2, ⟨by rw [N4.size]; exact hI3.lt, (N4.cell _ 0 hne).trans hI3.c0, (N4.cell _ 1 hne).trans hI3.c1, fun j => (N4.frozen _).trans (hI3.free j)⟩, (HB.out.trans (H3.out.mono (by omega))).trans N4.below⟩
  · go_wp2_with fail
    refine bodyPost_ret (v := .tuple #[.agg #[.int .u8 0, .slice none 0 0, .pointer none], .bool false, .nilIface]) (by simp [results, Ybaf.results6, go_sem, g0, g1, g2]) rfl ?_
    exact Or.inr ⟨rfl, hgd, ((HB.out.setCell (Nat.le_refl _) _).setCell (Nat.le_refl _) _).setCell (Nat.le_refl _) _⟩
end Go.Proofs.YbulkmjkFmt
