import Derived.Test.YbulkmjkFmtVal
import Derived.Laws.Twins
import Derived.RegionTactic
import Derived.OwnWalk
namespace Go.Proofs.YbulkmjkFmt
open Go.RowKit

/-- block g holds a row of at least cap cells, none of them frozen; its first ones hold ws -/
structure Row (w : World) (g cap : Nat) (ws : List Nat) : Prop where
  lt : g < w.heap.size
  len : ws.length ≤ cap
  there : ∀ j, j < cap → ∃ v, w.cell? ⟨g, j, none⟩ = some v
  free : ∀ j, w.frozen? ⟨g, j, none⟩ = false
  words : ∀ j (h : j < ws.length), w.cell? ⟨g, j, none⟩ = some (.int .u64 (ws[j] : Nat))
  small : ∀ j (h : j < ws.length), ws[j] < W64

theorem mulAddVWW_enters (args : Array Value) (w : World) : (callFunc 42 args).run Ybaf.prog w = .ok (.enter 18 args) w :=
  run_callFunc_twin (twin := Ybaf.f18.name) Ybaf.func42 (by kernel_rfl) (by kernel_rfl) (by kernel_rfl) (by kernel_rfl) Ybaf.func18 (by kernel_rfl) (by kernel_rfl) (by kernel_rfl) args w

/-- what holds of mulAddVWW_g's loop -/
structure MInv (w : World) (g : Nat) (ws : List Nat) (y r : Nat) (out : List Nat) (q : Nat) (wr : World) : Prop where
  len : out.length ≤ ws.length
  qs : q < W64
  eq : val out + W64 ^ out.length * q = val (ws.take out.length) * y + r
  small : ∀ j (h : j < out.length), out[j] < W64
  cells : ∀ j (h : j < out.length), wr.cell? ⟨g, j, none⟩ = some (.int .u64 (out[j] : Nat))
  other : ∀ b j, (b ≠ g ∨ out.length ≤ j) → wr.cell? ⟨b, j, none⟩ = w.cell? ⟨b, j, none⟩
  frozen : ∀ a, wr.frozen? a = w.frozen? a
  size : wr.heap.size = w.heap.size
  below : Below g w wr

theorem MInv.start (w : World) (g : Nat) (ws : List Nat) (y r : Nat) (hr : r < W64) : MInv w g ws y r [] r w where
  len := Nat.zero_le _
  qs := hr
  eq := by simp [val]
  small := fun j h => by simp at h
  cells := fun j h => by simp at h
  other := fun _ _ _ => rfl
  frozen := fun _ => rfl
  size := rfl
  below := Below.refl _ _

theorem MInv.step {w : World} {g : Nat} {ws : List Nat} {y r : Nat} {out : List Nat} {q : Nat} {wr : World} (M : MInv w g ws y r out q wr) (hl : out.length < ws.length)
    (hi lo : Nat) (h1 : lo < W64) (h2 : hi < W64) (h3 : hi * W64 + lo = ws[out.length] * y + q) (hz : ∃ v, w.cell? ⟨g, out.length, none⟩ = some v) :
    MInv w g ws y r (out ++ [lo]) hi (wr.setCell ⟨g, out.length, none⟩ (.int .u64 lo)) where
  len := by simp; omega
  qs := h2
  eq := by rw [List.length_append]; exact val_round out ws y q r hi lo out.length rfl hl M.eq h3
  small := fun j h => by
    rw [List.getElem_append]
    split
    · exact M.small j _
    · simpa using h1
  cells := fun j h => by
    rw [List.getElem_append]
    split
    · rename_i hj
      rw [World.cell?_setCell_other _ _ _ _ (fun e => by simp at e <;> omega)]
      exact M.cells j hj
    · rename_i hj
      have : j = out.length := by simp at h; omega
      subst this
      obtain ⟨v, hv⟩ := hz
      simpa using World.cell?_setCell_same wr ⟨g, out.length, none⟩ (.int .u64 lo) ((M.other g out.length (Or.inr (Nat.le_refl _))).trans hv)
  other := fun b j h => by
    simp only [List.length_append, List.length_cons, List.length_nil] at h
    rw [World.cell?_setCell_other _ _ _ _ (fun e => by simp at e <;> omega)]
    exact M.other b j (by omega)
  frozen := fun a => by simp [M.frozen]
  size := by simp [M.size]
  below := M.below.setCell (Nat.le_refl _) _

set_option maxHeartbeats 1000000 in
theorem mulAddVWW_any (g g' cap cap' : Nat) (ws : List Nat) (y r : Nat) (w : World) (hy : y < W64) (hr : r < W64)
    (hm : ws.length ≤ 9223372036854775807)
    (hx : ∀ j (h : j < ws.length), w.cell? ⟨g', j, none⟩ = some (.int .u64 (ws[j] : Nat)))
    (hs : ∀ j (h : j < ws.length), ws[j] < W64)
    (hz : ∀ j, j < ws.length → ∃ v, w.cell? ⟨g, j, none⟩ = some v)
    (hf : ∀ j, w.frozen? ⟨g, j, none⟩ = false) :
    Calls Ybaf.prog 18 #[.slice (some ⟨g, 0, none⟩) ws.length cap, .slice (some ⟨g', 0, none⟩) ws.length cap', .int .u64 y, .int .u64 r] w fun e w' =>
      ∃ (out : List Nat) (c : Nat), e = .returned (.int .u64 c) ∧ out.length = ws.length ∧ MInv w g ws y r out c w' := by
  go_enter Ybaf.func18, Ybaf.ntmps18
  go_wp2_with fail
  go_loopw [8, 19] (fun c i wr => ∃ (out : List Nat) (q : Nat), c = .int .u64 q ∧ i = .int .i64 out.length ∧ MInv w g ws y r out q wr) (fun _ i _ => ws.length - (intOf i).toNat)
  case atStart => exact ⟨[], r, rfl, rfl, MInv.start w g ws y r hr⟩
  case round =>
    obtain ⟨out, q, rfl, rfl, M⟩ := hrel
    have hle := M.len
    by_cases hlt : out.length < ws.length
    · have hg : (out.length : Int) < (ws.length : Int) := by omega
      obtain ⟨v0, hz0⟩ := hz out.length hlt
      have hv1 : wr.cell? ⟨g', out.length, none⟩ = some (.int .u64 (ws[out.length] : Nat)) := (M.other g' out.length (Or.inr (Nat.le_refl _))).trans (hx _ hlt)
      have hv2 : wr.cell? ⟨g, out.length, none⟩ = some v0 := (M.other g out.length (Or.inr (Nat.le_refl _))).trans hz0
      have hf2 : wr.frozen? ⟨g, out.length, none⟩ = false := (M.frozen _).trans (hf _)
      have Mh : Hid (MInv w g ws y r out q wr) := M
      have hq := M.qs
      clear M hx hz hf
      go_wp2_with fail
      refine (mulAddWWW_any ws[out.length] y q (hs _ hlt) hy hq _).mono ?_
      rintro e w' ⟨hi, lo, rfl, rfl, H⟩
      go_wp2
      go_roundw
      case rel => exact ⟨out ++ [lo], hi, rfl, by simp, Mh.out.step hlt hi lo H.out.1 H.out.2.1 H.out.2.2 ⟨v0, hz0⟩⟩
      case measure => simp [intOf]; omega
    · have hg : ¬ (out.length : Int) < (ws.length : Int) := by omega
      have e : out.length = ws.length := by omega
      have Mh : Hid (MInv w g ws y r out q wr ∧ out.length = ws.length) := ⟨M, e⟩
      clear M e hx hz hf
      go_wp2
      go_ret
      exact ⟨out, q, rfl, Mh.out.2, Mh.out.1⟩
end Go.Proofs.YbulkmjkFmt
