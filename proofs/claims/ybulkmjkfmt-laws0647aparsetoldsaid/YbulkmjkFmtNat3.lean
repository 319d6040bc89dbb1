import Derived.Test.YbulkmjkFmtNat2
namespace Go.Proofs.YbulkmjkFmt
open Go.RowKit

theorem norm_take (ws : List Nat) (k : Nat) (hk : k + 1 ≤ ws.length) (h : ws[k] ≠ 0) : Norm (ws.take (k + 1)) := by
  intro hne
  rw [List.getLast_eq_getElem, List.getElem_take]
  have e : (ws.take (k + 1)).length - 1 = k := by rw [List.length_take]; omega
  simp only [e]
  exact h

theorem norm_nil : Norm [] := fun h => absurd rfl h

set_option maxRecDepth 100000 in
set_option maxHeartbeats 1000000 in
theorem norm_any (B g cap : Nat) (ws : List Nat) (w : World) (R : Room w B g ws.length cap)
    (hx : ∀ j (h : j < ws.length), w.cell? ⟨g, j, none⟩ = some (.int .u64 (ws[j] : Nat))) :
    Calls Ybaf.prog 38 #[.slice (some ⟨g, 0, none⟩) ws.length cap] w fun e w' => w' = w ∧ ∃ k, e = .returned (.slice (some ⟨g, 0, none⟩) k cap) ∧ Hid (k ≤ ws.length ∧ Norm (ws.take k) ∧ val (ws.take k) = val ws) := by
  have hl := R.len
  have hm := R.most
  go_enter Ybaf.func38, Ybaf.ntmps38
  go_wp2_with fail
  go_loop [3] (fun i => ∃ k : Nat, i = .int .i64 k ∧ k ≤ ws.length ∧ ∀ j, k ≤ j → (h : j < ws.length) → ws[j] = 0) (fun i => (intOf i).toNat)
  case atStart => exact ⟨ws.length, rfl, Nat.le_refl _, fun j h1 h2 => by omega⟩
  case round =>
    obtain ⟨k, rfl, hk, hz⟩ := hrel
    cases k with
    | zero =>
      have H : Hid (val (ws.take 0) = val ws) := val_take_zeros ws 0 (Nat.zero_le _) hz
      clear hz hx
      go_wp2
      go_ret
      exact ⟨rfl, 0, rfl, Nat.zero_le _, norm_nil, H.out⟩
    | succ k =>
      have hlt : k < ws.length := by omega
      have hc := hx k hlt
      have hg : (0 : Int) < (k : Int) + 1 := by omega
      by_cases h0 : ws[k] = 0
      · have H : Hid (∀ j, k ≤ j → (h : j < ws.length) → ws[j] = 0) := fun j h1 h2 => by
          by_cases e : j = k
          · subst e; exact h0
          · exact hz j (by omega) h2
        rw [h0] at hc
        clear hz hx
        go_wp2
        go_round
        case rel => exact ⟨k, by go_num, by omega, H.out⟩
        case measure => simp [intOf]
      · have H : Hid (val (ws.take (k + 1)) = val ws ∧ Norm (ws.take (k + 1))) := ⟨val_take_zeros ws (k + 1) hk hz, norm_take ws k hk h0⟩
        have hb : (((ws[k] : Nat) : Int) == 0) = false := by simp; omega
        clear hz hx
        go_wp2
        go_ret
        exact ⟨rfl, k + 1, rfl, hk, H.out.2, H.out.1⟩

/-- a big.nat of the call's own making that is normal and means the number N -/
def NatV (w : World) (B : Nat) (v : Value) (ws : List Nat) : Prop :=
  Norm ws ∧ (∀ j (h : j < ws.length), ws[j] < W64) ∧ ((v = .slice none 0 0 ∧ ws = []) ∨ ∃ g cap, v = .slice (some ⟨g, 0, none⟩) ws.length cap ∧ Room w B g ws.length cap ∧ ∀ j (h : j < ws.length), w.cell? ⟨g, j, none⟩ = some (.int .u64 (ws[j] : Nat)))

end Go.Proofs.YbulkmjkFmt
