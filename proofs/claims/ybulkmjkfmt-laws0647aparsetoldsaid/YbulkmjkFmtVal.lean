import Derived.Test.YbulkmjkFmtArith
namespace Go.Proofs.YbulkmjkFmt

/-- The number that a row of words means, the least word first. -/
def val : List Nat → Nat
  | [] => 0
  | a :: tl => a + W64 * val tl

theorem W64_pos : 0 < W64 := by decide

theorem val_append (a b : List Nat) : val (a ++ b) = val a + W64 ^ a.length * val b := by
  induction a with
  | nil => simp [val]
  | cons x xs ih =>
    simp only [List.cons_append, val, ih, List.length_cons, Nat.pow_succ, Nat.mul_add]
    rw [Nat.mul_comm (W64 ^ xs.length) W64, Nat.mul_assoc]
    omega

theorem val_snoc (a : List Nat) (x : Nat) : val (a ++ [x]) = val a + W64 ^ a.length * x := by
  rw [val_append]; simp [val]

theorem val_take_succ (ws : List Nat) (i : Nat) (h : i < ws.length) : val (ws.take (i + 1)) = val (ws.take i) + W64 ^ i * ws[i] := by
  rw [List.take_succ_eq_append_getElem h, val_snoc, List.length_take, Nat.min_eq_left (by omega)]

/-- one round of mulAddVWW -/
theorem val_round (out ws : List Nat) (y c r hi lo i : Nat) (ho : out.length = i) (hi' : i < ws.length) (h : val out + W64 ^ i * c = val (ws.take i) * y + r) (h2 : hi * W64 + lo = ws[i] * y + c) :
    val (out ++ [lo]) + W64 ^ (i + 1) * hi = val (ws.take (i + 1)) * y + r := by
  rw [val_snoc, ho, val_take_succ ws i hi', Nat.pow_succ, Nat.add_mul, Nat.mul_assoc (W64 ^ i) W64 hi, Nat.mul_assoc (W64 ^ i) _ y]
  have e : W64 ^ i * lo + W64 ^ i * (W64 * hi) = W64 ^ i * (ws[i] * y) + W64 ^ i * c := by
    rw [← Nat.mul_add, ← Nat.mul_add, ← h2, Nat.mul_comm W64 hi, Nat.add_comm]
  omega

/-- a normal row: no words, or the last is not 0 -/
def Norm (ws : List Nat) : Prop := ∀ h : ws ≠ [], ws.getLast h ≠ 0

theorem val_pos_of_norm (ws : List Nat) (hn : Norm ws) (h : ws ≠ []) : 0 < val ws := by
  have hl := hn h
  have e := List.dropLast_concat_getLast h
  rw [← e, val_snoc]
  have : 0 < W64 ^ ws.dropLast.length := Nat.pow_pos W64_pos
  have := Nat.mul_pos this (Nat.pos_of_ne_zero hl)
  omega

theorem norm_zero (ws : List Nat) (hn : Norm ws) : val ws = 0 ↔ ws = [] := by
  constructor
  · intro h
    by_cases e : ws = []
    · exact e
    · have := val_pos_of_norm ws hn e
      omega
  · rintro rfl; rfl

/-- a normal row whose number is a word -/
theorem norm_word (ws : List Nat) (hn : Norm ws) (hw : val ws < W64) : ws = if val ws = 0 then [] else [val ws] := by
  cases ws with
  | nil => simp [val]
  | cons a tl =>
    cases tl with
    | nil =>
      have h : a ≠ 0 := by simpa using hn (by simp)
      simp [val, h]
    | cons b bs =>
      exfalso
      have hl : Norm (b :: bs) := by
        intro h
        have := hn (by simp)
        simpa [List.getLast_cons] using this
      have := val_pos_of_norm (b :: bs) hl (by simp)
      have e : val (a :: b :: bs) = a + W64 * val (b :: bs) := rfl
      have := Nat.le_mul_of_pos_right W64 this
      omega

/-- words behind k that are all 0 count for nothing -/
theorem val_take_zeros (ws : List Nat) (k : Nat) (hk : k ≤ ws.length) (hz : ∀ j, k ≤ j → (h : j < ws.length) → ws[j] = 0) : val (ws.take k) = val ws := by
  have e : ws = ws.take k ++ ws.drop k := (List.take_append_drop k ws).symm
  have hd : ∀ l : List Nat, (∀ x ∈ l, x = 0) → val l = 0 := by
    intro l
    induction l with
    | nil => intro _; rfl
    | cons a tl ih => intro h; simp only [val, h a (by simp), ih (fun x hx => h x (by simp [hx]))]; omega
  have h0 : val (ws.drop k) = 0 := hd _ (fun x hx => by
    obtain ⟨j, hj, rfl⟩ := List.getElem_of_mem hx
    rw [List.length_drop] at hj
    rw [List.getElem_drop]
    exact hz _ (by omega) (by omega))
  conv => rhs; rw [e, val_append, h0]
  omega
end Go.Proofs.YbulkmjkFmt
