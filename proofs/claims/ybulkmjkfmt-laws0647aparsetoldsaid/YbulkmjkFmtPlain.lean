import Derived.Test.YbulkmjkFmtSet
namespace Go.Proofs.YbulkmjkFmt

def digB (c : UInt8) : Bool := decide (48 ≤ c.toNat) && decide (c.toNat ≤ 57)
theorem digB_iff (c : UInt8) : digB c = true ↔ isDig c := by simp [digB, isDig]
def wantB (D : ByteArray) (j : Nat) : Bool := decide (0 < D.size) && (D.data.toList.take j).all digB
def nzB (D : ByteArray) (j : Nat) : Bool := (D.data.toList.take j).any fun c => decide (c.toNat ≠ 48)

theorem take_snoc (s : ByteArray) (k : Nat) (h : k < s.size) : s.data.toList.take (k + 1) = s.data.toList.take k ++ [s[k]] := by
  rw [List.take_succ_eq_append_getElem (by simpa using h)]; rfl
theorem wantB_succ (D : ByteArray) (k : Nat) (h : k < D.size) : wantB D (k + 1) = (wantB D k && digB D[k]) := by
  simp [wantB, take_snoc D k h, Bool.and_assoc]
theorem nzB_succ (D : ByteArray) (k : Nat) (h : k < D.size) : nzB D (k + 1) = (nzB D k || decide (D[k].toNat ≠ 48)) := by
  simp [nzB, take_snoc D k h]
theorem wantB_zero (D : ByteArray) : wantB D 0 = decide (0 < D.size) := by simp [wantB]
theorem nzB_zero (D : ByteArray) : nzB D 0 = false := by simp [nzB]

theorem extract_size (s : ByteArray) (st : Nat) : (s.extract st s.size).size = s.size - st := by simp
theorem extract_list (s : ByteArray) (st : Nat) : (s.extract st s.size).data.toList = seg s st (s.size - st) := by
  simp [seg, ByteArray.data_extract]

/-- the law's own 'want' is 'good' -/
theorem want_good (s : ByteArray) (hst : signAt s ≤ s.size) : wantB (s.extract (signAt s) s.size) (s.extract (signAt s) s.size).size = true ↔ Good s := by
  have hl := extract_list s (signAt s)
  have hz := extract_size s (signAt s)
  have e : (s.extract (signAt s) s.size).data.toList.take (s.extract (signAt s) s.size).size = s.data.toList.drop (signAt s) := by
    rw [hl, hz, seg, List.take_take, List.take_of_length_le]
    simp
  unfold wantB Good
  rw [e, hz]
  simp only [Bool.and_eq_true, decide_eq_true_eq, List.all_eq_true, digB_iff]
  constructor
  · rintro ⟨h1, h2⟩
    refine ⟨by omega, fun j hj h => ?_⟩
    apply h2
    rw [List.mem_drop_iff_getElem]
    have hjl : j < s.data.toList.length := by simpa using h
    exact ⟨j - signAt s, by omega, by simp only [show signAt s + (j - signAt s) = j by omega]; rfl⟩
  · rintro ⟨h1, h2⟩
    refine ⟨by omega, fun x hx => ?_⟩
    rw [List.mem_drop_iff_getElem] at hx
    obtain ⟨i, hi, rfl⟩ := hx
    have : signAt s + i < s.size := by simpa [Nat.add_comm] using hi
    exact h2 (signAt s + i) (by omega) this

theorem dec_lt (l : List UInt8) (h : ∀ c ∈ l, isDig c) : dec l < 10 ^ l.length := by
  have key : ∀ (l : List UInt8), (∀ c ∈ l, isDig c) → ∀ t m, t < 10 ^ m → l.foldl (fun t c => t * 10 + (c.toNat - 48)) t < 10 ^ (m + l.length) := by
    intro l
    induction l with
    | nil => intro _ t m h; simpa using h
    | cons c cs ih =>
      intro h t m ht
      have hc := h c (by simp)
      have := ih (fun x hx => h x (by simp [hx])) (t * 10 + (c.toNat - 48)) (m + 1) (by rw [Nat.pow_succ]; have := hc.1; have := hc.2; omega)
      simp only [List.foldl_cons, List.length_cons]
      rw [show m + (cs.length + 1) = m + 1 + cs.length by omega]
      exact this
  have := key l h 0 0 (by simp)
  simpa [dec] using this

theorem dec_zero (l : List UInt8) (h : ∀ c ∈ l, isDig c) : dec l = 0 ↔ l.any (fun c => decide (c.toNat ≠ 48)) = false := by
  have key : ∀ (l : List UInt8), (∀ c ∈ l, isDig c) → ∀ t, l.foldl (fun t c => t * 10 + (c.toNat - 48)) t = 0 ↔ (t = 0 ∧ l.any (fun c => decide (c.toNat ≠ 48)) = false) := by
    intro l
    induction l with
    | nil => intro _ t; simp
    | cons c cs ih =>
      intro h t
      have hc := h c (by simp)
      have := ih (fun x hx => h x (by simp [hx])) (t * 10 + (c.toNat - 48))
      simp only [List.foldl_cons]
      rw [this]
      simp only [List.any_cons, Bool.or_eq_false_iff, decide_eq_false_iff_not, Decidable.not_not]
      have := hc.1
      constructor
      · rintro ⟨h1, h2⟩; exact ⟨by omega, by omega, h2⟩
      · rintro ⟨h1, h2, h3⟩; exact ⟨by omega, h3⟩
  have := key l h 0
  simpa [dec] using this
end Go.Proofs.YbulkmjkFmt
