import Derived.Test.YbulkmjkFmtVal
namespace Go.Proofs.YbulkmjkFmt

def dec (l : List UInt8) : Nat := l.foldl (fun t c => t * 10 + (c.toNat - 48)) 0
theorem dec_snoc (l : List UInt8) (c : UInt8) : dec (l ++ [c]) = dec l * 10 + (c.toNat - 48) := by simp [dec, List.foldl_append]
def isDig (c : UInt8) : Prop := 48 ≤ c.toNat ∧ c.toNat ≤ 57
def seg (s : ByteArray) (st k : Nat) : List UInt8 := (s.data.toList.drop st).take k

theorem seg_succ (s : ByteArray) (st k : Nat) (h : st + k < s.size) : seg s st (k + 1) = seg s st k ++ [s[st + k]] := by
  unfold seg
  have hl : k < (s.data.toList.drop st).length := by simp; show k < s.size - st; omega
  rw [List.take_succ_eq_append_getElem hl, List.getElem_drop]
  rfl

/-- what nat.scan has gathered behind k digits from st on: the words ws, and the last i digits as the number q -/
structure Core (s : ByteArray) (st k : Nat) (ws : List Nat) (q i : Nat) : Prop where
  le : st + k ≤ s.size
  digs : ∀ j (h : st + j < s.size), j < k → isDig s[st + j]
  wlen : ws.length ≤ k
  il : i < 19
  ik : k = 0 → i = 0 ∧ ws = []
  ql : q < 10 ^ i
  value : val ws * 10 ^ i + q = dec (seg s st k)

theorem Core.start (s : ByteArray) (st : Nat) (h : st ≤ s.size) : Core s st 0 [] 0 0 where
  le := h
  digs := fun j _ hj => by omega
  wlen := by simp
  il := by omega
  ik := fun _ => ⟨rfl, rfl⟩
  ql := by simp
  value := by simp [val, seg, dec]

theorem Core.digs_succ {s : ByteArray} {st k : Nat} {ws : List Nat} {q i : Nat} (C : Core s st k ws q i) (h : st + k < s.size) (hd : isDig s[st + k]) : ∀ j (h : st + j < s.size), j < k + 1 → isDig s[st + j] := by
  intro j hj hk
  by_cases e : j = k
  · subst e; exact hd
  · exact C.digs j hj (by omega)

theorem Core.value_succ {s : ByteArray} {st k : Nat} {ws : List Nat} {q i : Nat} (C : Core s st k ws q i) (h : st + k < s.size) :
    val ws * 10 ^ (i + 1) + (q * 10 + ((s[st + k]).toNat - 48)) = dec (seg s st (k + 1)) := by
  rw [seg_succ s st k h, dec_snoc, ← C.value, Nat.pow_succ, Nat.add_mul, Nat.mul_assoc]
  omega

theorem Core.step {s : ByteArray} {st k : Nat} {ws : List Nat} {q i : Nat} (C : Core s st k ws q i) (h : st + k < s.size) (hd : isDig s[st + k]) (hi : i + 1 < 19) :
    Core s st (k + 1) ws (q * 10 + ((s[st + k]).toNat - 48)) (i + 1) where
  le := by omega
  digs := C.digs_succ h hd
  wlen := by have := C.wlen; omega
  il := hi
  ik := fun e => by omega
  ql := by have := C.ql; have := hd.2; have := hd.1; rw [Nat.pow_succ]; omega
  value := C.value_succ h

theorem Core.step19 {s : ByteArray} {st k : Nat} {ws : List Nat} {q i : Nat} (C : Core s st k ws q i) (h : st + k < s.size) (hd : isDig s[st + k]) (hi : i + 1 = 19) (ws' : List Nat)
    (hv : val ws' = val ws * 10000000000000000000 + (q * 10 + ((s[st + k]).toNat - 48))) (hl : ws'.length ≤ ws.length + 1) : Core s st (k + 1) ws' 0 0 where
  le := by omega
  digs := C.digs_succ h hd
  wlen := by have := C.wlen; omega
  il := by omega
  ik := fun e => by omega
  ql := by simp
  value := by
    have e := C.value_succ h
    rw [hi] at e
    rw [← e, hv]
    simp

theorem Core.q_small {s : ByteArray} {st k : Nat} {ws : List Nat} {q i : Nat} (C : Core s st k ws q i) : q < 1000000000000000000 := by
  have h1 := C.ql
  have h2 := C.il
  have h3 : 10 ^ i ≤ 10 ^ 18 := Nat.pow_le_pow_right (by omega) (by omega)
  have h4 : 10 ^ 18 = 1000000000000000000 := by decide
  omega
end Go.Proofs.YbulkmjkFmt
