import Derived.Test.YbulkmjkFmtCmp
import Derived.Test.YbulkmjkFmtPlain
import Derived.Deep.RegionWith
namespace Go.Proofs.YbulkmjkFmt
open Go.RowKit

theorem eql_nil_slice (w : World) : Sem.run Ybaf.prog (binOp .eql 23 (.slice none 0 0) (.slice none 0 0)) w = .ok (.bool true) w := by
  have h : ∀ d : Nat, (Op.equalIn (d + 1) 23 (.slice none 0 0) (.slice none 0 0)).run Ybaf.prog w = .ok true w := fun d => by simp [Op.equalIn, run_underlying Ybaf.underlying23]
  simp only [binOp]
  simp [Op.equal, Op.maxDepth, h 9999]
theorem neq_nil_slice (w : World) : Sem.run Ybaf.prog (binOp .neq 23 (.slice none 0 0) (.slice none 0 0)) w = .ok (.bool false) w := by
  have h : ∀ d : Nat, (Op.equalIn (d + 1) 23 (.slice none 0 0) (.slice none 0 0)).run Ybaf.prog w = .ok true w := fun d => by simp [Op.equalIn, run_underlying Ybaf.underlying23]
  simp only [binOp]
  simp [Op.equal, Op.maxDepth, h 9999]

theorem decT_succ (D : ByteArray) (k : Nat) (h : k < D.size) : dec (D.data.toList.take (k + 1)) = dec (D.data.toList.take k) * 10 + (D[k].toNat - 48) := by
  rw [take_snoc D k h, dec_snoc]
theorem decT_lt (D : ByteArray) (k : Nat) (h : ∀ c ∈ D.data.toList, isDig c) : dec (D.data.toList.take k) < 10 ^ k := by
  have h1 := dec_lt (D.data.toList.take k) (fun c hc => h c (List.mem_of_mem_take hc))
  have h2 : (D.data.toList.take k).length ≤ k := List.length_take_le _ _
  exact Nat.lt_of_lt_of_le h1 (Nat.pow_le_pow_right (by omega) h2)
theorem decT_small (D : ByteArray) (k : Nat) (h : ∀ c ∈ D.data.toList, isDig c) (hk : k < 18) : dec (D.data.toList.take k) < 100000000000000000 := by
  have h1 := decT_lt D k h
  have h2 : 10 ^ k ≤ 10 ^ 17 := Nat.pow_le_pow_right (by omega) (by omega)
  have h3 : 10 ^ 17 = 100000000000000000 := by decide
  omega
theorem decD_small (D : ByteArray) (h : ∀ c ∈ D.data.toList, isDig c) (hk : D.size ≤ 18) : dec D.data.toList < 1000000000000000000 := by
  have h1 := dec_lt D.data.toList h
  have h2 : 10 ^ D.data.toList.length ≤ 10 ^ 18 := Nat.pow_le_pow_right (by omega) (by simpa using hk)
  have h3 : 10 ^ 18 = 1000000000000000000 := by decide
  omega

/-- what is known of the digits D of a good text, and of what SetString has left -/
structure Known (w w1 : World) (s : ByteArray) (D : ByteArray) (ng : Bool) (v : Value) (ws : List Nat) (B : Nat) : Prop where
  want : wantB D D.size = true
  digs : ∀ j (h : j < D.size), isDig D[j]
  zb : w.heap.size + 1 < B
  nat : NatV w1 B v ws
  value : val ws = dec D.data.toList
  int : IntAt w1 (w.heap.size + 1) (decide (0 < ws.length) && ng) v
  below : Below w.heap.size w w1
  sz : D.size ≤ 1024

theorem mem_digs {D : ByteArray} (h : ∀ j (h : j < D.size), isDig D[j]) : ∀ c ∈ D.data.toList, isDig c := by
  intro c hc
  obtain ⟨j, hj, rfl⟩ := List.getElem_of_mem hc
  exact h j (by simpa using hj)

theorem digs_of_want {D : ByteArray} (h : wantB D D.size = true) : ∀ j (h : j < D.size), isDig D[j] := by
  intro j hj
  unfold wantB at h
  rw [List.take_of_length_le (by simp)] at h
  simp only [Bool.and_eq_true, List.all_eq_true, digB_iff] at h
  exact h.2 _ (by
    have : D[j] = D.data.toList[j]'(by simpa using hj) := rfl
    rw [this]
    exact List.getElem_mem _)

theorem known_of {w w1 : World} {s : ByteArray} {st : Nat} {ng : Bool} {v : Value} {ws : List Nat} {B : Nat} (est : signAt s = st) (eng : negAt s = ng) (hgd : Good s) (d0 : w.heap.size + 1 < B) (d1 : NatV w1 B v ws) (d2 : val ws = dec (seg s (signAt s) (s.size - signAt s)))
    (d3 : IntAt w1 (w.heap.size + 1) (decide (0 < ws.length) && negAt s) v) (d4 : Below w.heap.size w w1) (hs : s.size ≤ 1024) : Known w w1 s (s.extract st s.size) ng v ws B := by
  subst est eng
  have hst : signAt s ≤ s.size := by have := hgd.1; omega
  have hw := (want_good s hst).2 hgd
  exact ⟨hw, digs_of_want hw, d0, d1, by rw [extract_list]; exact d2, d3, d4, by rw [extract_size]; omega⟩

theorem Known.nz {w w1 : World} {s D : ByteArray} {ng : Bool} {v : Value} {ws : List Nat} {B : Nat} (K : Known w w1 s D ng v ws B) : nzB D D.size = false ↔ ws.length = 0 := by
  have h1 := dec_zero D.data.toList (mem_digs K.digs)
  have h2 := norm_zero ws K.nat.1
  rw [K.value] at h2
  have h3 : D.data.toList.take D.size = D.data.toList := List.take_of_length_le (by simp)
  unfold nzB
  rw [h3, ← h1, h2, List.length_eq_zero_iff]

theorem Known.word {w w1 : World} {s D : ByteArray} {ng : Bool} {v : Value} {ws : List Nat} {B : Nat} (K : Known w w1 s D ng v ws B) (h18 : D.size ≤ 18) : ws = word1 (dec D.data.toList) := by
  have h := decD_small D (mem_digs K.digs) h18
  have h2 := norm_word ws K.nat.1 (by rw [K.value]; simp only [W64]; omega)
  rw [K.value] at h2
  exact h2

theorem word1_pos (n : Nat) : decide (0 < (word1 n).length) = decide (0 < n) := by
  unfold word1
  split
  · rename_i h; subst h; rfl
  · simp; omega

theorem NatV.mono {w : World} {B B' : Nat} {v : Value} {ws : List Nat} (h : NatV w B v ws) (hB : B' ≤ B) : NatV w B' v ws := by
  obtain ⟨h1, h2, h3⟩ := h
  refine ⟨h1, h2, h3.imp_right ?_⟩
  rintro ⟨g, cap, e, R, hc⟩
  exact ⟨g, cap, e, ⟨Nat.le_trans hB R.base, R.lt, R.len, R.most, R.there, R.free⟩, hc⟩

theorem newInt_arm {w w1 W : World} {s D : ByteArray} {ng : Bool} {v : Value} {ws : List Nat} {B q : Nat} {x : Int} (K : Known w w1 s D ng v ws B) (h18 : D.size ≤ 18) (hq : q = dec D.data.toList) (hq1 : q < 1000000000000000000) (hW : Below w1.heap.size w1 W)
    (hsW : W.heap.size = w1.heap.size + 1) (hx : x = q ∨ x = -(q : Int)) (hsx : decide (x < 0) = (decide (0 < q) && ng)) (hc2 : W.cell? ⟨w1.heap.size, 2, none⟩ = some (.pointer (some ⟨w.heap.size + 1, 0, none⟩))) :
    Calls Ybaf.prog 8 #[.int .i64 x] W.drew fun e w2 => ∃ yb, e = .returned (.pointer (some ⟨yb, 0, none⟩)) ∧ w2.cell? ⟨w1.heap.size, 2, none⟩ = some (.pointer (some ⟨w.heap.size + 1, 0, none⟩)) ∧
      Hid ((Calls Ybaf.prog 7 #[.pointer (some ⟨w.heap.size + 1, 0, none⟩), .pointer (some ⟨yb, 0, none⟩)] w2 fun e w' => e = .returned (.int .i64 0) ∧ ∃ n, w' = w2.drewN n) ∧ ∀ n, Below w.heap.size w (w2.drewN n)) := by
  refine (newInt_any x q W.drew hq1 hx).mono fun e w2 h => ?_
  obtain ⟨yb, rfl, hyb, yv, j1, j2, j3⟩ := h
  have hzlt := K.int.lt
  have hyb' : W.heap.size ≤ yb := hyb
  have b1 : Below w1.heap.size w1 w2 := hW.trans ((Below.refl _ W).drew.trans (j3.mono (by show w1.heap.size ≤ W.heap.size; omega)))
  have hws := K.word h18
  rw [← hq] at hws
  have I2 := K.int.below b1 hzlt
  rw [hws, word1_pos] at I2
  rw [hsx] at j1
  have n1 := K.nat.grow b1
  rw [hws] at n1
  refine ⟨yb, rfl, (j3.cell (p := ⟨w1.heap.size, 2, none⟩) (by show w1.heap.size < W.heap.size; omega)).trans hc2, ⟨cmp_same (w.heap.size + 1) yb _ v yv w2 (by omega) I2 j1 B _ q n1 j2, fun n => below_drewN (K.below.trans (b1.mono (by have := K.below.size; omega))) n⟩⟩

theorem not_good {s : ByteArray} {st : Nat} (est : signAt s = st) (hst : st ≤ s.size) (hng : ¬ Good s) : wantB (s.extract st s.size) (s.extract st s.size).size = false := by
  subst est
  have := (want_good s hst)
  cases h : wantB (s.extract (signAt s) s.size) (s.extract (signAt s) s.size).size
  · rfl
  · exact absurd (this.1 h) hng

end Go.Proofs.YbulkmjkFmt
