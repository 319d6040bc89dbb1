import Derived.Test.YbulkmjkFmtVal
import Derived.LoopTactic
import Derived.Lib.RabinKarpLaws
namespace Go.Proofs.YbulkmjkFmt
open Go.RowKit

theorem pow10_le (k : Nat) (h : k ≤ 18) : 10 ^ k ≤ 1000000000000000000 := Nat.le_trans (Nat.pow_le_pow_right (by omega) h) (by decide)
theorem pow10_19 : 10 ^ 19 = 10000000000000000000 := by decide

set_option maxRecDepth 100000 in
set_option maxHeartbeats 1000000 in
theorem maxPow10 (w : World) : Calls Ybaf.prog 34 #[.int .u64 10] w fun e w' => e = .returned (.tuple #[.int .u64 10000000000000000000, .int .i64 19]) ∧ w' = w := by
  go_enter Ybaf.func34, Ybaf.ntmps34
  go_wp2_with fail
  go_loop [2, 3] (fun p n => ∃ (k q : Nat), p = .int .u64 q ∧ n = .int .i64 k ∧ 1 ≤ k ∧ k ≤ 19 ∧ Hid (q = 10 ^ k)) (fun _ n => 19 - (intOf n).toNat)
  case atStart => exact ⟨1, 10, rfl, rfl, by omega, by omega, by show 10 = 10 ^ 1; decide⟩
  case round =>
    obtain ⟨k, q, rfl, rfl, h1, h2, hq⟩ := hrel
    by_cases hk : k = 19
    · subst hk
      have e : q = 10000000000000000000 := hq.out.trans pow10_19
      subst e
      clear hq
      go_wp2
      go_ret2
      exact ⟨rfl, rfl⟩
    · have hle : q ≤ 1000000000000000000 := by have := pow10_le k (by omega); have := hq.out; omega
      have hle' : (q : Int) ≤ 1000000000000000000 := by omega
      have hle2 : (q : Int) ≤ 1844674407370955161 := by omega
      go_wp2
      go_round
      case rel => exact ⟨k + 1, q * 10, by go_num, by go_num, by omega, by omega, by show q * 10 = 10 ^ (k + 1); rw [Nat.pow_succ, hq.out]⟩
      case measure => simp [intOf]; omega

theorem pow_odd (p x n T : Nat) (h : p * x ^ n % W64 = T % W64) (ho : n % 2 = 1) : (p * x % W64) * (x * x % W64) ^ (n / 2) % W64 = T % W64 := by
  have e : x ^ n = x * (x * x) ^ (n / 2) := by
    have : n = 1 + 2 * (n / 2) := by omega
    conv => lhs; rw [this, Nat.pow_add, Nat.pow_mul, Nat.pow_one, Nat.pow_two]
  rw [e, ← Nat.mul_assoc] at h
  rw [Nat.mul_mod, Nat.pow_mod, Nat.mod_mod, Nat.mod_mod, ← Nat.pow_mod, ← Nat.mul_mod]
  exact h

theorem pow_even (p x n T : Nat) (h : p * x ^ n % W64 = T % W64) (ho : n % 2 = 0) : p * (x * x % W64) ^ (n / 2) % W64 = T % W64 := by
  have e : x ^ n = (x * x) ^ (n / 2) := by
    have : n = 2 * (n / 2) := by omega
    conv => lhs; rw [this, Nat.pow_mul, Nat.pow_two]
  rw [e] at h
  rw [Nat.mul_mod, Nat.pow_mod, Nat.mod_mod, ← Nat.pow_mod, ← Nat.mul_mod]
  exact h

theorem u64mul (a b : Nat) : IntKind.u64.wrap ((a : Int) * (b : Int)) = ((a * b % W64 : Nat) : Int) := by
  rw [← Int.natCast_mul, Ar.wrapM]
  rfl

set_option maxRecDepth 100000 in
set_option maxHeartbeats 1000000 in
theorem pow10_any (N : Nat) (hN : N ≤ 18) (w : World) : Calls Ybaf.prog 36 #[.int .u64 10, .int .i64 N] w fun e w' => ∃ q : Nat, e = .returned (.int .u64 q) ∧ w' = w ∧ Hid (q = 10 ^ N) := by
  go_enter Ybaf.func36, Ybaf.ntmps36
  go_wp2_with fail
  go_loop [0, 1, 4] (fun x n p => ∃ (X n' q : Nat), x = .int .u64 X ∧ n = .int .i64 n' ∧ p = .int .u64 q ∧ n' ≤ 18 ∧ Hid (q * X ^ n' % W64 = 10 ^ N % W64 ∧ q < W64)) (fun _ n _ => (intOf n).toNat)
  case atStart => exact ⟨10, N, 1, rfl, rfl, rfl, hN, by rw [Nat.one_mul], by decide⟩
  case round =>
    obtain ⟨X, n, q, rfl, rfl, rfl, hn, hq⟩ := hrel
    by_cases h0 : n = 0
    · subst h0
      have H : Hid (q = 10 ^ N) := by
        have h := hq.out
        rw [Nat.pow_zero, Nat.mul_one, Nat.mod_eq_of_lt h.2, Nat.mod_eq_of_lt (Nat.lt_of_le_of_lt (pow10_le N hN) (by decide))] at h
        exact h.1
      go_wp2
      go_ret
      exact ⟨q, rfl, rfl, H⟩
    · have hg : (0 : Int) < (n : Int) := by omega
      have hand := and_one n (by omega)
      by_cases ho : n % 2 = 1
      · rw [ho] at hand
        go_wp2
        refine ⟨⟨X * X % W64, n / 2, q * X % W64, by rw [u64mul], by rw [Int.natCast_ediv]; rfl, by rw [u64mul], by omega, pow_odd q X n _ hq.out.1 ho, Nat.mod_lt _ W64_pos⟩, by simp [intOf]; omega⟩
      · have ho' : n % 2 = 0 := by omega
        rw [ho'] at hand
        go_wp2
        refine ⟨⟨X * X % W64, n / 2, q, by rw [u64mul], by rw [Int.natCast_ediv]; rfl, rfl, by omega, pow_even q X n _ hq.out.1 ho', hq.out.2⟩, by simp [intOf]; omega⟩
end Go.Proofs.YbulkmjkFmt
