import Derived.Test.YbulkmjkFmtRows
import Derived.WalkKit
import Derived.Lib.Mul64
import Derived.Laws.Bits64b
import Derived.Laws.Externs
namespace Go.Proofs.YbulkmjkFmt
open Go.RowKit Go.Lib

/-! math/bits.Add64: the model's entry. -/
theorem add64N (x y c : Nat) (hc : c ≤ 1) (w : World) :
    (callFunc 53 #[.int .u64 x, .int .u64 y, .int .u64 c]).run Ybaf.prog w =
      .ok (.value (.tuple #[.int .u64 (((x + y + c) % 18446744073709551616 : Nat) : Int), .int .u64 (((x + y + c) / 18446744073709551616 : Nat) : Int)])) w := by
  rw [run_callFunc_extern Ybaf.func53 (by kernel_rfl) (by kernel_rfl) (by kernel_rfl) (e := add64Entry) (by kernel_rfl), run_add64 x y c (by omega) (by omega) (by omega) (by omega)]
  simp only [Result.andThen]
  congr 5 <;> omega

namespace Ar
theorem maskN (a : Nat) (ha : a < 18446744073709551616) : bits .and .u64 (a : Int) 4294967295 = ((a % 4294967296 : Nat) : Int) := by
  have h := bits_and_u64_nat a 4294967295 ha (by omega)
  have e : a &&& 4294967295 = a % 4294967296 := Nat.and_two_pow_sub_one_eq_mod a 32
  rw [e] at h
  exact h
theorem divN (a : Nat) : (a : Int) / 4294967296 = ((a / 4294967296 : Nat) : Int) := by omega
theorem mulN (a b : Nat) : (a : Int) * (b : Int) = ((a * b : Nat) : Int) := (Int.natCast_mul a b).symm
theorem addN (a b : Nat) : (a : Int) + (b : Int) = ((a + b : Nat) : Int) := (Int.natCast_add a b).symm
theorem wrapN (a : Nat) (ha : a < 18446744073709551616) : IntKind.u64.wrap (a : Int) = (a : Int) := by rw [IntKind.wrap_u64]; omega
theorem wrapM (a : Nat) : IntKind.u64.wrap (a : Int) = ((a % 18446744073709551616 : Nat) : Int) := by rw [IntKind.wrap_u64]; omega
end Ar

set_option maxHeartbeats 1000000 in
theorem mul64_any (x y : Nat) (hx : x < 18446744073709551616) (hy : y < 18446744073709551616) (w : World) :
    Calls Ybaf.prog 51 #[.int .u64 x, .int .u64 y] w fun e w' => e = .returned (.tuple #[.int .u64 ((x * y / 18446744073709551616 : Nat) : Int), .int .u64 ((x * y % 18446744073709551616 : Nat) : Int)]) ∧ w' = w := by
  obtain ⟨bd, bt, bw, hhi⟩ := Lib.mul64_hi x y hx hy
  have ba := Lib.half_mul_le (a := x / 4294967296) (b := y / 4294967296) (by omega) (by omega)
  have bb := Lib.half_mul_le (a := x / 4294967296) (b := y % 4294967296) (by omega) (by omega)
  have bc := Lib.half_mul_le (a := x % 4294967296) (b := y / 4294967296) (by omega) (by omega)
  have ba' : x / 4294967296 * (y / 4294967296) < 18446744073709551616 := by omega
  have bb' : x / 4294967296 * (y % 4294967296) < 18446744073709551616 := by omega
  have bc' : x % 4294967296 * (y / 4294967296) < 18446744073709551616 := by omega
  have bh1 : x / 4294967296 * (y / 4294967296) + (x / 4294967296 * (y % 4294967296) + x % 4294967296 * (y % 4294967296) / 4294967296) / 4294967296 < 18446744073709551616 := by omega
  have bh : x / 4294967296 * (y / 4294967296) + (x / 4294967296 * (y % 4294967296) + x % 4294967296 * (y % 4294967296) / 4294967296) / 4294967296 + ((x / 4294967296 * (y % 4294967296) + x % 4294967296 * (y % 4294967296) / 4294967296) % 4294967296 + x % 4294967296 * (y / 4294967296)) / 4294967296 < 18446744073709551616 := by omega
  go_enter Ybaf.func51, Ybaf.ntmps51
  go_wp2
  simp only [Ar.maskN x hx, Ar.maskN y hy, Ar.divN, Ar.mulN, Ar.addN, Ar.wrapN _ bd, Ar.wrapN _ bb', Ar.wrapN _ bt, Ar.maskN _ bt, Ar.wrapN _ bc', Ar.wrapN _ bw, Ar.wrapN _ ba', Ar.wrapN _ bh1, Ar.wrapN _ bh, Ar.wrapM (x * y)]
  rw [hhi]
  go_ret2
  exact ⟨rfl, rfl⟩

set_option maxHeartbeats 1000000 in
theorem mul_any (x y : Nat) (hx : x < 18446744073709551616) (hy : y < 18446744073709551616) (w : World) :
    Calls Ybaf.prog 48 #[.int .u64 x, .int .u64 y] w fun e w' => e = .returned (.tuple #[.int .u64 ((x * y / 18446744073709551616 : Nat) : Int), .int .u64 ((x * y % 18446744073709551616 : Nat) : Int)]) ∧ w' = w := by
  have c64 := mul64_any x y hx hy w
  go_enter Ybaf.func48, Ybaf.ntmps48
  go_wp2_with (go_at_call 51; refine c64.mono ?_; rintro e w' ⟨rfl, hw⟩; rw [hw])
  go_ret2
  exact ⟨rfl, rfl⟩

set_option maxHeartbeats 1000000 in
theorem add_any (x y c : Nat) (hc : c ≤ 1) (w : World) :
    Calls Ybaf.prog 49 #[.int .u64 x, .int .u64 y, .int .u64 c] w fun e w' => e = .returned (.tuple #[.int .u64 (((x + y + c) % 18446744073709551616 : Nat) : Int), .int .u64 (((x + y + c) / 18446744073709551616 : Nat) : Int)]) ∧ w' = w := by
  have h := add64N x y c hc w
  go_enter Ybaf.func49, Ybaf.ntmps49
  go_wp2
  go_ret2
  exact ⟨rfl, rfl⟩

/-- A word, under a name. -/
def W64 : Nat := 18446744073709551616
theorem W64_eq : W64 = 18446744073709551616 := rfl

theorem mulE (x y : Nat) (hx : x < W64) (hy : y < W64) (w : World) :
    Calls Ybaf.prog 48 #[.int .u64 x, .int .u64 y] w fun e w' => ∃ hi lo : Nat, e = .returned (.tuple #[.int .u64 hi, .int .u64 lo]) ∧ w' = w ∧ Hid (lo < W64 ∧ hi < W64 ∧ hi * W64 + lo = x * y) := by
  refine (mul_any x y hx hy w).mono fun e w' h => ?_
  refine ⟨_, _, h.1, h.2, ?_⟩
  have hb : x * y < W64 * W64 := Nat.mul_lt_mul'' hx hy
  refine ⟨Nat.mod_lt _ (by decide), Nat.div_lt_of_lt_mul hb, ?_⟩
  rw [Nat.mul_comm]; exact Nat.div_add_mod _ _

theorem addE (x y : Nat) (hx : x < W64) (hy : y < W64) (w : World) :
    Calls Ybaf.prog 49 #[.int .u64 x, .int .u64 y, .int .u64 0] w fun e w' => ∃ s c : Nat, e = .returned (.tuple #[.int .u64 s, .int .u64 c]) ∧ w' = w ∧ Hid (s < W64 ∧ c ≤ 1 ∧ c * W64 + s = x + y) := by
  refine (add_any x y 0 (by omega) w).mono fun e w' h => ?_
  refine ⟨_, _, h.1, h.2, ?_⟩
  show _ < W64 ∧ _ ∧ _
  simp only [W64] at *
  omega

set_option maxHeartbeats 1000000 in
theorem mulAddWWW_any (x y c : Nat) (hx : x < W64) (hy : y < W64) (hc : c < W64) (w : World) :
    Calls Ybaf.prog 43 #[.int .u64 x, .int .u64 y, .int .u64 c] w fun e w' => ∃ hi lo : Nat, e = .returned (.tuple #[.int .u64 hi, .int .u64 lo]) ∧ w' = w ∧ Hid (lo < W64 ∧ hi < W64 ∧ hi * W64 + lo = x * y + c) := by
  go_enter Ybaf.func43, Ybaf.ntmps43
  go_wp2_with fail
  refine (mulE x y hx hy w).mono ?_
  rintro e w' ⟨hi, lo, rfl, rfl, H1⟩
  go_wp2_with fail
  refine (addE lo c H1.out.1 hc _).mono ?_
  rintro e w' ⟨s, k, rfl, rfl, H2⟩
  have hb : hi + k < 18446744073709551616 := by
    have h1 := H1.out
    have h2 := H2.out
    have hxy : x * y ≤ (W64 - 1) * (W64 - 1) := Nat.mul_le_mul (by omega) (by omega)
    simp only [W64] at *
    omega
  have hb2 : (hi : Int) + k < 18446744073709551616 := by omega
  go_wp2
  go_ret2
  refine ⟨hi + k, s, ?_, rfl, ?_⟩
  · rw [Int.natCast_add]; rfl
  have h1 := H1.out
  have h2 := H2.out
  refine ⟨h2.1, hb, ?_⟩
  simp only [W64] at *
  omega
end Go.Proofs.YbulkmjkFmt
