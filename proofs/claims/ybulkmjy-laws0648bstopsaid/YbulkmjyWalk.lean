import Derived.Test.YbulkmjyCaseZ
import Derived.Test.YbulkmjyCaseS
import Derived.Test.YbulkmjyCaseF
namespace Go.Proofs.Ybulkmjy
open Go.RowKit

set_option maxRecDepth 100000 in
theorem stop_long (ka ca : Option Addr) (n kc nc cc p : Nat) (stale : Bool) (id : ByteArray) (w : World) (hn : 1024 < n) :
    Calls Yba.prog 3 #[.slice ka n kc, .slice ca nc cc, .int .u8 (p : Int), .bool stale, .string id] w fun e w' => e = .returned (.bool true) ∧ Below w.heap.size w w' := by
  have hn' : (1024 : Int) < (n : Int) := by omega
  go_enter Yba.func3, Yba.ntmps3
  go_wp2_with fail
  go_ret
  exact ⟨rfl, Below.refl _ _⟩

/-- THE LAW RETURNS TRUE, WHATEVER ITS FIVE ARGUMENTS; of what was there nothing turns. -/
theorem stop_any (ka ca : Option Addr) (n kc nc cc p : Nat) (stale : Bool) (id : ByteArray) (w : World) (kinds : Nat → ByteArray)
    (hka : 0 < n → ∃ ad, ka = some ad) (hkb : ∀ ad, ka = some ad → 0 < n → ad.block < w.heap.size) (hkc : ∀ ad j, ka = some ad → j < n → w.cell? (ad.add j) = some (.string (kinds j)))
    (cn : Nat → Int) (hca : 0 < nc → ∃ ad, ca = some ad) (hcb : ∀ ad, ca = some ad → 0 < nc → ad.block < w.heap.size) (hcc : ∀ ad j, ca = some ad → j < nc → w.cell? (ad.add j) = some (.int .u8 (cn j))) (hcr : ∀ j, 0 ≤ cn j ∧ cn j < 256) (hp : p < 256) :
    Calls Yba.prog 3 #[.slice ka n kc, .slice ca nc cc, .int .u8 (p : Int), .bool stale, .string id] w fun e w' => e = .returned (.bool true) ∧ Below w.heap.size w w' := by
  by_cases hn : 1024 < n
  · exact stop_long ka ca n kc nc cc p stale id w hn
  have hn' : n ≤ 1024 := by omega
  by_cases h0 : n = 0
  · exact stop_zero ka ca n kc nc cc p stale id w hn' kinds hka hkb hkc cn hca hcb hcc hcr hp h0
  have h1 : 0 < n := by omega
  cases stale with
  | true => exact stop_stale ka ca n kc nc cc p true id w hn' kinds hka hkb hkc cn hca hcb hcc hcr hp h1 rfl
  | false => exact stop_fresh ka ca n kc nc cc p false id w hn' kinds hka hkb hkc cn hca hcb hcc hcr hp h1 rfl
end Go.Proofs.Ybulkmjy
