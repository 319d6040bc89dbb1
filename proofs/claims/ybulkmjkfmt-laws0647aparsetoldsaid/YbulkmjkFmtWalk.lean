import Derived.Test.YbulkmjkFmtLawP
import Derived.Test.YbulkmjkFmtLawM
import Derived.Test.YbulkmjkFmtLawB
import Derived.Test.YbulkmjkFmtLawE
namespace Go.Proofs.YbulkmjkFmt
open Go.RowKit

set_option maxRecDepth 100000 in
set_option maxHeartbeats 1000000 in
theorem law_long (s : ByteArray) (w : World) (hs : 1024 < s.size) :
    Calls Ybaf.prog 3 #[.string s] w fun e w' => e = .returned (.bool true) ∧ Below w.heap.size w w' := by
  have hs' : (1024 : Int) < (s.size : Int) := by omega
  go_enter Ybaf.func3, Ybaf.ntmps3
  go_wp2_with fail
  go_ret
  exact ⟨rfl, Below.refl _ _⟩

/-- ████ THE LAW RETURNS TRUE, WHATEVER THE TEXT; of what was there nothing turns. -/
theorem law_any (s : ByteArray) (a a5 : Addr) (w : World) (hg : w.cell? ⟨1, 0, none⟩ = some (.iface 117 (.pointer (some a)))) (hg5 : w.cell? ⟨5, 0, none⟩ = some (.iface 117 (.pointer (some a5)))) :
    Calls Ybaf.prog 3 #[.string s] w fun e w' => e = .returned (.bool true) ∧ Below w.heap.size w w' := by
  by_cases hs : 1024 < s.size
  · exact law_long s w hs
  by_cases h0 : 0 < s.size
  · by_cases h1 : s[0].toNat = 45
    · exact law_minus s a a5 w hg hg5 (by omega) h0 h1
    by_cases h2 : s[0].toNat = 43
    · exact law_plus s a a5 w hg hg5 (by omega) h0 h2
    · exact law_bare s a a5 w hg hg5 (by omega) h0 h1 h2
  · exact law_empty s a a5 w hg hg5 (by omega)
end Go.Proofs.YbulkmjkFmt
