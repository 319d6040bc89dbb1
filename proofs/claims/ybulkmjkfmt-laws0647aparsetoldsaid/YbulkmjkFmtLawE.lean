import Derived.Test.YbulkmjkFmtKnown
namespace Go.Proofs.YbulkmjkFmt
open Go.RowKit

set_option maxRecDepth 100000 in
set_option maxHeartbeats 4000000 in
theorem law_empty (s : ByteArray) (a a5 : Addr) (w : World) (hg : w.cell? ⟨1, 0, none⟩ = some (.iface 117 (.pointer (some a)))) (hg5 : w.cell? ⟨5, 0, none⟩ = some (.iface 117 (.pointer (some a5)))) (h0 : s.size = 0) :
    Calls Ybaf.prog 3 #[.string s] w fun e w' => e = .returned (.bool true) ∧ Below w.heap.size w w' := by
  have hnil1 := eql_nil_slice
  have hnil2 := neq_nil_slice
  have he : s = ByteArray.empty := ByteArray.size_eq_zero_iff.1 h0
  have hs : s.size ≤ 1024 := by omega
  have HG : Hid (¬ Good s) := fun h => by have := h.1; omega
  subst he
  clear h0
  go_enter Ybaf.func3, Ybaf.ntmps3
  go_wp2_with fail
  refine (readCount_any ByteArray.empty a a5 w hg hg5 hs).mono ?_
  rintro e w1 (⟨rfl, hgd, _⟩ | ⟨rfl, hng, d4⟩)
  · exact absurd hgd HG.out
  · have HB : Hid (Below w.heap.size w w1) := d4
    clear hng d4
    go_wp2_with fail
    go_loop [9, 10, 11] (fun want nz j => want = .bool false ∧ nz = .bool false ∧ j = .int .i64 0) (fun _ _ _ => 0)
    case atStart => exact ⟨rfl, rfl, rfl⟩
    case round =>
      obtain ⟨rfl, rfl, rfl⟩ := hrel
      go_wp2_with fail
      go_ret
      exact ⟨rfl, HB.out.alloc HB.out.size _⟩
end Go.Proofs.YbulkmjkFmt
