import Derived.Test.YbulkmjkFmtScan
namespace Go.Proofs.YbulkmjkFmt
open Go.RowKit

set_option maxRecDepth 100000 in
set_option maxHeartbeats 1000000 in
theorem scan_none (rb st : Nat) (s : ByteArray) (a a5 : Addr) (w : World) (R : Rd w rb s st) (hg : w.cell? ⟨1, 0, none⟩ = some (.iface 117 (.pointer (some a)))) (hg5 : w.cell? ⟨5, 0, none⟩ = some (.iface 117 (.pointer (some a5)))) (hrb : 5 < rb) (hst : st = s.size) :
    Calls Ybaf.prog 33 #[.slice none 0 0, .iface 55 (.pointer (some ⟨rb, 0, none⟩)), .int .i64 10, .bool false] w fun e w' => ScanPost w rb st s a5 e w' := by
  have H : Hid (Rd w rb s st) := R
  clear R
  have hm1 := meth_read
  have hm2 := meth_unread
  have heq := eql_eof a
  go_enter Ybaf.func33, Ybaf.ntmps33
  go_wp2_with fail
  refine (readByte_none rb st s _ w H.out hg (by omega) (by omega)).mono ?_
  rintro e w' ⟨rfl, R, N⟩
  have HT : Hid (ScanTail w rb st s 0 (.slice none 0 0) w') := tail0 (ws := []) (q := 0) ⟨Core.start s st (by omega), R, ⟨norm_nil, by simp, Or.inl ⟨rfl, rfl⟩⟩, N.below⟩ (fun h => by omega)
  have hr1 : w'.cell? ⟨1, 0, none⟩ = some (.iface 117 (.pointer (some a))) := (N.cell 1 0 (by omega)).trans hg
  have hr5 : w'.cell? ⟨5, 0, none⟩ = some (.iface 117 (.pointer (some a5))) := (N.cell 5 0 (by omega)).trans hg5
  clear R N
  go_wp2_with fail
  refine (maxPow10 _).mono ?_
  rintro e w'' ⟨rfl, hw⟩
  rw [hw]
  go_wp2_with fail
  go_loopw [0, 3, 10, 11, 13, 14, 15, 20, 21, 22] (fun v b3 cnt err prev inv ch q i dp wr => v = .slice none 0 0 ∧ b3 = .bool false ∧ cnt = .int .i64 0 ∧ err = .iface 117 (.pointer (some a)) ∧ prev = .int .i32 46 ∧ inv = .bool false ∧ q = .int .u64 0 ∧ i = .int .i64 0 ∧ dp = .int .i64 (-1) ∧ wr = w') (fun _ _ _ _ _ _ _ _ _ _ _ => 0)
  case atStart => exact ⟨rfl, rfl, rfl, rfl, rfl, rfl, rfl, rfl, rfl, rfl⟩
  case round =>
    obtain ⟨rfl, rfl, rfl, rfl, rfl, rfl, rfl, rfl, rfl, rfl⟩ := hrel
    go_wp2_with fail
    refine bodyPost_ret (results_tmp4 rfl _ _ _) rfl ⟨.slice none 0 0, 0, .iface 117 (.pointer (some a5)), rfl, rfl, HT.out⟩

theorem scan_any (rb st : Nat) (s : ByteArray) (a a5 : Addr) (w : World) (R : Rd w rb s st) (hg : w.cell? ⟨1, 0, none⟩ = some (.iface 117 (.pointer (some a)))) (hg5 : w.cell? ⟨5, 0, none⟩ = some (.iface 117 (.pointer (some a5)))) (hrb : 5 < rb) (hs : s.size ≤ 1024) (hst : st ≤ s.size) :
    Calls Ybaf.prog 33 #[.slice none 0 0, .iface 55 (.pointer (some ⟨rb, 0, none⟩)), .int .i64 10, .bool false] w fun e w' => ScanPost w rb st s a5 e w' := by
  by_cases h : st < s.size
  · exact scan_some rb st s a a5 w R hg hg5 hrb hs h
  · exact scan_none rb st s a a5 w R hg hg5 hrb (by omega)
end Go.Proofs.YbulkmjkFmt
