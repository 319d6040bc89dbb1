import Derived.Test.YbulkmjkFmtReader
import Derived.LaidEql
namespace Go.Proofs.YbulkmjkFmt
open Go.RowKit

theorem meth_read (a : Option Addr) (w : World) : Sem.run Ybaf.prog (method 253 55 (.pointer a) "ReadByte") w = .ok (75, .pointer a) w := by kernel_rfl
theorem meth_unread (a : Option Addr) (w : World) : Sem.run Ybaf.prog (method 253 55 (.pointer a) "UnreadByte") w = .ok (76, .pointer a) w := by kernel_rfl

/-- what reads the first byte: is there a sign, and where do the digits begin -/
def signAt (s : ByteArray) : Nat := if h : 0 < s.size then (if (s[0]).toNat = 45 ∨ (s[0]).toNat = 43 then 1 else 0) else 0
def negAt (s : ByteArray) : Bool := if h : 0 < s.size then decide ((s[0]).toNat = 45) else false

set_option maxRecDepth 100000 in
set_option maxHeartbeats 1000000 in
theorem scanSign_empty (rb : Nat) (s : ByteArray) (T : TypeId) (a : Addr) (w : World) (R : Rd w rb s 0) (hg : w.cell? ⟨1, 0, none⟩ = some (.iface T (.pointer (some a)))) (hrb : 1 < rb) (h0 : s.size = 0) :
    Calls Ybaf.prog 32 #[.iface 55 (.pointer (some ⟨rb, 0, none⟩))] w fun e w' => e = .returned (.tuple #[.bool false, .iface T (.pointer (some a))]) ∧ Rd w' rb s 0 ∧ Near rb w w' := by
  have H : Hid (Rd w rb s 0) := R
  clear R
  have hm1 := meth_read
  have hm2 := meth_unread
  go_enter Ybaf.func32, Ybaf.ntmps32
  go_wp2_with fail
  refine (readByte_none rb 0 s _ w H.out hg hrb (by omega)).mono ?_
  rintro e w' ⟨rfl, R, N⟩
  go_wp2
  go_ret2
  exact ⟨rfl, R, N⟩

set_option maxRecDepth 100000 in
set_option maxHeartbeats 1000000 in
theorem scanSign_some (rb : Nat) (s : ByteArray) (w : World) (R : Rd w rb s 0) (h0 : 0 < s.size) (hs : s.size ≤ 1024) :
    Calls Ybaf.prog 32 #[.iface 55 (.pointer (some ⟨rb, 0, none⟩))] w fun e w' => e = .returned (.tuple #[.bool (negAt s), .nilIface]) ∧ Rd w' rb s (signAt s) ∧ Near rb w w' := by
  have H : Hid (Rd w rb s 0) := R
  clear R
  have hm1 := meth_read
  have hm2 := meth_unread
  by_cases c1 : (s[0]).toNat = 45
  · have e1 : negAt s = true := by simp [negAt, h0, c1]
    have e2 : signAt s = 1 := by simp [signAt, h0, c1]
    rw [e1, e2]
    go_enter Ybaf.func32, Ybaf.ntmps32
    go_wp2_with fail
    refine (readByte_some rb 0 s w H.out h0 hs).mono ?_
    rintro e w' ⟨rfl, R, N⟩
    go_wp2
    go_ret2
    exact ⟨rfl, R, N⟩
  have b1 : (((s[0]).toNat : Int) == 45) = false := by simp; omega
  by_cases c2 : (s[0]).toNat = 43
  · have e1 : negAt s = false := by simp [negAt, c2]
    have e2 : signAt s = 1 := by simp [signAt, h0, c2]
    rw [e1, e2]
    go_enter Ybaf.func32, Ybaf.ntmps32
    go_wp2_with fail
    refine (readByte_some rb 0 s w H.out h0 hs).mono ?_
    rintro e w' ⟨rfl, R, N⟩
    go_wp2
    go_ret2
    exact ⟨rfl, R, N⟩
  have b2 : (((s[0]).toNat : Int) == 43) = false := by simp; omega
  have e1 : negAt s = false := by simp [negAt, c1]
  have e2 : signAt s = 0 := by simp [signAt, c1, c2]
  rw [e1, e2]
  go_enter Ybaf.func32, Ybaf.ntmps32
  go_wp2_with fail
  refine (readByte_some rb 0 s w H.out h0 hs).mono ?_
  rintro e w' ⟨rfl, R, N⟩
  go_wp2_with fail
  refine (unread_any rb 0 s w' R (by omega)).mono ?_
  rintro e w2 ⟨rfl, R2, N2⟩
  go_wp2
  go_ret2
  exact ⟨rfl, R2, N.trans N2⟩
end Go.Proofs.YbulkmjkFmt
