import Derived.Test.YbulkmjkFmtSign
import Derived.Test.YbulkmjkFmtNat4
import Derived.Test.YbulkmjkFmtPow
import Derived.Test.YbulkmjkFmtDec
namespace Go.Proofs.YbulkmjkFmt
open Go.RowKit

theorem NatV.near {w w' : World} {rb B : Nat} {v : Value} {ws : List Nat} (h : NatV w B v ws) (n : Near rb w w') (hB : rb < B) : NatV w' B v ws := by
  obtain ⟨h1, h2, h3⟩ := h
  refine ⟨h1, h2, h3.imp_right ?_⟩
  rintro ⟨g, cap, e, R, hc⟩
  have hne : g ≠ rb := by have := R.base; omega
  exact ⟨g, cap, e, ⟨R.base, by rw [n.size]; exact R.lt, R.len, R.most, fun j hj => by rw [n.cell g j hne]; exact R.there j hj, fun j => by rw [n.frozen]; exact R.free j⟩, fun j hj => by rw [n.cell g j hne]; exact hc j hj⟩

theorem Rd.below {w w' : World} {rb : Nat} {s : ByteArray} {i : Nat} (R : Rd w rb s i) (h : Below (rb + 1) w w') : Rd w' rb s i := by
  have hlt : rb < rb + 1 := by omega
  have hs := h.size
  exact ⟨by have := R.lt; omega, (h.cell (p := ⟨rb, 0, none⟩) hlt).trans R.c0, (h.cell (p := ⟨rb, 1, none⟩) hlt).trans R.c1, R.c2.imp fun _ e => (h.cell (p := ⟨rb, 2, none⟩) hlt).trans e, fun j => (h.frozen (p := ⟨rb, j, none⟩) hlt).trans (R.free j)⟩

theorem info117 : (Ybaf.prog.info? 117).map (fun i => i.comparable) = some true := by kernel_rfl
theorem info139 : (Ybaf.prog.info? 139).isSome = true := by kernel_rfl
theorem eql_eof (a : Addr) (w : World) : Sem.run Ybaf.prog (binOp .eql 28 (.iface 117 (.pointer (some a))) (.iface 117 (.pointer (some a)))) w = .ok (.bool true) w := by
  obtain ⟨i, hi, hc⟩ := Option.map_eq_some_iff.1 info117
  obtain ⟨j, hj⟩ := Option.isSome_iff_exists.1 info139
  exact run_eql_iface_ptr_same w a Ybaf.underlying28 Ybaf.underlying117 hi hc hj

structure SI (w : World) (rb st : Nat) (s : ByteArray) (k pos : Nat) (v : Value) (ws : List Nat) (q i : Nat) (wr : World) : Prop where
  core : Core s st k ws q i
  rd : Rd wr rb s pos
  nat : NatV wr (rb + 1) v ws
  below : Below rb w wr

/-- what the loop's slots hold at a round's head -/
def ScanRel (w : World) (rb st : Nat) (s : ByteArray) (a : Addr) (v b3 cnt err prev inv ch q i dp : Value) (wr : World) : Prop :=
  ∃ (k qn im : Nat) (ws : List Nat) (pv : Int), b3 = .bool false ∧ cnt = .int .i64 k ∧ prev = .int .i32 pv ∧ pv ≠ 95 ∧ inv = .bool false ∧ q = .int .u64 qn ∧ i = .int .i64 im ∧ dp = .int .i64 (-1) ∧
    ((∃ h : st + k < s.size, err = .nilIface ∧ ch = .int .u8 (s[st + k]).toNat ∧ SI w rb st s k (st + k + 1) v ws qn im wr) ∨
     (st + k = s.size ∧ err = .iface 117 (.pointer (some a)) ∧ (∃ c : Int, ch = .int .u8 c) ∧ SI w rb st s k (st + k) v ws qn im wr))

def ScanTail (w : World) (rb st : Nat) (s : ByteArray) (k : Nat) (v : Value) (w' : World) : Prop :=
  ∃ ws, NatV w' (rb + 1) v ws ∧ val ws = dec (seg s st k) ∧ Rd w' rb s (st + k) ∧ Below rb w w' ∧ st + k ≤ s.size ∧ (∀ j (h : st + j < s.size), j < k → isDig s[st + j]) ∧ (∀ h : st + k < s.size, ¬ isDig s[st + k])

/-- what nat.scan hands back -/
def ScanPost (w : World) (rb st : Nat) (s : ByteArray) (a5 : Addr) (e : Ending) (w' : World) : Prop :=
  ∃ (v : Value) (k : Nat) (er : Value), e = .returned (.tuple #[v, .int .i64 10, .int .i64 k, er]) ∧ er = (if k = 0 then .iface 117 (.pointer (some a5)) else .nilIface) ∧ ScanTail w rb st s k v w'

theorem tail0 {w : World} {rb st : Nat} {s : ByteArray} {k : Nat} {v : Value} {ws : List Nat} {q : Nat} {wr : World} (S : SI w rb st s k (st + k) v ws q 0 wr) (he : ∀ h : st + k < s.size, ¬ isDig s[st + k]) : ScanTail w rb st s k v wr := by
  refine ⟨ws, S.nat, ?_, S.rd, S.below, S.core.le, S.core.digs, he⟩
  have h1 := S.core.value
  have h2 := S.core.ql
  simp at h1 h2
  omega

theorem tail1 {w : World} {rb st : Nat} {s : ByteArray} {k : Nat} {v : Value} {ws : List Nat} {q i : Nat} {wr : World} (S : SI w rb st s k (st + k) v ws q i wr) (he : ∀ h : st + k < s.size, ¬ isDig s[st + k])
    {q3 : Nat} (h3 : q3 = 10 ^ i) {v4 : Value} {w4 : World} (h4 : ∃ ws', NatV w4 (rb + 1) v4 ws' ∧ val ws' = val ws * q3 + q ∧ ws'.length ≤ ws.length + 1 ∧ Below (rb + 1) wr w4) : ScanTail w rb st s k v4 w4 := by
  obtain ⟨ws', n1, n2, _, n4⟩ := h4
  exact ⟨ws', n1, by rw [n2, h3]; exact S.core.value, S.rd.below n4, S.below.trans (n4.mono (by omega)), S.core.le, S.core.digs, he⟩

theorem q3_small {q i : Nat} (h : q = 10 ^ i) (hi : i ≤ 18) : q < W64 := by
  have := pow10_le i hi
  simp only [W64]
  omega
theorem q3_pos {q i : Nat} (h : q = 10 ^ i) : 0 < q := by rw [h]; exact Nat.pow_pos (by omega)
theorem qn_small {s : ByteArray} {st k : Nat} {ws : List Nat} {q i : Nat} (C : Core s st k ws q i) : q < W64 := by
  have := C.q_small
  simp only [W64]
  omega

theorem results_tmp4 {fn : Func} {t u v x : Tmp} (h : fn.results = #[.tmp t, .tmp u, .tmp v, .tmp x]) (tmps : Array Value) (P : Program) (w : World) :
    (results fn tmps).run P w = .ok (.tuple #[tmps.getD t undef, tmps.getD u undef, tmps.getD v undef, tmps.getD x undef]) w := by
  simp [results, h]

theorem mulAddWW_int (B : Nat) (v : Value) (ws : List Nat) (y r : Int) (y' r' : Nat) (ey : y = (y' : Int)) (er : r = (r' : Int)) (w : World) (hB : B ≤ w.heap.size) (hy : y' < W64) (hy0 : 0 < y') (hr : r' < W64) (hlen : ws.length ≤ 2000) (hv : NatV w B v ws) :
    Calls Ybaf.prog 35 #[v, v, .int .u64 y, .int .u64 r] w fun e w' => ∃ v', e = .returned v' ∧ Hid (∃ ws', NatV w' B v' ws' ∧ val ws' = val ws * y' + r' ∧ ws'.length ≤ ws.length + 1 ∧ Below B w w') := by
  subst ey er
  exact mulAddWW_any B v ws y' r' w hB hy hy0 hr hlen hv

theorem SI.step {w : World} {rb st : Nat} {s : ByteArray} {k : Nat} {v : Value} {ws : List Nat} {q i : Nat} {wr w2 : World} (S : SI w rb st s k (st + k + 1) v ws q i wr) (h : st + k < s.size) (hd : isDig s[st + k]) (hi : i + 1 < 19)
    {pos : Nat} (R : Rd w2 rb s pos) (N : Near rb wr w2) : SI w rb st s (k + 1) pos v ws (q * 10 + ((s[st + k]).toNat - 48)) (i + 1) w2 :=
  ⟨S.core.step h hd hi, R, S.nat.near N (by omega), S.below.trans N.below⟩

theorem SI.step19 {w : World} {rb st : Nat} {s : ByteArray} {k : Nat} {v v' : Value} {ws : List Nat} {q i : Nat} {wr w2 w3 : World} (S : SI w rb st s k (st + k + 1) v ws q i wr) (h : st + k < s.size) (hd : isDig s[st + k]) (hi : i + 1 = 19)
    (hq : ∃ ws', NatV w2 (rb + 1) v' ws' ∧ val ws' = val ws * 10000000000000000000 + (q * 10 + ((s[st + k]).toNat - 48)) ∧ ws'.length ≤ ws.length + 1 ∧ Below (rb + 1) wr w2)
    {pos : Nat} (R : Rd w3 rb s pos) (N : Near rb w2 w3) : ∃ ws', SI w rb st s (k + 1) pos v' ws' 0 0 w3 := by
  obtain ⟨ws', n1, n2, n3, n4⟩ := hq
  exact ⟨ws', S.core.step19 h hd hi ws' n2 n3, R, n1.near N (by omega), (S.below.trans (n4.mono (by omega))).trans N.below⟩

theorem SI.unread {w : World} {rb st : Nat} {s : ByteArray} {k : Nat} {v : Value} {ws : List Nat} {q i : Nat} {wr w2 : World} (S : SI w rb st s k (st + k + 1) v ws q i wr) (R : Rd w2 rb s (st + k)) (N : Near rb wr w2) : SI w rb st s k (st + k) v ws q i w2 :=
  ⟨S.core, R, S.nat.near N (by omega), S.below.trans N.below⟩

set_option maxRecDepth 100000 in
set_option maxHeartbeats 4000000 in
theorem scan_some (rb st : Nat) (s : ByteArray) (a a5 : Addr) (w : World) (R : Rd w rb s st) (hg : w.cell? ⟨1, 0, none⟩ = some (.iface 117 (.pointer (some a)))) (hg5 : w.cell? ⟨5, 0, none⟩ = some (.iface 117 (.pointer (some a5)))) (hrb : 5 < rb) (hs : s.size ≤ 1024) (hst : st < s.size) :
    Calls Ybaf.prog 33 #[.slice none 0 0, .iface 55 (.pointer (some ⟨rb, 0, none⟩)), .int .i64 10, .bool false] w fun e w' => ScanPost w rb st s a5 e w' := by
  have H : Hid (Rd w rb s st) := R
  clear R
  have hm1 := meth_read
  have hm2 := meth_unread
  go_enter Ybaf.func33, Ybaf.ntmps33
  go_wp2_with fail
  refine (readByte_some rb st s w H.out hst hs).mono ?_
  rintro e w' ⟨rfl, R, N⟩
  have H2 : Hid (Rd w' rb s (st + 1) ∧ Near rb w w') := ⟨R, N⟩
  clear R N
  go_wp2_with fail
  refine (maxPow10 _).mono ?_
  rintro e w'' ⟨rfl, hw⟩
  rw [hw]
  go_wp2_with fail
  go_loopw [0, 3, 10, 11, 13, 14, 15, 20, 21, 22] (fun v b3 cnt err prev inv ch q i dp wr => ScanRel w rb st s a v b3 cnt err prev inv ch q i dp wr) (fun _ _ cnt _ _ _ _ _ _ _ _ => (s.size + 1) - (st + (intOf cnt).toNat))
  case atStart => exact ⟨0, 0, 0, [], 46, rfl, rfl, rfl, by decide, rfl, rfl, rfl, rfl, Or.inl ⟨by omega, rfl, rfl, Core.start s st (by omega), H2.out.1, ⟨norm_nil, by simp, Or.inl ⟨rfl, rfl⟩⟩, H2.out.2.below⟩⟩
  case round =>
    obtain ⟨k, qn, im, ws, pv, rfl, rfl, rfl, hpv, rfl, rfl, rfl, rfl, ⟨hk, rfl, rfl, S⟩ | ⟨hk, rfl, ⟨c, rfl⟩, S⟩⟩ := hrel
    · have hb95 : (pv == 95) = false := by simpa using hpv
      have HS : Hid (SI w rb st s k (st + k + 1) u0 ws qn im wr) := S
      have hr1 : wr.cell? ⟨1, 0, none⟩ = some (.iface 117 (.pointer (some a))) := (S.below.cell (p := ⟨1, 0, none⟩) (by show 1 < rb; omega)).trans hg
      have hr5 : wr.cell? ⟨5, 0, none⟩ = some (.iface 117 (.pointer (some a5))) := (S.below.cell (p := ⟨5, 0, none⟩) (by show 5 < rb; omega)).trans hg5
      have hkb : k ≤ 1024 := by omega
      have him := S.core.il
      have hqn := S.core.q_small
      have hwl := S.core.wlen
      have hc256 := (s[st + k]).toNat_lt
      clear S
      by_cases hd : isDig s[st + k]
      · have HD : Hid (isDig s[st + k]) := hd
        obtain ⟨hd1, hd2⟩ := hd
        have b46 : (((s[st + k]).toNat : Int) == 46) = false := by simp; omega
        have b95 : (((s[st + k]).toNat : Int) == 95) = false := by simp; omega
        have g1 : (48 : Int) ≤ ((s[st + k]).toNat : Int) := by omega
        have g2 : ((s[st + k]).toNat : Int) ≤ 57 := by omega
        have E1 : Hid (((qn : Int) * 10 + (((s[st + k]).toNat : Int) - 48)) = ((qn * 10 + ((s[st + k]).toNat - 48) : Nat) : Int)) := by show _ = _; omega
        by_cases hi19 : im + 1 = 19
        · have b19 : ((im : Int) + 1 == 19) = true := by simp; omega
          go_wp2_with fail
          refine (mulAddWW_int (rb + 1) u0 ws _ _ 10000000000000000000 (qn * 10 + ((s[st + k]).toNat - 48)) (by omega) E1.out wr HS.out.rd.lt (by simp only [W64]; omega) (by omega) (by simp only [W64]; omega) (by omega) HS.out.nat).mono ?_
          rintro e w2 ⟨v2, rfl, hq2⟩
          have hg2 : w2.cell? ⟨1, 0, none⟩ = some (.iface 117 (.pointer (some a))) := by
            obtain ⟨ws', n1, n2, n3, n4⟩ := hq2.out
            exact (n4.cell (p := ⟨1, 0, none⟩) (by show 1 < rb + 1; omega)).trans hr1
          have HR2 : Hid (Rd w2 rb s (st + k + 1)) := by
            obtain ⟨ws', n1, n2, n3, n4⟩ := hq2.out
            exact HS.out.rd.below n4
          clear hr1 hr5
          go_wp2_with fail
          by_cases hn : st + k + 1 < s.size
          · refine (readByte_some rb (st + k + 1) s w2 HR2.out hn hs).mono ?_
            rintro e w3 ⟨rfl, R3, N3⟩
            obtain ⟨ws', S3⟩ := HS.out.step19 hk HD.out hi19 hq2.out R3 N3
            have HS3 : Hid (SI w rb st s (k + 1) (st + k + 1 + 1) v2 ws' 0 0 w3) := S3
            clear S3 R3 N3 hg2
            go_wp2_with fail
            go_roundw
            case rel => exact ⟨k + 1, 0, 0, ws', 48, rfl, by go_num, rfl, by decide, rfl, rfl, rfl, rfl, Or.inl ⟨hn, rfl, rfl, HS3.out⟩⟩
            case measure => simp [intOf]; omega
          · refine (readByte_none rb (st + k + 1) s _ w2 HR2.out hg2 (by omega) (by omega)).mono ?_
            rintro e w3 ⟨rfl, R3, N3⟩
            obtain ⟨ws', S3⟩ := HS.out.step19 hk HD.out hi19 hq2.out R3 N3
            have HS3 : Hid (SI w rb st s (k + 1) (st + k + 1) v2 ws' 0 0 w3) := S3
            clear S3 R3 N3 hg2
            go_wp2_with fail
            go_roundw
            case rel => exact ⟨k + 1, 0, 0, ws', 48, rfl, by go_num, rfl, by decide, rfl, rfl, rfl, rfl, Or.inr ⟨by omega, rfl, ⟨_, rfl⟩, HS3.out⟩⟩
            case measure => simp [intOf]; omega
        · have b19 : ((im : Int) + 1 == 19) = false := by simp; omega
          go_wp2_with fail
          by_cases hn : st + k + 1 < s.size
          · refine (readByte_some rb (st + k + 1) s wr HS.out.rd hn hs).mono ?_
            rintro e w3 ⟨rfl, R3, N3⟩
            have HS3 : Hid (SI w rb st s (k + 1) (st + k + 1 + 1) u0 ws (qn * 10 + ((s[st + k]).toNat - 48)) (im + 1) w3) := HS.out.step hk HD.out (by omega) R3 N3
            clear R3 N3 hr1 hr5
            go_wp2_with fail
            go_roundw
            case rel => exact ⟨k + 1, _, im + 1, ws, 48, rfl, by go_num, rfl, by decide, rfl, congrArg (Value.int .u64) E1.out, by go_num, rfl, Or.inl ⟨hn, rfl, rfl, HS3.out⟩⟩
            case measure => simp [intOf]; omega
          · refine (readByte_none rb (st + k + 1) s _ wr HS.out.rd hr1 (by omega) (by omega)).mono ?_
            rintro e w3 ⟨rfl, R3, N3⟩
            have HS3 : Hid (SI w rb st s (k + 1) (st + k + 1) u0 ws (qn * 10 + ((s[st + k]).toNat - 48)) (im + 1) w3) := HS.out.step hk HD.out (by omega) R3 N3
            clear R3 N3 hr1 hr5
            go_wp2_with fail
            go_roundw
            case rel => exact ⟨k + 1, _, im + 1, ws, 48, rfl, by go_num, rfl, by decide, rfl, congrArg (Value.int .u64) E1.out, by go_num, rfl, Or.inr ⟨by omega, rfl, ⟨_, rfl⟩, HS3.out⟩⟩
            case measure => simp [intOf]; omega
      · have HE : Hid (∀ h : st + k < s.size, ¬ isDig s[st + k]) := fun _ => hd
        have heqn : ∀ w, Sem.run Ybaf.prog (binOp .eql 28 .nilIface (.iface 117 (.pointer (some a)))) w = .ok (.bool false) w := fun w => run_eql_iface_nil_left w 117 _ Ybaf.underlying28
        have hcls : ((s[st + k]).toNat = 46) ∨ ((s[st + k]).toNat < 48 ∧ (s[st + k]).toNat ≠ 46) ∨ (57 < (s[st + k]).toNat ∧ (s[st + k]).toNat < 65) ∨ (65 ≤ (s[st + k]).toNat ∧ (s[st + k]).toNat ≤ 90) ∨ (90 < (s[st + k]).toNat ∧ (s[st + k]).toNat < 97 ∧ (s[st + k]).toNat ≠ 95) ∨ ((s[st + k]).toNat = 95) ∨ (97 ≤ (s[st + k]).toNat ∧ (s[st + k]).toNat ≤ 122) ∨ (122 < (s[st + k]).toNat) := by
          unfold isDig at hd
          omega
        clear hd
        rcases hcls with hc | hc | hc | hc | hc | hc | hc | hc
        · have b46 : (((s[st + k]).toNat : Int) == 46) = true := by simp; omega
          have b95 : (((s[st + k]).toNat : Int) == 95) = false := by simp; omega
          have g0 : ¬ (48 : Int) ≤ ((s[st + k]).toNat : Int) := by omega
          have g1 : ¬ (97 : Int) ≤ ((s[st + k]).toNat : Int) := by omega
          have g2 : ¬ (65 : Int) ≤ ((s[st + k]).toNat : Int) := by omega
          clear hc
          go_wp2_with fail
          refine (unread_any rb (st + k) s wr HS.out.rd (by omega)).mono ?_
          rintro e w2 ⟨rfl, R2, N2⟩
          have HS2 : Hid (SI w rb st s k (st + k) u0 ws qn im w2) := HS.out.unread R2 N2
          have hq1 : w2.cell? ⟨1, 0, none⟩ = some (.iface 117 (.pointer (some a))) := (N2.cell 1 0 (by omega)).trans hr1
          have hq5 : w2.cell? ⟨5, 0, none⟩ = some (.iface 117 (.pointer (some a5))) := (N2.cell 5 0 (by omega)).trans hr5
          clear R2 N2 hr1 hr5
          by_cases h0 : k = 0
          · subst h0
            have him0 := (HS2.out.core.ik rfl).1
            subst him0
            have HT := tail0 HS2.out HE.out
            go_wp2_with fail
            refine bodyPost_ret (results_tmp4 rfl _ _ _) rfl ⟨u0, 0, .iface 117 (.pointer (some a5)), rfl, rfl, HT⟩
          · have h0b : ((k : Int) == 0) = false := by simp; omega
            by_cases hi0 : im = 0
            · subst hi0
              have HT := tail0 HS2.out HE.out
              go_wp2_with fail
              refine bodyPost_ret (results_tmp4 rfl _ _ _) rfl ⟨u0, k, .nilIface, rfl, (if_neg h0).symm, HT⟩
            · have hi0' : (0 : Int) < (im : Int) := by omega
              go_wp2_with fail
              refine (pow10_any im (by omega) _).mono ?_
              rintro e w3 ⟨q3, rfl, hw3, hq3⟩
              rw [hw3]
              go_wp2_with fail
              refine (mulAddWW_any (rb + 1) u0 ws q3 qn _ HS2.out.rd.lt (q3_small hq3.out (by omega)) (q3_pos hq3.out) (qn_small HS2.out.core) (by omega) HS2.out.nat).mono ?_
              rintro e w4 ⟨v4, rfl, hq4⟩
              have HT := tail1 HS2.out HE.out hq3.out hq4.out
              go_wp2_with fail
              refine bodyPost_ret (results_tmp4 rfl _ _ _) rfl ⟨v4, k, .nilIface, rfl, (if_neg h0).symm, HT⟩
        · have b46 : (((s[st + k]).toNat : Int) == 46) = false := by simp; omega
          have b95 : (((s[st + k]).toNat : Int) == 95) = false := by simp; omega
          have g0 : ¬ (48 : Int) ≤ ((s[st + k]).toNat : Int) := by omega
          have g1 : ¬ (97 : Int) ≤ ((s[st + k]).toNat : Int) := by omega
          have g2 : ¬ (65 : Int) ≤ ((s[st + k]).toNat : Int) := by omega
          clear hc
          go_wp2_with fail
          refine (unread_any rb (st + k) s wr HS.out.rd (by omega)).mono ?_
          rintro e w2 ⟨rfl, R2, N2⟩
          have HS2 : Hid (SI w rb st s k (st + k) u0 ws qn im w2) := HS.out.unread R2 N2
          have hq1 : w2.cell? ⟨1, 0, none⟩ = some (.iface 117 (.pointer (some a))) := (N2.cell 1 0 (by omega)).trans hr1
          have hq5 : w2.cell? ⟨5, 0, none⟩ = some (.iface 117 (.pointer (some a5))) := (N2.cell 5 0 (by omega)).trans hr5
          clear R2 N2 hr1 hr5
          by_cases h0 : k = 0
          · subst h0
            have him0 := (HS2.out.core.ik rfl).1
            subst him0
            have HT := tail0 HS2.out HE.out
            go_wp2_with fail
            refine bodyPost_ret (results_tmp4 rfl _ _ _) rfl ⟨u0, 0, .iface 117 (.pointer (some a5)), rfl, rfl, HT⟩
          · have h0b : ((k : Int) == 0) = false := by simp; omega
            by_cases hi0 : im = 0
            · subst hi0
              have HT := tail0 HS2.out HE.out
              go_wp2_with fail
              refine bodyPost_ret (results_tmp4 rfl _ _ _) rfl ⟨u0, k, .nilIface, rfl, (if_neg h0).symm, HT⟩
            · have hi0' : (0 : Int) < (im : Int) := by omega
              go_wp2_with fail
              refine (pow10_any im (by omega) _).mono ?_
              rintro e w3 ⟨q3, rfl, hw3, hq3⟩
              rw [hw3]
              go_wp2_with fail
              refine (mulAddWW_any (rb + 1) u0 ws q3 qn _ HS2.out.rd.lt (q3_small hq3.out (by omega)) (q3_pos hq3.out) (qn_small HS2.out.core) (by omega) HS2.out.nat).mono ?_
              rintro e w4 ⟨v4, rfl, hq4⟩
              have HT := tail1 HS2.out HE.out hq3.out hq4.out
              go_wp2_with fail
              refine bodyPost_ret (results_tmp4 rfl _ _ _) rfl ⟨v4, k, .nilIface, rfl, (if_neg h0).symm, HT⟩
        · have b46 : (((s[st + k]).toNat : Int) == 46) = false := by simp; omega
          have b95 : (((s[st + k]).toNat : Int) == 95) = false := by simp; omega
          have g0 : (48 : Int) ≤ ((s[st + k]).toNat : Int) := by omega
          have g1 : ¬ ((s[st + k]).toNat : Int) ≤ (57 : Int) := by omega
          have g2 : ¬ (97 : Int) ≤ ((s[st + k]).toNat : Int) := by omega
          have g3 : ¬ (65 : Int) ≤ ((s[st + k]).toNat : Int) := by omega
          clear hc
          go_wp2_with fail
          refine (unread_any rb (st + k) s wr HS.out.rd (by omega)).mono ?_
          rintro e w2 ⟨rfl, R2, N2⟩
          have HS2 : Hid (SI w rb st s k (st + k) u0 ws qn im w2) := HS.out.unread R2 N2
          have hq1 : w2.cell? ⟨1, 0, none⟩ = some (.iface 117 (.pointer (some a))) := (N2.cell 1 0 (by omega)).trans hr1
          have hq5 : w2.cell? ⟨5, 0, none⟩ = some (.iface 117 (.pointer (some a5))) := (N2.cell 5 0 (by omega)).trans hr5
          clear R2 N2 hr1 hr5
          by_cases h0 : k = 0
          · subst h0
            have him0 := (HS2.out.core.ik rfl).1
            subst him0
            have HT := tail0 HS2.out HE.out
            go_wp2_with fail
            refine bodyPost_ret (results_tmp4 rfl _ _ _) rfl ⟨u0, 0, .iface 117 (.pointer (some a5)), rfl, rfl, HT⟩
          · have h0b : ((k : Int) == 0) = false := by simp; omega
            by_cases hi0 : im = 0
            · subst hi0
              have HT := tail0 HS2.out HE.out
              go_wp2_with fail
              refine bodyPost_ret (results_tmp4 rfl _ _ _) rfl ⟨u0, k, .nilIface, rfl, (if_neg h0).symm, HT⟩
            · have hi0' : (0 : Int) < (im : Int) := by omega
              go_wp2_with fail
              refine (pow10_any im (by omega) _).mono ?_
              rintro e w3 ⟨q3, rfl, hw3, hq3⟩
              rw [hw3]
              go_wp2_with fail
              refine (mulAddWW_any (rb + 1) u0 ws q3 qn _ HS2.out.rd.lt (q3_small hq3.out (by omega)) (q3_pos hq3.out) (qn_small HS2.out.core) (by omega) HS2.out.nat).mono ?_
              rintro e w4 ⟨v4, rfl, hq4⟩
              have HT := tail1 HS2.out HE.out hq3.out hq4.out
              go_wp2_with fail
              refine bodyPost_ret (results_tmp4 rfl _ _ _) rfl ⟨v4, k, .nilIface, rfl, (if_neg h0).symm, HT⟩
        · have b46 : (((s[st + k]).toNat : Int) == 46) = false := by simp; omega
          have b95 : (((s[st + k]).toNat : Int) == 95) = false := by simp; omega
          have g0 : (48 : Int) ≤ ((s[st + k]).toNat : Int) := by omega
          have g1 : ¬ ((s[st + k]).toNat : Int) ≤ (57 : Int) := by omega
          have g2 : ¬ (97 : Int) ≤ ((s[st + k]).toNat : Int) := by omega
          have g3 : (65 : Int) ≤ ((s[st + k]).toNat : Int) := by omega
          have g4 : ((s[st + k]).toNat : Int) ≤ (90 : Int) := by omega
          clear hc
          go_wp2_with fail
          refine (unread_any rb (st + k) s wr HS.out.rd (by omega)).mono ?_
          rintro e w2 ⟨rfl, R2, N2⟩
          have HS2 : Hid (SI w rb st s k (st + k) u0 ws qn im w2) := HS.out.unread R2 N2
          have hq1 : w2.cell? ⟨1, 0, none⟩ = some (.iface 117 (.pointer (some a))) := (N2.cell 1 0 (by omega)).trans hr1
          have hq5 : w2.cell? ⟨5, 0, none⟩ = some (.iface 117 (.pointer (some a5))) := (N2.cell 5 0 (by omega)).trans hr5
          clear R2 N2 hr1 hr5
          by_cases h0 : k = 0
          · subst h0
            have him0 := (HS2.out.core.ik rfl).1
            subst him0
            have HT := tail0 HS2.out HE.out
            go_wp2_with fail
            refine bodyPost_ret (results_tmp4 rfl _ _ _) rfl ⟨u0, 0, .iface 117 (.pointer (some a5)), rfl, rfl, HT⟩
          · have h0b : ((k : Int) == 0) = false := by simp; omega
            by_cases hi0 : im = 0
            · subst hi0
              have HT := tail0 HS2.out HE.out
              go_wp2_with fail
              refine bodyPost_ret (results_tmp4 rfl _ _ _) rfl ⟨u0, k, .nilIface, rfl, (if_neg h0).symm, HT⟩
            · have hi0' : (0 : Int) < (im : Int) := by omega
              go_wp2_with fail
              refine (pow10_any im (by omega) _).mono ?_
              rintro e w3 ⟨q3, rfl, hw3, hq3⟩
              rw [hw3]
              go_wp2_with fail
              refine (mulAddWW_any (rb + 1) u0 ws q3 qn _ HS2.out.rd.lt (q3_small hq3.out (by omega)) (q3_pos hq3.out) (qn_small HS2.out.core) (by omega) HS2.out.nat).mono ?_
              rintro e w4 ⟨v4, rfl, hq4⟩
              have HT := tail1 HS2.out HE.out hq3.out hq4.out
              go_wp2_with fail
              refine bodyPost_ret (results_tmp4 rfl _ _ _) rfl ⟨v4, k, .nilIface, rfl, (if_neg h0).symm, HT⟩
        · have b46 : (((s[st + k]).toNat : Int) == 46) = false := by simp; omega
          have b95 : (((s[st + k]).toNat : Int) == 95) = false := by simp; omega
          have g0 : (48 : Int) ≤ ((s[st + k]).toNat : Int) := by omega
          have g1 : ¬ ((s[st + k]).toNat : Int) ≤ (57 : Int) := by omega
          have g2 : ¬ (97 : Int) ≤ ((s[st + k]).toNat : Int) := by omega
          have g3 : (65 : Int) ≤ ((s[st + k]).toNat : Int) := by omega
          have g4 : ¬ ((s[st + k]).toNat : Int) ≤ (90 : Int) := by omega
          clear hc
          go_wp2_with fail
          refine (unread_any rb (st + k) s wr HS.out.rd (by omega)).mono ?_
          rintro e w2 ⟨rfl, R2, N2⟩
          have HS2 : Hid (SI w rb st s k (st + k) u0 ws qn im w2) := HS.out.unread R2 N2
          have hq1 : w2.cell? ⟨1, 0, none⟩ = some (.iface 117 (.pointer (some a))) := (N2.cell 1 0 (by omega)).trans hr1
          have hq5 : w2.cell? ⟨5, 0, none⟩ = some (.iface 117 (.pointer (some a5))) := (N2.cell 5 0 (by omega)).trans hr5
          clear R2 N2 hr1 hr5
          by_cases h0 : k = 0
          · subst h0
            have him0 := (HS2.out.core.ik rfl).1
            subst him0
            have HT := tail0 HS2.out HE.out
            go_wp2_with fail
            refine bodyPost_ret (results_tmp4 rfl _ _ _) rfl ⟨u0, 0, .iface 117 (.pointer (some a5)), rfl, rfl, HT⟩
          · have h0b : ((k : Int) == 0) = false := by simp; omega
            by_cases hi0 : im = 0
            · subst hi0
              have HT := tail0 HS2.out HE.out
              go_wp2_with fail
              refine bodyPost_ret (results_tmp4 rfl _ _ _) rfl ⟨u0, k, .nilIface, rfl, (if_neg h0).symm, HT⟩
            · have hi0' : (0 : Int) < (im : Int) := by omega
              go_wp2_with fail
              refine (pow10_any im (by omega) _).mono ?_
              rintro e w3 ⟨q3, rfl, hw3, hq3⟩
              rw [hw3]
              go_wp2_with fail
              refine (mulAddWW_any (rb + 1) u0 ws q3 qn _ HS2.out.rd.lt (q3_small hq3.out (by omega)) (q3_pos hq3.out) (qn_small HS2.out.core) (by omega) HS2.out.nat).mono ?_
              rintro e w4 ⟨v4, rfl, hq4⟩
              have HT := tail1 HS2.out HE.out hq3.out hq4.out
              go_wp2_with fail
              refine bodyPost_ret (results_tmp4 rfl _ _ _) rfl ⟨v4, k, .nilIface, rfl, (if_neg h0).symm, HT⟩
        · have b46 : (((s[st + k]).toNat : Int) == 46) = false := by simp; omega
          have b95 : (((s[st + k]).toNat : Int) == 95) = true := by simp; omega
          have g0 : (48 : Int) ≤ ((s[st + k]).toNat : Int) := by omega
          have g1 : ¬ ((s[st + k]).toNat : Int) ≤ (57 : Int) := by omega
          have g2 : ¬ (97 : Int) ≤ ((s[st + k]).toNat : Int) := by omega
          have g3 : (65 : Int) ≤ ((s[st + k]).toNat : Int) := by omega
          have g4 : ¬ ((s[st + k]).toNat : Int) ≤ (90 : Int) := by omega
          clear hc
          go_wp2_with fail
          refine (unread_any rb (st + k) s wr HS.out.rd (by omega)).mono ?_
          rintro e w2 ⟨rfl, R2, N2⟩
          have HS2 : Hid (SI w rb st s k (st + k) u0 ws qn im w2) := HS.out.unread R2 N2
          have hq1 : w2.cell? ⟨1, 0, none⟩ = some (.iface 117 (.pointer (some a))) := (N2.cell 1 0 (by omega)).trans hr1
          have hq5 : w2.cell? ⟨5, 0, none⟩ = some (.iface 117 (.pointer (some a5))) := (N2.cell 5 0 (by omega)).trans hr5
          clear R2 N2 hr1 hr5
          by_cases h0 : k = 0
          · subst h0
            have him0 := (HS2.out.core.ik rfl).1
            subst him0
            have HT := tail0 HS2.out HE.out
            go_wp2_with fail
            refine bodyPost_ret (results_tmp4 rfl _ _ _) rfl ⟨u0, 0, .iface 117 (.pointer (some a5)), rfl, rfl, HT⟩
          · have h0b : ((k : Int) == 0) = false := by simp; omega
            by_cases hi0 : im = 0
            · subst hi0
              have HT := tail0 HS2.out HE.out
              go_wp2_with fail
              refine bodyPost_ret (results_tmp4 rfl _ _ _) rfl ⟨u0, k, .nilIface, rfl, (if_neg h0).symm, HT⟩
            · have hi0' : (0 : Int) < (im : Int) := by omega
              go_wp2_with fail
              refine (pow10_any im (by omega) _).mono ?_
              rintro e w3 ⟨q3, rfl, hw3, hq3⟩
              rw [hw3]
              go_wp2_with fail
              refine (mulAddWW_any (rb + 1) u0 ws q3 qn _ HS2.out.rd.lt (q3_small hq3.out (by omega)) (q3_pos hq3.out) (qn_small HS2.out.core) (by omega) HS2.out.nat).mono ?_
              rintro e w4 ⟨v4, rfl, hq4⟩
              have HT := tail1 HS2.out HE.out hq3.out hq4.out
              go_wp2_with fail
              refine bodyPost_ret (results_tmp4 rfl _ _ _) rfl ⟨v4, k, .nilIface, rfl, (if_neg h0).symm, HT⟩
        · have b46 : (((s[st + k]).toNat : Int) == 46) = false := by simp; omega
          have b95 : (((s[st + k]).toNat : Int) == 95) = false := by simp; omega
          have g0 : (48 : Int) ≤ ((s[st + k]).toNat : Int) := by omega
          have g1 : ¬ ((s[st + k]).toNat : Int) ≤ (57 : Int) := by omega
          have g2 : (97 : Int) ≤ ((s[st + k]).toNat : Int) := by omega
          have g3 : ((s[st + k]).toNat : Int) ≤ (122 : Int) := by omega
          clear hc
          go_wp2_with fail
          refine (unread_any rb (st + k) s wr HS.out.rd (by omega)).mono ?_
          rintro e w2 ⟨rfl, R2, N2⟩
          have HS2 : Hid (SI w rb st s k (st + k) u0 ws qn im w2) := HS.out.unread R2 N2
          have hq1 : w2.cell? ⟨1, 0, none⟩ = some (.iface 117 (.pointer (some a))) := (N2.cell 1 0 (by omega)).trans hr1
          have hq5 : w2.cell? ⟨5, 0, none⟩ = some (.iface 117 (.pointer (some a5))) := (N2.cell 5 0 (by omega)).trans hr5
          clear R2 N2 hr1 hr5
          by_cases h0 : k = 0
          · subst h0
            have him0 := (HS2.out.core.ik rfl).1
            subst him0
            have HT := tail0 HS2.out HE.out
            go_wp2_with fail
            refine bodyPost_ret (results_tmp4 rfl _ _ _) rfl ⟨u0, 0, .iface 117 (.pointer (some a5)), rfl, rfl, HT⟩
          · have h0b : ((k : Int) == 0) = false := by simp; omega
            by_cases hi0 : im = 0
            · subst hi0
              have HT := tail0 HS2.out HE.out
              go_wp2_with fail
              refine bodyPost_ret (results_tmp4 rfl _ _ _) rfl ⟨u0, k, .nilIface, rfl, (if_neg h0).symm, HT⟩
            · have hi0' : (0 : Int) < (im : Int) := by omega
              go_wp2_with fail
              refine (pow10_any im (by omega) _).mono ?_
              rintro e w3 ⟨q3, rfl, hw3, hq3⟩
              rw [hw3]
              go_wp2_with fail
              refine (mulAddWW_any (rb + 1) u0 ws q3 qn _ HS2.out.rd.lt (q3_small hq3.out (by omega)) (q3_pos hq3.out) (qn_small HS2.out.core) (by omega) HS2.out.nat).mono ?_
              rintro e w4 ⟨v4, rfl, hq4⟩
              have HT := tail1 HS2.out HE.out hq3.out hq4.out
              go_wp2_with fail
              refine bodyPost_ret (results_tmp4 rfl _ _ _) rfl ⟨v4, k, .nilIface, rfl, (if_neg h0).symm, HT⟩
        · have b46 : (((s[st + k]).toNat : Int) == 46) = false := by simp; omega
          have b95 : (((s[st + k]).toNat : Int) == 95) = false := by simp; omega
          have g0 : (48 : Int) ≤ ((s[st + k]).toNat : Int) := by omega
          have g1 : ¬ ((s[st + k]).toNat : Int) ≤ (57 : Int) := by omega
          have g2 : (97 : Int) ≤ ((s[st + k]).toNat : Int) := by omega
          have g3 : ¬ ((s[st + k]).toNat : Int) ≤ (122 : Int) := by omega
          have g4 : (65 : Int) ≤ ((s[st + k]).toNat : Int) := by omega
          have g5 : ¬ ((s[st + k]).toNat : Int) ≤ (90 : Int) := by omega
          clear hc
          go_wp2_with fail
          refine (unread_any rb (st + k) s wr HS.out.rd (by omega)).mono ?_
          rintro e w2 ⟨rfl, R2, N2⟩
          have HS2 : Hid (SI w rb st s k (st + k) u0 ws qn im w2) := HS.out.unread R2 N2
          have hq1 : w2.cell? ⟨1, 0, none⟩ = some (.iface 117 (.pointer (some a))) := (N2.cell 1 0 (by omega)).trans hr1
          have hq5 : w2.cell? ⟨5, 0, none⟩ = some (.iface 117 (.pointer (some a5))) := (N2.cell 5 0 (by omega)).trans hr5
          clear R2 N2 hr1 hr5
          by_cases h0 : k = 0
          · subst h0
            have him0 := (HS2.out.core.ik rfl).1
            subst him0
            have HT := tail0 HS2.out HE.out
            go_wp2_with fail
            refine bodyPost_ret (results_tmp4 rfl _ _ _) rfl ⟨u0, 0, .iface 117 (.pointer (some a5)), rfl, rfl, HT⟩
          · have h0b : ((k : Int) == 0) = false := by simp; omega
            by_cases hi0 : im = 0
            · subst hi0
              have HT := tail0 HS2.out HE.out
              go_wp2_with fail
              refine bodyPost_ret (results_tmp4 rfl _ _ _) rfl ⟨u0, k, .nilIface, rfl, (if_neg h0).symm, HT⟩
            · have hi0' : (0 : Int) < (im : Int) := by omega
              go_wp2_with fail
              refine (pow10_any im (by omega) _).mono ?_
              rintro e w3 ⟨q3, rfl, hw3, hq3⟩
              rw [hw3]
              go_wp2_with fail
              refine (mulAddWW_any (rb + 1) u0 ws q3 qn _ HS2.out.rd.lt (q3_small hq3.out (by omega)) (q3_pos hq3.out) (qn_small HS2.out.core) (by omega) HS2.out.nat).mono ?_
              rintro e w4 ⟨v4, rfl, hq4⟩
              have HT := tail1 HS2.out HE.out hq3.out hq4.out
              go_wp2_with fail
              refine bodyPost_ret (results_tmp4 rfl _ _ _) rfl ⟨v4, k, .nilIface, rfl, (if_neg h0).symm, HT⟩
    · have hb95 : (pv == 95) = false := by simpa using hpv
      have HS : Hid (SI w rb st s k (st + k) u0 ws qn im wr) := S
      have hr1 : wr.cell? ⟨1, 0, none⟩ = some (.iface 117 (.pointer (some a))) := (S.below.cell (p := ⟨1, 0, none⟩) (by show 1 < rb; omega)).trans hg
      have hr5 : wr.cell? ⟨5, 0, none⟩ = some (.iface 117 (.pointer (some a5))) := (S.below.cell (p := ⟨5, 0, none⟩) (by show 5 < rb; omega)).trans hg5
      have heq := eql_eof a
      have hkb : k ≤ 1024 := by omega
      clear S
      by_cases h0 : k = 0
      · subst h0
        have him := (HS.out.core.ik rfl).1
        subst him
        have HT := tail0 HS.out (fun h => by omega)
        go_wp2_with fail
        refine bodyPost_ret (results_tmp4 rfl _ _ _) rfl ⟨u0, 0, .iface 117 (.pointer (some a5)), rfl, rfl, HT⟩
      · have h0b : ((k : Int) == 0) = false := by simp; omega
        by_cases hi0 : im = 0
        · subst hi0
          have HT := tail0 HS.out (fun h => by omega)
          go_wp2_with fail
          refine bodyPost_ret (results_tmp4 rfl _ _ _) rfl ⟨u0, k, .nilIface, rfl, (if_neg h0).symm, HT⟩
        · have him : im < 19 := HS.out.core.il
          have hi0' : (0 : Int) < (im : Int) := by omega
          go_wp2_with fail
          refine (pow10_any im (by omega) _).mono ?_
          rintro e w3 ⟨q3, rfl, rfl, hq3⟩
          go_wp2_with fail
          refine (mulAddWW_any (rb + 1) u0 ws q3 qn _ HS.out.rd.lt (q3_small hq3.out (by omega)) (q3_pos hq3.out) (qn_small HS.out.core) (by have := HS.out.core.wlen; omega) HS.out.nat).mono ?_
          rintro e w4 ⟨v4, rfl, hq4⟩
          have HT := tail1 HS.out (fun h => by omega) hq3.out hq4.out
          go_wp2_with fail
          refine bodyPost_ret (results_tmp4 rfl _ _ _) rfl ⟨v4, k, .nilIface, rfl, (if_neg h0).symm, HT⟩
end Go.Proofs.YbulkmjkFmt
