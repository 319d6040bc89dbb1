import Derived.Test.YbulkmjkFmtKnown
namespace Go.Proofs.YbulkmjkFmt
open Go.RowKit

set_option maxRecDepth 100000 in
set_option maxHeartbeats 4000000 in
theorem law_plus (s : ByteArray) (a a5 : Addr) (w : World) (hg : w.cell? ⟨1, 0, none⟩ = some (.iface 117 (.pointer (some a)))) (hg5 : w.cell? ⟨5, 0, none⟩ = some (.iface 117 (.pointer (some a5)))) (hs : s.size ≤ 1024) (h0 : 0 < s.size) (hp : s[0].toNat = 43) :
    Calls Ybaf.prog 3 #[.string s] w fun e w' => e = .returned (.bool true) ∧ Below w.heap.size w w' := by
  have hs' : ¬ (1024 : Int) < (s.size : Int) := by omega
  have hnil1 := eql_nil_slice
  have hnil2 := neq_nil_slice
  have h0' : (0 : Int) < (s.size : Int) := by omega
  have est : signAt s = 1 := by simp [signAt, h0, hp]
  have eng : negAt s = false := by simp [negAt, hp]
  go_enter Ybaf.func3, Ybaf.ntmps3
  go_wp2_with fail
  refine (readCount_any s a a5 w hg hg5 hs).mono ?_
  rintro e w1 (⟨rfl, hgd, v, ws, B, d0, d1, d2, d3, d4⟩ | ⟨rfl, hng, d4⟩)
  · have HK : Hid (Known w w1 s (s.extract 1 s.size) false v ws B) := known_of est eng hgd d0 d1 d2 d3 d4 hs
    have hDs := extract_size s 1
    clear hgd d0 d1 d2 d3 d4
    go_wp2_with fail
    generalize s.extract 1 s.size = D at HK hDs ⊢
    rw [← hDs]
    clear hDs
    have hwt := HK.out.want
    have hD := HK.out.sz
    go_loop [9, 10, 11] (fun want nz j => ∃ k : Nat, k ≤ D.size ∧ j = .int .i64 k ∧ want = .bool (wantB D k) ∧ nz = .bool (nzB D k)) (fun _ _ j => D.size - (intOf j).toNat)
    case atStart => exact ⟨0, Nat.zero_le _, rfl, by rw [wantB_zero], by rw [nzB_zero]⟩
    case round =>
      obtain ⟨k, hk, rfl, rfl, rfl⟩ := hrel
      by_cases hlt : k < D.size
      · have hlt' : (k : Int) < (D.size : Int) := by omega
        have hws := wantB_succ D k hlt
        have hns := nzB_succ D k hlt
        by_cases hdg : isDig D[k]
        · have hB : digB D[k] = true := (digB_iff _).2 hdg
          obtain ⟨hd1, hd2⟩ := hdg
          rw [hB, Bool.and_true] at hws
          by_cases h48 : D[k].toNat = 48
          · have hns2 : nzB D (k + 1) = nzB D k := by rw [hns]; simp [h48]
            have HH : Hid (wantB D (k + 1) = wantB D k ∧ nzB D (k + 1) = nzB D k) := ⟨hws, hns2⟩
            clear hws hns hns2 hB
            go_wp2_with fail
            go_round
            case rel => exact ⟨k + 1, by omega, by go_num, by rw [HH.out.1], by rw [HH.out.2]⟩
            case measure => simp [intOf]; omega
          · have hns2 : nzB D (k + 1) = true := by rw [hns]; simp [h48]
            have b48 : (((D[k]).toNat : Int) != 48) = true := by simp; omega
            have e1 : ¬ ((D[k]).toNat : Int) < 48 := by omega
            have e2 : ¬ (57 : Int) < ((D[k]).toNat : Int) := by omega
            have HH : Hid (wantB D (k + 1) = wantB D k ∧ nzB D (k + 1) = true) := ⟨hws, hns2⟩
            clear hws hns hns2 hB
            go_wp2_with fail
            go_round
            case rel => exact ⟨k + 1, by omega, by go_num, by rw [HH.out.1], by rw [HH.out.2]⟩
            case measure => simp [intOf]; omega
        · have hB : digB D[k] = false := by
            cases h : digB D[k]
            · rfl
            · exact absurd ((digB_iff _).1 h) hdg
          have h48 : ¬ D[k].toNat = 48 := fun h => hdg ⟨by omega, by omega⟩
          rw [hB, Bool.and_false] at hws
          have hns2 : nzB D (k + 1) = true := by rw [hns]; simp [h48]
          have b48 : (((D[k]).toNat : Int) != 48) = true := by simp; omega
          have HH : Hid (wantB D (k + 1) = false ∧ nzB D (k + 1) = true) := ⟨hws, hns2⟩
          have hcl : D[k].toNat < 48 ∨ 57 < D[k].toNat := by
            unfold isDig at hdg
            omega
          clear hws hns hns2 hB hdg
          rcases hcl with hcl | hcl
          · have e1 : ((D[k]).toNat : Int) < 48 := by omega
            go_wp2_with fail
            go_round
            case rel => exact ⟨k + 1, by omega, by go_num, by rw [HH.out.1], by rw [HH.out.2]⟩
            case measure => simp [intOf]; omega
          · have e1 : ¬ ((D[k]).toNat : Int) < 48 := by omega
            have e2 : (57 : Int) < ((D[k]).toNat : Int) := by omega
            go_wp2_with fail
            go_round
            case rel => exact ⟨k + 1, by omega, by go_num, by rw [HH.out.1], by rw [HH.out.2]⟩
            case measure => simp [intOf]; omega
      · have hkD : k = D.size := by omega
        subst hkD
        have hlt' : ¬ (D.size : Int) < (D.size : Int) := by omega
        have HM : Hid (∀ c ∈ D.data.toList, isDig c) := mem_digs HK.out.digs
        by_cases h18 : D.size ≤ 18
        · have h18' : (D.size : Int) ≤ 18 := by omega
          go_wp2_with fail
          go_loop [13, 14] (fun v j => ∃ k q : Nat, k ≤ D.size ∧ j = .int .i64 k ∧ v = .int .i64 q ∧ Hid (q = dec (D.data.toList.take k))) (fun _ j => D.size - (intOf j).toNat)
          case atStart => exact ⟨0, 0, Nat.zero_le _, rfl, rfl, by show 0 = _; simp [dec]⟩
          case round =>
            obtain ⟨k, q, hk, rfl, rfl, hq⟩ := hrel
            by_cases hlt : k < D.size
            · have hlt' : (k : Int) < (D.size : Int) := by omega
              have hq1 : q < 100000000000000000 := by rw [hq.out]; exact decT_small D k HM.out (by omega)
              have HD := HK.out.digs k hlt
              obtain ⟨hd1, hd2⟩ := HD
              have E1 : Hid (((q : Int) * 10 + (((D[k]).toNat : Int) - 48)) = ((q * 10 + ((D[k]).toNat - 48) : Nat) : Int)) := by show _ = _; omega
              have E2 : Hid (q * 10 + ((D[k]).toNat - 48) = dec (D.data.toList.take (k + 1))) := by show _ = _; rw [decT_succ D k hlt, hq.out]
              go_wp2_with fail
              go_round
              case rel => exact ⟨k + 1, _, by omega, by go_num, congrArg (Value.int .i64) E1.out, E2⟩
              case measure => simp [intOf]; omega
            · have hkD : k = D.size := by omega
              subst hkD
              have hlt' : ¬ (D.size : Int) < (D.size : Int) := by omega
              have hqN : q = dec D.data.toList := by rw [hq.out, List.take_of_length_le (by simp)]
              have HQ : Hid (q = dec D.data.toList ∧ q < 1000000000000000000) := ⟨hqN, by rw [hqN]; exact decD_small D HM.out h18⟩
              have hqb : q < 1000000000000000000 := HQ.out.2
              clear hqN hq
              go_wp2_with fail
              have HI := HK.out.int
              have hlt1 := HI.lt
              have hbW := (Below.refl w1.heap.size w1).alloc (Nat.le_refl _) (Obj.cells #[.int .u8 3, .slice none 0 0, .pointer (some ⟨w.heap.size + 1, 0, none⟩)] 26)
              have hc2 : (w1.alloc (Obj.cells #[.int .u8 3, .slice none 0 0, .pointer (some ⟨w.heap.size + 1, 0, none⟩)] 26)).cell? ⟨w1.heap.size, 2, none⟩ = some (.pointer (some ⟨w.heap.size + 1, 0, none⟩)) := by go_simp
              have hsW : (w1.alloc (Obj.cells #[.int .u8 3, .slice none 0 0, .pointer (some ⟨w.heap.size + 1, 0, none⟩)] 26)).heap.size = w1.heap.size + 1 := by simp
              generalize (w1.alloc (Obj.cells #[.int .u8 3, .slice none 0 0, .pointer (some ⟨w.heap.size + 1, 0, none⟩)] 26)) = W at hbW hc2 hsW ⊢
              have HW : Hid (Below w1.heap.size w1 W ∧ W.heap.size = w1.heap.size + 1) := ⟨hbW, hsW⟩
              clear hbW hsW HI
              have HA : Hid (Calls Ybaf.prog 8 #[.int .i64 (q : Int)] W.drew fun e w2 => ∃ yb, e = .returned (.pointer (some ⟨yb, 0, none⟩)) ∧ w2.cell? ⟨w1.heap.size, 2, none⟩ = some (.pointer (some ⟨w.heap.size + 1, 0, none⟩)) ∧
                Hid ((Calls Ybaf.prog 7 #[.pointer (some ⟨w.heap.size + 1, 0, none⟩), .pointer (some ⟨yb, 0, none⟩)] w2 fun e w' => e = .returned (.int .i64 0) ∧ ∃ n, w' = w2.drewN n) ∧ ∀ n, Below w.heap.size w (w2.drewN n))) := newInt_arm HK.out h18 HQ.out.1 HQ.out.2 HW.out.1 HW.out.2 (Or.inl rfl) (by simp) hc2
              go_region_with (first
                | (go_at_call 8; refine HA.out.mono ?_; rintro e w2 ⟨yb, rfl, hc3, HC⟩)
                | (go_at_call 7; refine HC.out.1.mono ?_; rintro e w3 ⟨rfl, n3, rfl⟩))
              all_goals
                go_wp2
                go_ret
                exact ⟨rfl, HC.out.2 _⟩
        · have h18' : ¬ (D.size : Int) ≤ 18 := by omega
          have HV : ∃ b c, v = .slice b ws.length c := by
            rcases HK.out.nat.2.2 with ⟨rfl, rfl⟩ | ⟨g, cap, rfl, _⟩
            · exact ⟨_, _, rfl⟩
            · exact ⟨_, _, rfl⟩
          obtain ⟨b, c, rfl⟩ := HV
          have hbb := HK.out.below
          have HB : Hid (Below w.heap.size w w1) := hbb
          clear hbb
          cases hnz : nzB D D.size
          · have hl0 := HK.out.nz.1 hnz
            go_wp2_with fail
            refine (sign_any (w.heap.size + 1) _ b ws.length c _ (HK.out.int.below ((Below.refl w1.heap.size w1).alloc (Nat.le_refl _) _) HK.out.int.lt)).mono ?_
            rintro e w2 ⟨rfl, rfl⟩
            rw [if_pos hl0]
            go_wp2_with fail
            go_ret
            exact ⟨rfl, HB.out.alloc HB.out.size _⟩
          · have hl0 : ¬ ws.length = 0 := fun h => by rw [HK.out.nz.2 h] at hnz; cases hnz
            have hl1 : decide (0 < ws.length) = true := by simp; omega
            go_wp2_with fail
            refine (sign_any (w.heap.size + 1) _ b ws.length c _ (HK.out.int.below ((Below.refl w1.heap.size w1).alloc (Nat.le_refl _) _) HK.out.int.lt)).mono ?_
            rintro e w2 ⟨rfl, rfl⟩
            rw [if_neg hl0, hl1]
            go_wp2_with fail
            go_ret
            exact ⟨rfl, HB.out.alloc HB.out.size _⟩
  · have HN : Hid (wantB (s.extract 1 s.size) (s.extract 1 s.size).size = false) := not_good est (by omega) hng
    have hDs := extract_size s 1
    have HB : Hid (Below w.heap.size w w1) := d4
    clear hng d4
    go_wp2_with fail
    generalize s.extract 1 s.size = D at HN hDs ⊢
    have hD : D.size ≤ 1024 := by omega
    rw [← hDs]
    clear hDs
    go_loop [9, 10, 11] (fun want nz j => ∃ k : Nat, k ≤ D.size ∧ j = .int .i64 k ∧ want = .bool (wantB D k) ∧ nz = .bool (nzB D k)) (fun _ _ j => D.size - (intOf j).toNat)
    case atStart => exact ⟨0, Nat.zero_le _, rfl, by rw [wantB_zero], by rw [nzB_zero]⟩
    case round =>
      obtain ⟨k, hk, rfl, rfl, rfl⟩ := hrel
      by_cases hlt : k < D.size
      · have hlt' : (k : Int) < (D.size : Int) := by omega
        have hws := wantB_succ D k hlt
        have hns := nzB_succ D k hlt
        by_cases hdg : isDig D[k]
        · have hB : digB D[k] = true := (digB_iff _).2 hdg
          obtain ⟨hd1, hd2⟩ := hdg
          rw [hB, Bool.and_true] at hws
          by_cases h48 : D[k].toNat = 48
          · have hns2 : nzB D (k + 1) = nzB D k := by rw [hns]; simp [h48]
            have HH : Hid (wantB D (k + 1) = wantB D k ∧ nzB D (k + 1) = nzB D k) := ⟨hws, hns2⟩
            clear hws hns hns2 hB
            go_wp2_with fail
            go_round
            case rel => exact ⟨k + 1, by omega, by go_num, by rw [HH.out.1], by rw [HH.out.2]⟩
            case measure => simp [intOf]; omega
          · have hns2 : nzB D (k + 1) = true := by rw [hns]; simp [h48]
            have b48 : (((D[k]).toNat : Int) != 48) = true := by simp; omega
            have e1 : ¬ ((D[k]).toNat : Int) < 48 := by omega
            have e2 : ¬ (57 : Int) < ((D[k]).toNat : Int) := by omega
            have HH : Hid (wantB D (k + 1) = wantB D k ∧ nzB D (k + 1) = true) := ⟨hws, hns2⟩
            clear hws hns hns2 hB
            go_wp2_with fail
            go_round
            case rel => exact ⟨k + 1, by omega, by go_num, by rw [HH.out.1], by rw [HH.out.2]⟩
            case measure => simp [intOf]; omega
        · have hB : digB D[k] = false := by
            cases h : digB D[k]
            · rfl
            · exact absurd ((digB_iff _).1 h) hdg
          have h48 : ¬ D[k].toNat = 48 := fun h => hdg ⟨by omega, by omega⟩
          rw [hB, Bool.and_false] at hws
          have hns2 : nzB D (k + 1) = true := by rw [hns]; simp [h48]
          have b48 : (((D[k]).toNat : Int) != 48) = true := by simp; omega
          have HH : Hid (wantB D (k + 1) = false ∧ nzB D (k + 1) = true) := ⟨hws, hns2⟩
          have hcl : D[k].toNat < 48 ∨ 57 < D[k].toNat := by
            unfold isDig at hdg
            omega
          clear hws hns hns2 hB hdg
          rcases hcl with hcl | hcl
          · have e1 : ((D[k]).toNat : Int) < 48 := by omega
            go_wp2_with fail
            go_round
            case rel => exact ⟨k + 1, by omega, by go_num, by rw [HH.out.1], by rw [HH.out.2]⟩
            case measure => simp [intOf]; omega
          · have e1 : ¬ ((D[k]).toNat : Int) < 48 := by omega
            have e2 : (57 : Int) < ((D[k]).toNat : Int) := by omega
            go_wp2_with fail
            go_round
            case rel => exact ⟨k + 1, by omega, by go_num, by rw [HH.out.1], by rw [HH.out.2]⟩
            case measure => simp [intOf]; omega
      · have hkD : k = D.size := by omega
        subst hkD
        have hlt' : ¬ (D.size : Int) < (D.size : Int) := by omega
        have hwt := HN.out
        go_wp2_with fail
        go_ret
        exact ⟨rfl, HB.out.alloc HB.out.size _⟩
end Go.Proofs.YbulkmjkFmt
