import Derived.Test.YbulkmjyP2
namespace Go.Proofs.Ybulkmjy
open Go.RowKit

set_option maxRecDepth 100000 in
set_option maxHeartbeats 1000000 in
theorem stop_fresh (ka ca : Option Addr) (n kc nc cc : Nat) (p : Nat) (stale : Bool) (id : ByteArray) (w : World) (hn : n ≤ 1024) (kinds : Nat → ByteArray)
    (hka : 0 < n → ∃ ad, ka = some ad) (hkb : ∀ ad, ka = some ad → 0 < n → ad.block < w.heap.size) (hkc : ∀ ad j, ka = some ad → j < n → w.cell? (ad.add j) = some (.string (kinds j)))
    (cn : Nat → Int) (hca : 0 < nc → ∃ ad, ca = some ad) (hcb : ∀ ad, ca = some ad → 0 < nc → ad.block < w.heap.size) (hcc : ∀ ad j, ca = some ad → j < nc → w.cell? (ad.add j) = some (.int .u8 (cn j))) (hcr : ∀ j, 0 ≤ cn j ∧ cn j < 256) (hp : p < 256) (h0 : 0 < n) (hst : stale = false) :
    Calls Yba.prog 3 #[.slice ka n kc, .slice ca nc cc, .int .u8 (p : Int), .bool stale, .string id] w fun e w' => e = .returned (.bool true) ∧ Below w.heap.size w w' := by
  subst hst
  obtain ⟨i1, hi1, hz1, hs1, hb1⟩ := info_parts info99
  obtain ⟨i2, hi2, hz2, hs2, hb2⟩ := info_parts info100
  have hmk1 := fun w => run_make (P := Yba.prog) w 96 99 i1 _ Yba.underlying96 hi1 hz1 .i64 .i64 n n (by omega) (by omega) (by rw [hb1]; omega) (by omega)
  have hmk2 := fun w => run_make (P := Yba.prog) w 97 100 i2 _ Yba.underlying97 hi2 hz2 .i64 .i64 n n (by omega) (by omega) (by rw [hb2]; omega) (by omega)
  rw [hs1] at hmk1
  rw [hs2] at hmk2
  simp only [Int.toNat_natCast] at hmk1 hmk2
  have hn' : ¬ (1024 : Int) < (n : Int) := by omega
  obtain ⟨cs, z1, z36, z37, hbld⟩ := build95
  have hmm := run_makeMap63
  go_enter Yba.func3, Yba.ntmps3
  go_wp2_with (refine wpList_build95 _ rfl rfl cs hbld ?_)
  have S0 := L1.start w n kinds id cs #[.string ⟨#[]⟩, .string ⟨#[]⟩, .string ⟨#[]⟩, .string ⟨#[]⟩] #[.pointer none] z1 z36 z37
  generalize (((w.alloc (Obj.cells (cs.setIfInBounds 36 (.map (some (w.heap.size + 1)))) 95)).alloc (Obj.map #[] 0)).alloc (Obj.cells (madeCells #[.string ⟨#[]⟩, .string ⟨#[]⟩, .string ⟨#[]⟩, .string ⟨#[]⟩] (n * 4)) 99)).alloc (Obj.cells (madeCells #[.pointer none] n) 100) = W0 at S0 ⊢
  have HS0 : Hid (L1 w w.heap.size n kinds id 0 [] 0 W0) := S0
  clear S0 hmk1 hmm hbld
  go_loopw [15] (fun i wr => ∃ (k c : Nat) (m : List Ent), i = .int .i64 k ∧ L1 w w.heap.size n kinds id k m c wr) (fun i _ => n - (intOf i).toNat)
  case atStart => exact ⟨0, 0, [], rfl, HS0.out⟩
  case round =>
    obtain ⟨k, c, m, rfl, S⟩ := hrel
    by_cases hlt : k < n
    · have hlt' : (k : Int) < (n : Int) := by omega
      have HS : Hid (L1 w w.heap.size n kinds id k m c wr) := S
      obtain ⟨ad, rfl⟩ := hka (by omega)
      have hkd : wr.cell? (ad.add k) = some (.string (kinds k)) := (S.below.cell (p := ad.add k) (by rw [add_block]; exact hkb ad rfl (by omega))).trans (hkc ad k rfl hlt)
      obtain ⟨y0, x0⟩ := S.selX (k * 4) (by omega)
      obtain ⟨y1, x1⟩ := S.selX (k * 4 + 1) (by omega)
      obtain ⟨y2, x2⟩ := S.selX (k * 4 + 2) (by omega)
      obtain ⟨y3, x3⟩ := S.selX (k * 4 + 3) (by omega)
      have f0 := S.selF (k * 4)
      have f1 := S.selF (k * 4 + 1)
      have f2 := S.selF (k * 4 + 2)
      have f3 := S.selF (k * 4 + 3)
      obtain ⟨y4, x4⟩ := S.wsX k hlt
      have f4 := S.wsF k
      have hsz : w.heap.size + 1 + 1 + 1 < wr.heap.size := lt_of_cell x4
      have hcdw : ∀ ad2, ca = some ad2 → k < nc → wr.cell? (ad2.add k) = some (.int .u8 (cn k)) := fun ad2 e h => (S.below.cell (p := ad2.add k) (by rw [add_block]; exact hcb ad2 e (by omega))).trans (hcc ad2 k e h)
      clear S
      by_cases hcn : k < nc
      · have hcn' : (k : Int) < (nc : Int) := by omega
        obtain ⟨ad2, rfl⟩ := hca (by omega)
        have hcd : wr.cell? (ad2.add k) = some (.int .u8 (cn k)) := hcdw ad2 rfl hcn
        have hc1 := hcr k
        go_wp2_with fail
        have R := rx_facts HS.out hlt (1 + cn k % 4)
        unfold rx at R
        generalize (((((wr.setCell ⟨w.heap.size + 1 + 1, k * 4, none⟩ (.string (kinds k))).setCell ⟨w.heap.size + 1 + 1, k * 4 + 1, none⟩ (.string id)).setCell ⟨w.heap.size + 1 + 1, k * 4 + 2, none⟩ (.string ⟨#[]⟩)).setCell ⟨w.heap.size + 1 + 1, k * 4 + 3, none⟩ (.string ⟨#[]⟩)).setCell ⟨w.heap.size + 1 + 1 + 1, k, none⟩ (.pointer (some ⟨wr.heap.size, 0, none⟩))).alloc (Obj.cells #[.chan none, .int .i64 0, .int .i64 (1 + cn k % 4)] 102) = X at R ⊢
        have r0 := R.s0
        have r1 := R.s1
        have r2 := R.s2
        have r3 := R.s3
        have r4 := R.s4
        have r36 : X.cell? ⟨w.heap.size, 36, none⟩ = some (.map (some (w.heap.size + 1))) := (R.old w.heap.size 36 (by omega) (by omega) (by omega)).trans HS.out.sto.wa
        have hup : Sem.run Yba.prog (Instr.mapUpdate 63 (.map (some (w.heap.size + 1))) (.agg #[.string (kinds k), .string id, .string ⟨#[]⟩, .string ⟨#[]⟩]) (.pointer (some ⟨wr.heap.size, 0, none⟩))) X.drew = .ok () (setM X.drew (w.heap.size + 1) (.map ((upd m (kinds k) wr.heap.size c).map (toE id)).toArray (updC m (kinds k) c))) := run_update (w := X.drew) R.mp (kinds k) wr.heap.size
        have HR : Hid (RX w w.heap.size n kinds id k m c (1 + cn k % 4) wr X) := R
        clear hcd x0 x1 x2 x3 x4 f0 f1 f2 f3 f4 hkd R
        go_region
        go_wp2_with fail
        go_roundw
        case rel => exact ⟨k + 1, _, _, by go_num, HS.out.step HR.out hlt (by omega) (by omega)⟩
        case measure => simp [intOf]; omega
      · have hcn' : ¬ (k : Int) < (nc : Int) := by omega
        go_wp2_with fail
        have R := rx_facts HS.out hlt 1
        unfold rx at R
        generalize (((((wr.setCell ⟨w.heap.size + 1 + 1, k * 4, none⟩ (.string (kinds k))).setCell ⟨w.heap.size + 1 + 1, k * 4 + 1, none⟩ (.string id)).setCell ⟨w.heap.size + 1 + 1, k * 4 + 2, none⟩ (.string ⟨#[]⟩)).setCell ⟨w.heap.size + 1 + 1, k * 4 + 3, none⟩ (.string ⟨#[]⟩)).setCell ⟨w.heap.size + 1 + 1 + 1, k, none⟩ (.pointer (some ⟨wr.heap.size, 0, none⟩))).alloc (Obj.cells #[.chan none, .int .i64 0, .int .i64 1] 102) = X at R ⊢
        have r0 := R.s0
        have r1 := R.s1
        have r2 := R.s2
        have r3 := R.s3
        have r4 := R.s4
        have r36 : X.cell? ⟨w.heap.size, 36, none⟩ = some (.map (some (w.heap.size + 1))) := (R.old w.heap.size 36 (by omega) (by omega) (by omega)).trans HS.out.sto.wa
        have hup : Sem.run Yba.prog (Instr.mapUpdate 63 (.map (some (w.heap.size + 1))) (.agg #[.string (kinds k), .string id, .string ⟨#[]⟩, .string ⟨#[]⟩]) (.pointer (some ⟨wr.heap.size, 0, none⟩))) X.drew = .ok () (setM X.drew (w.heap.size + 1) (.map ((upd m (kinds k) wr.heap.size c).map (toE id)).toArray (updC m (kinds k) c))) := run_update (w := X.drew) R.mp (kinds k) wr.heap.size
        have HR : Hid (RX w w.heap.size n kinds id k m c 1 wr X) := R
        clear x0 x1 x2 x3 x4 f0 f1 f2 f3 f4 hkd R
        go_region
        go_wp2_with fail
        go_roundw
        case rel => exact ⟨k + 1, _, _, by go_num, HS.out.step HR.out hlt (by omega) (by omega)⟩
        case measure => simp [intOf]; omega
    · have hkn : k = n := by have := S.kn; omega
      subst hkn
      have hlt' : ¬ (k : Int) < (k : Int) := by omega
      have HS : Hid (L1 w w.heap.size k kinds id k m c wr) := S
      clear S
      have hk0' : ((k : Int) == 0) = false := by simp; omega
      have hkne : ¬ (k : Int) = 0 := by omega
      have hsz : w.heap.size + 1 + 1 + 1 < wr.heap.size := HS.out.last
      have hil : p % k < k := Nat.mod_lt _ h0
      have hsz2 : w.heap.size + 1 + 1 < wr.heap.size := by omega
      obtain ⟨a0, a1, a2, a3⟩ := HS.out.sel (p % k) hil
      obtain ⟨wb, q, a4, V, hq1, hq2, hbg⟩ := HS.out.ws (p % k) hil
      have HV : Hid (Wt wr wb q) := V
      have hvl := V.lt
      clear V
      go_wp2_with fail
      have hbw := (Below.refl wr.heap.size wr).alloc (Nat.le_refl _) (Obj.cells #[.string (kinds (p % k)), .string id, .string ⟨#[]⟩, .string ⟨#[]⟩] 99)
      have P : P2 w w.heap.size k kinds id m c wr.heap.size (kinds (p % k)) wb q 0 (wr.alloc (Obj.cells #[.string (kinds (p % k)), .string id, .string ⟨#[]⟩, .string ⟨#[]⟩] 99)) :=
        P2.of HS.out hbw _ hsz (by go_simp) (by go_simp) (by go_simp) (by go_simp) (HV.out.grow hbw hvl) hbg (by omega)
      have hW2' : (wr.alloc (Obj.cells #[.string (kinds (p % k)), .string id, .string ⟨#[]⟩, .string ⟨#[]⟩] 99)).heap.size = wr.heap.size + 1 := by simp
      clear hbw
      generalize wr.alloc (Obj.cells #[.string (kinds (p % k)), .string id, .string ⟨#[]⟩, .string ⟨#[]⟩] 99) = W2 at P hW2' ⊢
      have hW2 : W2.heap.size = wr.heap.size + 1 := hW2'
      rw [← hW2]
      clear hW2 hW2' hmk2 hk0' hkne a0 a1 a2 a3 a4 hil
      generalize wr.heap.size = sv at P ⊢
      obtain ⟨kd, P⟩ : ∃ (kd : ByteArray), P2 w w.heap.size k kinds id m c sv kd wb q 0 W2 := ⟨_, P⟩
      have HP : Hid (P2 w w.heap.size k kinds id m c sv kd wb q 0 W2) := P
      clear P
      have HU : Hid (Uniq m) := HS.out.uniq
      have hml : m.length ≤ k := HS.out.room
      clear HS HS0 hsz hlt
      go_loopw [21] (fun j wq => ∃ i : Nat, j = .int .i64 i ∧ L2 W2 k kinds m i wq) (fun j _ => k - (intOf j).toNat)
      case atStart => exact ⟨0, rfl, L2.start W2 k kinds m _⟩
      case round =>
        obtain ⟨i, rfl, S2⟩ := hrel
        by_cases hil2 : i < k
        · have hil' : (i : Int) < (k : Int) := by omega
          have P := HP.out.grow S2.below
          have b36 := P.sto.wa
          obtain ⟨s0, s1, s2, s3⟩ := P.sel i hil2
          obtain ⟨y, x⟩ := S2.pvX i hil2
          have fx := S2.pvF i
          have hlk : Sem.run Yba.prog (Instr.lookup 63 (.map (some (w.heap.size + 1))) (.agg #[.string (kinds i), .string id, .string ⟨#[]⟩, .string ⟨#[]⟩]) false) wr.drew = .ok (.pointer (adr (get m (kinds i)))) wr.drew := P.lookup (kinds i) 1
          have HS2 : Hid (L2 W2 k kinds m i wr) := S2
          clear S2 P
          go_wp2_with fail
          go_region
          go_wp2_with fail
          go_roundw
          case rel => exact ⟨i + 1, by go_num, HS2.out.step hil2 _ rfl⟩
          case measure => simp [intOf]; omega
        · have hik : i = k := by have := S2.jn; omega
          subst hik
          have hil' : ¬ (i : Int) < (i : Int) := by omega
          have P := HP.out.grow S2.below
          have b36 := P.sto.wa
          have b37 := P.sto.wt
          have e0 := P.v0
          have e1 := P.v1
          have e2 := P.v2
          have e3 := P.v3
          have bw := P.wtb.c2
          have hlk := fun n => P.lookup kd n
          have heq := fun n => P.eqlW kd n
          have hlen := fun n ty => P.len n ty
          have hgd := guard_ptr
          have HS2 : Hid (L2 W2 i kinds m i wr) := S2
          have HPP : Hid (P2 w w.heap.size i kinds id m c sv kd wb q 0 wr) := P
          clear S2 P
          by_cases hh : get m kd = some wb
          · rw [show decide (get m kd = some wb) = true from by simpa using hh] at heq
            have HH : Hid (get m kd = some wb) := hh
            clear hh
            go_wp2_with fail
            go_quiet (fail)
            go_wp2_with fail
            refine (stop_held w.heap.size (w.heap.size + 1) wb c 0 q id kd m (wr.drewN nq) (HPP.out.drewN nq).sto (HPP.out.drewN nq).wtb HH.out (by have := HPP.out.wgt; omega) hq1 hq2 rfl (by have := HPP.out.wgt; omega)).mono ?_
            rintro e w3 ⟨rfl, hpost⟩
            have R := stop_held_P3 HP.out (HS2.out.drewN nq) HU.out hpost
            clear hpost b36 b37 e0 e1 e2 e3 bw hlk heq hlen
            by_cases hq : q = 1
            · subst hq
              rw [if_pos rfl] at R
              have HR : Hid (P3 w w.heap.size i kinds id m (del m kd) c sv kd wb W2.heap.size 0 (-1) w3) := R
              clear R
              go_wp2_with fail
              go_loopw [27] (fun j wq => ∃ i3 x : Nat, i3 ≤ i ∧ j = .int .i64 i3 ∧ wq = w3.drewN x) (fun j _ => i - (intOf j).toNat)
              case atStart => exact ⟨0, 0, Nat.zero_le _, rfl, rfl⟩
              case round =>
                obtain ⟨i3, x3, h3, rfl, rfl⟩ := hrel
                by_cases hl3 : i3 < i
                · have hl3' : (i3 : Int) < (i : Int) := by omega
                  have P := HR.out.p2
                  have b36 := P.sto.wa
                  obtain ⟨s0, s1, s2, s3⟩ := P.sel i3 hl3
                  have e0 := P.v0
                  have e1 := P.v1
                  have e2 := P.v2
                  have e3 := P.v3
                  have pv := HR.out.pv i3 hl3
                  have hgs := guard_key
                  by_cases hkk : kinds i3 = kd
                  · have hkt : (kinds i3).toList = kd.toList := by rw [hkk]
                    clear P hkk
                    go_wp2_with fail
                    go_quiet (fail)
                    go_wp2_with fail
                    go_roundw
                    case rel => exact ⟨i3 + 1, _, by omega, by go_num, by first | rfl | simp only [World.drewN_drewN]; rfl⟩
                    case measure => simp [intOf]; omega
                  · have hkt := toList_ne hkk
                    have hlk := fun n => P.lookup (kinds i3) n
                    rw [show get (del m kd) (kinds i3) = get m (kinds i3) from by rw [get_del HU.out, if_neg hkk]] at hlk
                    have hnq := fun n => HR.out.neqSame (kinds i3) n
                    clear P hkk
                    go_wp2_with fail
                    go_quiet (fail)
                    go_wp2_with fail
                    go_quiet (fail)
                    go_wp2_with fail
                    go_roundw
                    case rel => exact ⟨i3 + 1, _, by omega, by go_num, by first | rfl | simp only [World.drewN_drewN]; rfl⟩
                    case measure => simp [intOf]; omega
                · have hl3' : ¬ (i3 : Int) < (i : Int) := by omega
                  have P := HR.out.p2
                  have b36 := P.sto.wa
                  have b37 := P.sto.wt
                  have e0 := P.v0
                  have e1 := P.v1
                  have e2 := P.v2
                  have e3 := P.v3
                  have bw := P.wtb.c2
                  have hlo := fun n => P.lookupOk kd n
                  have hlen := fun n ty => P.len n ty
                  rw [show get (del m kd) kd = none from by rw [get_del HU.out, if_pos rfl]] at hlo
                  have hld := length_del HH.out
                  have hlb : (((del m kd).length : Int) != (m.length : Int) - 1) = false := by simp; omega
                  have hml2 : m.length ≤ 1024 := by omega
                  have HBB : Hid (∀ n, Below w.heap.size w (w3.drewN n)) := fun n => (P.drewN n).below
                  clear P hld
                  go_wp2_with fail
                  go_quiet (fail)
                  go_wp2_with fail
                  go_ret
                  exact ⟨rfl, HBB.out _⟩
            · rw [if_neg hq] at R
              have HR : Hid (P3 w w.heap.size i kinds id m m c sv kd wb W2.heap.size (q - 1) (-1) w3) := R
              clear R
              go_wp2_with fail
              go_loopw [27] (fun j wq => ∃ i3 x : Nat, i3 ≤ i ∧ j = .int .i64 i3 ∧ wq = w3.drewN x) (fun j _ => i - (intOf j).toNat)
              case atStart => exact ⟨0, 0, Nat.zero_le _, rfl, rfl⟩
              case round =>
                obtain ⟨i3, x3, h3, rfl, rfl⟩ := hrel
                by_cases hl3 : i3 < i
                · have hl3' : (i3 : Int) < (i : Int) := by omega
                  have P := HR.out.p2
                  have b36 := P.sto.wa
                  obtain ⟨s0, s1, s2, s3⟩ := P.sel i3 hl3
                  have e0 := P.v0
                  have e1 := P.v1
                  have e2 := P.v2
                  have e3 := P.v3
                  have pv := HR.out.pv i3 hl3
                  have hgs := guard_key
                  by_cases hkk : kinds i3 = kd
                  · have hkt : (kinds i3).toList = kd.toList := by rw [hkk]
                    clear P hkk
                    go_wp2_with fail
                    go_quiet (fail)
                    go_wp2_with fail
                    go_roundw
                    case rel => exact ⟨i3 + 1, _, by omega, by go_num, by first | rfl | simp only [World.drewN_drewN]; rfl⟩
                    case measure => simp [intOf]; omega
                  · have hkt := toList_ne hkk
                    have hlk := fun n => P.lookup (kinds i3) n
              
                    have hnq := fun n => HR.out.neqSame (kinds i3) n
                    clear P hkk
                    go_wp2_with fail
                    go_quiet (fail)
                    go_wp2_with fail
                    go_quiet (fail)
                    go_wp2_with fail
                    go_roundw
                    case rel => exact ⟨i3 + 1, _, by omega, by go_num, by first | rfl | simp only [World.drewN_drewN]; rfl⟩
                    case measure => simp [intOf]; omega
                · have hl3' : ¬ (i3 : Int) < (i : Int) := by omega
                  have P := HR.out.p2
                  have b36 := P.sto.wa
                  have b37 := P.sto.wt
                  have e0 := P.v0
                  have e1 := P.v1
                  have e2 := P.v2
                  have e3 := P.v3
                  have bw := P.wtb.c2
                  have hlo := fun n => P.lookupOk kd n
                  have hlen := fun n ty => P.len n ty
                  rw [HH.out] at hlo
                  have hnw := fun n => HR.out.neqW n
                  have hadr : adr (some wb) = some ⟨wb, 0, none⟩ := rfl
                  rw [hadr] at hlo
                  have hqb : (q - 1 == 0) = false := by simp; omega
                  have HBB : Hid (∀ n, Below w.heap.size w (w3.drewN n)) := fun n => (P.drewN n).below
                  clear P hadr
                  go_wp2_with fail
                  go_quiet (fail)
                  go_wp2_with fail
                  go_ret
                  exact ⟨rfl, HBB.out _⟩
          · rw [show decide (get m kd = some wb) = false from by simpa using hh] at heq
            have HH : Hid (get m kd ≠ some wb) := hh
            clear hh
            go_wp2_with fail
            go_quiet (fail)
            go_wp2_with fail
            refine (stop_not w.heap.size (w.heap.size + 1) wb c 0 q id kd m (wr.drewN nq) (HPP.out.drewN nq).sto (HPP.out.drewN nq).wtb HH.out (by have := HPP.out.wgt; omega) (fun b hb => ((HPP.out.drewN nq).own kd b hb).1) (fun b hb => by have := (HPP.out.own kd b hb).2; omega)).mono ?_
            rintro e w3 ⟨rfl, hpost⟩
            have R := stop_not_P3 HP.out (HS2.out.drewN nq) hpost.out
            have HR : Hid (P3 w w.heap.size i kinds id m m c sv kd wb W2.heap.size q 0 w3) := R
            clear R hpost b36 b37 e0 e1 e2 e3 bw hlk heq hlen
            go_wp2_with fail
            go_loopw [27] (fun j wq => ∃ i3 x : Nat, i3 ≤ i ∧ j = .int .i64 i3 ∧ wq = w3.drewN x) (fun j _ => i - (intOf j).toNat)
            case atStart => exact ⟨0, 0, Nat.zero_le _, rfl, rfl⟩
            case round =>
              obtain ⟨i3, x3, h3, rfl, rfl⟩ := hrel
              by_cases hl3 : i3 < i
              · have hl3' : (i3 : Int) < (i : Int) := by omega
                have P := HR.out.p2
                have b36 := P.sto.wa
                obtain ⟨s0, s1, s2, s3⟩ := P.sel i3 hl3
                have e0 := P.v0
                have e1 := P.v1
                have e2 := P.v2
                have e3 := P.v3
                have pv := HR.out.pv i3 hl3
                have hgs := guard_key
                by_cases hkk : kinds i3 = kd
                · have hkt : (kinds i3).toList = kd.toList := by rw [hkk]
                  clear P hkk
                  go_wp2_with fail
                  go_quiet (fail)
                  go_wp2_with fail
                  go_roundw
                  case rel => exact ⟨i3 + 1, _, by omega, by go_num, by first | rfl | simp only [World.drewN_drewN]; rfl⟩
                  case measure => simp [intOf]; omega
                · have hkt := toList_ne hkk
                  have hlk := fun n => P.lookup (kinds i3) n
            
                  have hnq := fun n => HR.out.neqSame (kinds i3) n
                  clear P hkk
                  go_wp2_with fail
                  go_quiet (fail)
                  go_wp2_with fail
                  go_quiet (fail)
                  go_wp2_with fail
                  go_roundw
                  case rel => exact ⟨i3 + 1, _, by omega, by go_num, by first | rfl | simp only [World.drewN_drewN]; rfl⟩
                  case measure => simp [intOf]; omega
              · have hl3' : ¬ (i3 : Int) < (i : Int) := by omega
                have P := HR.out.p2
                have b36 := P.sto.wa
                have b37 := P.sto.wt
                have e0 := P.v0
                have e1 := P.v1
                have e2 := P.v2
                have e3 := P.v3
                have bw := P.wtb.c2
                have hlo := fun n => P.lookupOk kd n
                have hlen := fun n ty => P.len n ty
                have hns := fun n => HR.out.neqSame kd n
                have hnn := fun n => neq_nil (w3.drewN n) (get m kd)
                have HBB : Hid (∀ n, Below w.heap.size w (w3.drewN n)) := fun n => (P.drewN n).below
                clear P
                go_wp2_with fail
                go_quiet (fail)
                go_wp2_with fail
                go_ret
                exact ⟨rfl, HBB.out _⟩
end Go.Proofs.Ybulkmjy
