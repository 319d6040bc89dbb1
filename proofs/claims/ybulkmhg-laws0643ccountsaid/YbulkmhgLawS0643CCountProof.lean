import Derived.Test.YbulkmhgNow
import Derived.ProofKit
import Derived.OpenShut
import Derived.ShutString
namespace Go.Proofs.Ybulkmhg.lawS0643CCount
open Go.ChangeShapes Go.WideShapes Go.ChangeAt Go.RowKit
open Go.ChangeMaps (open_string shut_string)

theorem own : ownKnob Yba.prog.godebug = none := by kernel_rfl

theorem info67x : (Yba.prog.info? 67).map (fun i => (i.zero.isSome, i.size, i.bytes)) = some (true, 12, 160) := by kernel_rfl
theorem info67 : ∃ i z, Yba.prog.info? 67 = some i ∧ i.zero = some z ∧ i.size = 12 ∧ i.bytes = 160 := by
  have h := info67x
  cases hi : Yba.prog.info? 67 with
  | none => rw [hi] at h; cases h
  | some i =>
    rw [hi] at h
    simp only [Option.map_some, Option.some.injEq, Prod.mk.injEq] at h
    obtain ⟨h1, h2, h3⟩ := h
    obtain ⟨z, hz⟩ := Option.isSome_iff_exists.1 h1
    exact ⟨i, z, rfl, hz, h2, h3⟩

set_option maxRecDepth 100000 in
set_option maxHeartbeats 800000 in
theorem walk (a0 : Int) (w : World) :
    Calls Yba.prog 3 #[.int .i64 a0] w fun e w' => e = .returned (.bool true) ∧ Below w.heap.size w w' := by
  by_cases h0 : a0 < 0
  · go_enter Yba.func3, Yba.ntmps3
    go_wp2
    go_ret
    exact ⟨rfl, Below.refl _ _⟩
  by_cases h1 : 1024 < a0
  · go_enter Yba.func3, Yba.ntmps3
    go_wp2
    go_ret
    exact ⟨rfl, Below.refl _ _⟩
  obtain ⟨n, rfl⟩ := Int.eq_ofNat_of_zero_le (Int.not_lt.1 h0)
  have hn : n ≤ 1024 := by omega
  clear h0 h1
  have g0 : decide ((n : Int) < 0) = false := by simp
  have g1 : decide ((1024 : Int) < n) = false := by simp; omega
  obtain ⟨i, z, hi, hz, hsz, hby⟩ := info67
  have hmk := run_make (P := Yba.prog) w 23 67 i z Yba.underlying23 hi hz .i64 .i64 n (n + 1) (by omega) (by omega) (by rw [hby]; omega) (by omega)
  rw [Int.toNat_natCast] at hmk
  have hb1 := (Below.refl w.heap.size w).alloc (Nat.le_refl _) (.cells (madeCells z.cells (((n : Int) + 1).toNat * i.size)) 67)
  generalize (w.alloc (.cells (madeCells z.cells (((n : Int) + 1).toNat * i.size)) 67)) = w1 at hmk hb1
  have hs1 := hb1.size
  go_enter Yba.func3, Yba.ntmps3
  go_wp2_with fail
  refine (now_any w1.heap.size 0 (some ⟨w.heap.size, 0, none⟩) n (n + 1) (.int .i32 0) (.int .u32 0) (.int .u32 0) _ ?_ ?_ ?_ ?_ ?_ ?_ ?_).mono ?_
  · go_simp
  · go_simp
  · go_simp
  · go_simp
  · go_simp
  · go_simp
  · go_simp
  rintro e w2 ⟨rfl, hb2⟩
  go_wp2
  go_ret
  refine ⟨rfl, ?_⟩
  have h1 := (hb1.alloc hs1 (Obj.cells _ 58)).trans (hb2.mono hs1)
  exact h1.alloc h1.size _
set_option maxRecDepth 100000 in
theorem lifted (os : Os) (started : os.Started) (H : Type) (enc : TypeId × Value → H) :
    ReturnsInHanded {} Yba.checked os 3 .any (Rows.lawS0643CCountSpec.pre6 enc Yba.prog Yba.f3 Rows.lawS0643CCountRow.domain false) (Rows.lawS0643CCountSpec.post enc Yba.prog Yba.f3 false true false false) := by
  refine returnsInHanded_of_change (C := Yba.checked) own started (by kernel_rfl) Yba.func3
    (ChangeSpec.witness6 (enc := enc) (C := Yba.checked) false ⟨#[], #[.int .i64 0], []⟩ 8 (by kernel_rfl) (by kernel_rfl) (by kernel_rfl) (by kernel_rfl)) ?_
  intro W base args ds gs before hval0 hW hcnd _
  have hval : ∀ (j : Nat) t v, Yba.f3.params[j]? = some t → args[j]? = some v → Value.okWide Yba.prog W .any base t v := hval0
  have hW' := hW
  obtain ⟨p, q, hA0, hV, rfl, hfz, hnd⟩ := hW
  have hA : DataW.TrodAll enc Yba.prog W 0 (fun _ => true) true Yba.f3.params.toList args.toList ds p := hA0
  rw [Yba.params3] at hA hval
  obtain ⟨v0, vs0, d0, ds0, p0, q0, hargs, rfl, rfl, h0, r0⟩ := trodAll_cons hA
  obtain ⟨rfl, rfl, rfl⟩ := trodAll_nil r0
  obtain rfl : args = #[v0] := by cases args; simp_all
  obtain ⟨rfl, rfl⟩ := trodVars_none hV
  obtain ⟨a0, rfl, rfl, rfl, w0⟩ := open_int Yba.underlying3 (hval 0 3 v0 rfl rfl) h0
  clear hA0 hval0
  simp only [List.append_nil] at hW'
  refine (walk a0 W).mono fun e W' ⟨he, hg⟩ => ?_
  subst he
  exact ⟨_, rfl, _, _, _, [], [], [], hW', (trodAll_cons_mk (shut_bool Yba.underlying4 _) trodAll_mk0), (trodAll_cons_mk (shut_int Yba.underlying3 w0) trodAll_mk0), rfl, hg.frame _, fun h => by cases h⟩

theorem over : Rows.lawS0643CCountRow.holds Yba.pinned (OpenSpec.ofChange Rows.lawS0643CCountSpec) :=
  OpenClaim.holds_of_wide 3 Yba.f3 rfl rfl rfl rfl rfl rfl rfl ⟨rfl, rfl, rfl, rfl, rfl⟩ rfl rfl rfl rfl rfl (by kernel_rfl) Yba.func3 (by kernel_rfl)
    (of_decide_eq_true (by kernel_rfl)) (by unfold Func.isWrapper; first | (rw [if_pos (by decide +kernel)]; kernel_rfl) | (rw [if_neg (by decide +kernel)]; exact ⟨rfl, rfl⟩))
    (fun os started H enc _ => lifted os started H enc)

theorem proved : Rows.LawS0643CCountSaid :=
  over
end Go.Proofs.Ybulkmhg.lawS0643CCount
