import Derived.Test.YbulkmjyWalk
import Derived.ProofKit
import Derived.OpenShut
import Derived.ShutString
import Derived.SliceStrings
import Derived.Carry
namespace Go.Proofs.Ybulkmjy.lawS0648BStop
open Go.ChangeShapes Go.WideShapes Go.ChangeAt Go.RowKit
open Go.ChangeMaps (open_string shut_string)

theorem own : ownKnob Yba.prog.godebug = none := by kernel_rfl
theorem laidOut : laidOutB Yba.prog = true := by kernel_rfl
theorem cells9 : Yba.prog.cellsOf 9 = 1 := by kernel_rfl
theorem cells5 : Yba.prog.cellsOf 5 = 1 := by kernel_rfl

section
variable {H : Type} {enc : TypeId × Value → H} {W : World}

/-- the first argument, a row of strings, opened -/
theorem openK {a : Option Addr} {n c : Nat} {d : DataW H} {ps : List MemPlace} (h : DataW.Trod enc Yba.prog W 0 (fun _ => true) true 22 (.slice a n c) d ps) :
    ∃ kinds : Nat → ByteArray, (0 < n → ∃ ad, a = some ad) ∧ (∀ ad, a = some ad → 0 < n → ad.block < W.heap.size) ∧ (∀ ad j, a = some ad → j < n → W.cell? (ad.add j) = some (.string (kinds j))) := by
  obtain ⟨fuel, hf⟩ := h
  rcases open_strings Yba.underlying22 Yba.underlying9 cells9 hf with ⟨hcs, _⟩ | ⟨a', n', c', ss, hcs, _, hl, _, hz, _, hcell, _⟩
  · simp [Value.cells] at hcs
    obtain ⟨rfl, rfl, rfl⟩ := hcs
    exact ⟨fun _ => ⟨#[]⟩, fun h => absurd h (by omega), (fun _ h => by cases h), (fun _ _ h => by cases h)⟩
  · simp [Value.cells] at hcs
    obtain ⟨rfl, rfl, rfl⟩ := hcs
    simp only [if_true] at hz
    have hc : ∀ ad j, some a' = some ad → j < n → W.cell? (ad.add j) = some (.string (ss.getD j ByteArray.empty)) := fun ad j e hj => by
      cases e
      exact hcell j (by omega)
    refine ⟨fun j => ss.getD j ByteArray.empty, fun _ => ⟨_, rfl⟩, fun ad e h0 => ?_, hc⟩
    have := World.block_lt_of_cell? _ _ (hc ad 0 e h0)
    simpa [add_block] using this

/-- the second, a row of bytes -/
theorem openC {a : Option Addr} {n c : Nat} {d : DataW H} {ps : List MemPlace} (h : DataW.Trod enc Yba.prog W 0 (fun _ => true) true 23 (.slice a n c) d ps) :
    ∃ cn : Nat → Int, (0 < n → ∃ ad, a = some ad) ∧ (∀ ad, a = some ad → 0 < n → ad.block < W.heap.size) ∧ (∀ ad j, a = some ad → j < n → W.cell? (ad.add j) = some (.int .u8 (cn j))) ∧ ∀ j, 0 ≤ cn j ∧ cn j < 256 := by
  obtain ⟨fuel, hf⟩ := h
  rcases open_ints Yba.underlying23 Yba.underlying5 cells5 hf with ⟨hcs, _⟩ | ⟨a', n', c', zs, hcs, _, hl, _, hz, _, hcell, hwz⟩
  · simp [Value.cells] at hcs
    obtain ⟨rfl, rfl, rfl⟩ := hcs
    exact ⟨fun _ => 0, fun h => absurd h (by omega), (fun _ h => by cases h), (fun _ _ h => by cases h), fun _ => by simp⟩
  · simp [Value.cells] at hcs
    obtain ⟨rfl, rfl, rfl⟩ := hcs
    simp only [if_true] at hz
    have hc : ∀ ad j, some a' = some ad → j < n → W.cell? (ad.add j) = some (.int .u8 (zs[j]?.getD 0)) := fun ad j e hj => by
      cases e
      simpa [List.getD] using hcell j (by omega)
    refine ⟨fun j => zs[j]?.getD 0, fun _ => ⟨_, rfl⟩, fun ad e h0 => ?_, hc, fun j => by have := range_u8 hwz j; exact ⟨this.1, Int.lt_of_le_of_lt this.2 (by decide)⟩⟩
    have := World.block_lt_of_cell? _ _ (hc ad 0 e h0)
    simpa [add_block] using this
end

set_option maxRecDepth 100000 in
theorem lifted (os : Os) (started : os.Started) (H : Type) (enc : TypeId × Value → H) :
    ReturnsInHanded {} Yba.checked os 3 .any (Rows.lawS0648BStopSpec.pre6 enc Yba.prog Yba.f3 Rows.lawS0648BStopRow.domain false) (Rows.lawS0648BStopSpec.post enc Yba.prog Yba.f3 false true false false) := by
  refine returnsInHanded_of_change (C := Yba.checked) own started (by kernel_rfl) Yba.func3
    (ChangeSpec.witness6 (enc := enc) (C := Yba.checked) false ⟨#[], #[.slice none 0 0, .slice none 0 0, .int .u8 0, .bool false, .string ⟨#[]⟩], []⟩ 8 (by kernel_rfl) (by kernel_rfl) (by kernel_rfl) (by kernel_rfl)) ?_
  intro W base args ds gs before hval0 hW hcnd _
  have hval : ∀ (j : Nat) t v, Yba.f3.params[j]? = some t → args[j]? = some v → Value.okWide Yba.prog W .any base t v := hval0
  have hW' := hW
  obtain ⟨p, q, hA0, hV, rfl, hfz, hnd⟩ := hW
  have hA : DataW.TrodAll enc Yba.prog W 0 (fun _ => true) true Yba.f3.params.toList args.toList ds p := hA0
  rw [Yba.params3] at hA hval
  obtain ⟨v0, vs0, d0, ds0, p0, q0, hargs, rfl, rfl, h0, r0⟩ := trodAll_cons hA
  obtain ⟨v1, vs1, d1, ds1, p1, q1, rfl, rfl, rfl, h1, r1⟩ := trodAll_cons r0
  obtain ⟨v2, vs2, d2, ds2, p2, q2, rfl, rfl, rfl, h2, r2⟩ := trodAll_cons r1
  obtain ⟨v3, vs3, d3, ds3, p3, q3, rfl, rfl, rfl, h3, r3⟩ := trodAll_cons r2
  obtain ⟨v4, vs4, d4, ds4, p4, q4, rfl, rfl, rfl, h4, r4⟩ := trodAll_cons r3
  obtain ⟨rfl, rfl, rfl⟩ := trodAll_nil r4
  obtain rfl : args = #[v0, v1, v2, v3, v4] := by cases args; simp_all
  obtain ⟨rfl, rfl⟩ := trodVars_none hV
  obtain ⟨a2, rfl, rfl, rfl, w2⟩ := open_int Yba.underlying5 (hval 2 5 v2 rfl rfl) h2
  obtain ⟨st, rfl, rfl, rfl⟩ := open_bool Yba.underlying4 (hval 3 4 v3 rfl rfl) h3
  obtain ⟨id, rfl, rfl, rfl, w4⟩ := open_string Yba.underlying9 (hval 4 9 v4 rfl rfl) h4
  obtain ⟨ka, n, kc, rfl⟩ := okWide_slice Yba.underlying22 (hval 0 22 v0 rfl rfl)
  obtain ⟨ca, nc, cc, rfl⟩ := okWide_slice Yba.underlying23 (hval 1 23 v1 rfl rfl)
  clear hA0 hval0
  simp only [List.append_nil] at hW'
  have hlt0 : ∀ x ∈ p0, x.block < W.heap.size := fun x hx => by simpa using hW'.lt x (by simp [hx])
  have hlt1 : ∀ x ∈ p1, x.block < W.heap.size := fun x hx => by simpa using hW'.lt x (by simp [hx])
  obtain ⟨kinds, hka, hkb, hkc⟩ := openK h0
  obtain ⟨cn, hca, hcb, hcc, hcr⟩ := openC h1
  have hr := bounds_u8 w2
  obtain ⟨pk, rfl⟩ := Int.eq_ofNat_of_zero_le hr.1
  have hpk : pk < 256 := by omega
  refine (stop_any ka ca n kc nc cc pk st id W kinds hka hkb hkc cn hca hcb hcc hcr hpk).mono fun e W' ⟨he, hg⟩ => ?_
  subst he
  have t0 := Below.trod laidOut (by kernel_rfl) (of_decide_eq_true (by kernel_rfl)) h0 hg hlt0
  have t1 := Below.trod laidOut (by kernel_rfl) (of_decide_eq_true (by kernel_rfl)) h1 hg hlt1
  exact ⟨_, rfl, _, _, _, [], p0 ++ (p1 ++ []), [], hW', (trodAll_cons_mk (shut_bool Yba.underlying4 _) trodAll_mk0), (trodAll_cons_mk t0 (trodAll_cons_mk t1 (trodAll_cons_mk (shut_int Yba.underlying5 w2) (trodAll_cons_mk (shut_bool Yba.underlying4 _) (trodAll_cons_mk (shut_string Yba.underlying9 w4) trodAll_mk0))))), rfl, hg.frame _, fun h => by cases h⟩

theorem over : Rows.lawS0648BStopRow.holds Yba.pinned (OpenSpec.ofChange Rows.lawS0648BStopSpec) :=
  OpenClaim.holds_of_wide 3 Yba.f3 rfl rfl rfl rfl rfl rfl rfl ⟨rfl, rfl, rfl, rfl, rfl⟩ rfl rfl rfl rfl rfl (by kernel_rfl) Yba.func3 (by kernel_rfl)
    (of_decide_eq_true (by kernel_rfl)) (by unfold Func.isWrapper; first | (rw [if_pos (by decide +kernel)]; kernel_rfl) | (rw [if_neg (by decide +kernel)]; exact ⟨rfl, rfl⟩))
    (fun os started H enc _ => lifted os started H enc)

theorem proved : Rows.LawS0648BStopSaid :=
  over
end Go.Proofs.Ybulkmjy.lawS0648BStop
