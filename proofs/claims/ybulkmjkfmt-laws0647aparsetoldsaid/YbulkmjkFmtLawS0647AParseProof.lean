import Derived.Test.YbulkmjkFmtWalk
import Derived.Test.YbulkmjkFmtTie
import Derived.Test.YbulkmjkFmtCards
import Derived.ProofKit
import Derived.Stop.JoinedAt
import Derived.Stop.JoinedTold
import Derived.Stop.LaidErr
import Derived.Deep.DeepWitnessRowRef
import Derived.SevenTiedAt
import Derived.ShutString
namespace Go.Proofs.YbulkmjkFmt.lawS0647AParse
open Go.ChangeShapes Go.WideShapes Go.ChangeAt Go.RowKit Go.Kit
open Go.ChangeMaps (open_string shut_string)
open Go.Extern.Stop Go.Stop Go.Extern

theorem own : ownKnob Ybaf.prog.godebug = none := by kernel_rfl
theorem row117 (u : TypeId) (h : Ybaf.prog.typeName? 3 u = Ybaf.prog.typeName? 3 117) : u = 117 :=
  typeName_ptr_named (nm := "errors.errorString") (by kernel_rfl) (by kernel_rfl) (by decide) u (h.trans (by kernel_rfl))

/-- The settled world's variables 1, 5 and 4 turned to errors of errors.New's make, whose structs lie from block n on. -/
def layW (n : Nat) (w0 : World) : World :=
  let put (h : Array Obj) (g : Nat) (cs : Array Value) : Array Obj := h.modify g fun
    | .cells _ t frozen => .cells cs t frozen
    | o => o
  { w0 with heap := put (put (put w0.heap 1 #[.iface 117 (.pointer (some ⟨n, 0, none⟩))]) 5 #[.iface 117 (.pointer (some ⟨n + 1, 0, none⟩))]) 4 #[.iface 117 (.pointer (some ⟨n + 2, 0, none⟩))] }

def blks : Array Obj := #[.cells #[.string ⟨#[69, 79, 70]⟩] 139, .cells #[.string ⟨#[110, 117, 109, 98, 101, 114, 32, 104, 97, 115, 32, 110, 111, 32, 100, 105, 103, 105, 116, 115]⟩] 139,
  .cells #[.string ⟨#[39, 95, 39, 32, 109, 117, 115, 116, 32, 115, 101, 112, 97, 114, 97, 116, 101, 32, 115, 117, 99, 99, 101, 115, 115, 105, 118, 101, 32, 100, 105, 103, 105, 116, 115]⟩] 139]

theorem laid_met (os : Os) (args : Array Value) : laidMet Ybaf.prog Rows.lawS0647AParseRow.laid ((layW (World.holding Ybaf.prog default ⟨#[], #[], []⟩).heap.size (World.holding Ybaf.prog os ⟨blks, #[], []⟩)).forCall (fun _ _ => 0) ⟨#[], args, []⟩).memory :=
  laidMet_of_run (ps := [.cell 1 0, .cell (World.holding Ybaf.prog default ⟨#[], #[], []⟩).heap.size 0, .cell 5 0, .cell ((World.holding Ybaf.prog default ⟨#[], #[], []⟩).heap.size + 1) 0, .cell 4 0, .cell ((World.holding Ybaf.prog default ⟨#[], #[], []⟩).heap.size + 2) 0]) 8 (by kernel_rfl) (by kernel_rfl) (by kernel_rfl)

set_option maxRecDepth 100000 in
set_option maxHeartbeats 1600000 in
theorem lifted (os : Os) (started : os.Started) (H : Type) (enc : TypeId × Value → H) :
    ReturnsInTold none {} Ybaf.checked os 3 .any Input.okWide ((OpenSpec.ofChange Rows.lawS0647AParseSpec).preRow enc Ybaf.prog Ybaf.f3 [] false Rows.lawS0647AParseRow.laid) (fun F => ((OpenSpec.ofChange Rows.lawS0647AParseSpec).at F.told).post enc Ybaf.prog Ybaf.f3 false true false false) (aloneAtReturn Ybaf.prog) nothingAlways := by
  refine returnsInTold_of_row (C := Ybaf.checked) (s := OpenSpec.ofChange Rows.lawS0647AParseSpec) (by kernel_rfl) own started (by kernel_rfl) Ybaf.func3
    (OpenSpec.witness_stopped_atRef (enc := enc) (C := Ybaf.checked) false (layW (World.holding Ybaf.prog default ⟨#[], #[], []⟩).heap.size (World.holding Ybaf.prog os ⟨blks, #[], []⟩)) #[.string ⟨#[]⟩] rfl (by kernel_rfl) (by kernel_rfl) (by kernel_rfl)
      (OpenSpec.preRow_of_B rfl 8 (by kernel_rfl) (by kernel_rfl) (laid_met os _))) ?_
  intro F W base args ds gs before _ hF hval0 hW hcnd0 _ _ hL _
  have hval : ∀ (j : Nat) t v, Ybaf.f3.params[j]? = some t → args[j]? = some v → Value.okWide Ybaf.prog W .any base t v := hval0
  have hW' := hW
  obtain ⟨p, q, hA0, hV0, rfl, _, _⟩ := hW
  have hA : DataW.TrodAll enc Ybaf.prog W 0 (fun _ => true) true Ybaf.f3.params.toList args.toList ds p := hA0
  rw [Ybaf.params3] at hA hval
  obtain ⟨v0, d0, rfl, rfl, h0⟩ := trodAll_one hA
  obtain ⟨rfl, rfl⟩ := trodVars_none hV0
  obtain ⟨s, rfl, rfl, rfl, ws⟩ := open_string Ybaf.underlying9 (hval 0 9 v0 rfl rfl) h0
  clear hA0 hV0 hval0
  have hL' : laidMet Ybaf.prog Rows.lawS0647AParseRow.laid W := hL
  obtain ⟨a1, t1, hv1, hc1, ht1, _⟩ := laid_sentinel (g := 1) hL' (by kernel_rfl) (by kernel_rfl) Ybaf.underlying28 (fun u h => row117 u (h.trans (by kernel_rfl))) Ybaf.underlying117 Ybaf.underlying139 rfl rfl Ybaf.underlying9 (by kernel_rfl) (by kernel_rfl)
  obtain ⟨a5, t5, hv5, hc5, ht5, _⟩ := laid_sentinel (g := 5) hL'.tail (by kernel_rfl) (by kernel_rfl) Ybaf.underlying28 (fun u h => row117 u (h.trans (by kernel_rfl))) Ybaf.underlying117 Ybaf.underlying139 rfl rfl Ybaf.underlying9 (by kernel_rfl) (by kernel_rfl)
  have g1 : W.cell? ⟨1, 0, none⟩ = some (.iface 117 (.pointer (some a1))) := by
    have := World.var?_cell (P := Ybaf.prog) (g := 1) (by kernel_rfl) hv1 0
    simpa using this
  have g5 : W.cell? ⟨5, 0, none⟩ = some (.iface 117 (.pointer (some a5))) := by
    have := World.var?_cell (P := Ybaf.prog) (g := 5) (by kernel_rfl) hv5 0
    simpa using this
  refine (law_any s a1 a5 W g1 g5).mono ?_
  rintro e W' ⟨rfl, hb⟩
  refine ⟨_, rfl, _, _, _, [], [], [], hW', ?_, ?_, ?_, hb.frame _, fun h => by cases h⟩
  · exact trodAll_mk1 (shut_bool Ybaf.underlying4 _)
  · exact trodAll_mk1 (shut_string Ybaf.underlying9 ws)
  · rfl

theorem laidOut : laidOutB Ybaf.pinned.checked.prog = true := by kernel_rfl
theorem stops : Ybaf.pinned.checked.prog.stops = ["fmt.Sprintf"] := by kernel_rfl
theorem stopKnobs : Ybaf.pinned.checked.prog.stopKnobs = [] := by kernel_rfl
theorem quiet (os : Os) : Stop.quiet Ybaf.pinned.checked.prog os := by
  intro k hk
  rw [stopKnobs] at hk
  cases hk

theorem proved : Rows.LawS0647AParseToldSaid :=
  Claim7.holds_of_told_tied_any_at .later 3 Ybaf.f3 "fmt.Sprintf" [] [] _ _ _ _ _ (by kernel_rfl) rfl rfl rfl laidOut (by kernel_rfl) rfl ⟨rfl, rfl, rfl, rfl, rfl, rfl, rfl⟩ rfl rfl (by kernel_rfl) (by kernel_rfl) Ybaf.func3 (by kernel_rfl)
    (of_decide_eq_true (by kernel_rfl)) (by unfold Func.isWrapper; first | (rw [if_pos (by decide +kernel)]; kernel_rfl) | (rw [if_neg (by decide +kernel)]; exact ⟨rfl, rfl⟩)) stops.symm rfl stopKnobs.symm (by kernel_rfl)
    (by kernel_rfl) (by kernel_rfl) (by kernel_rfl) (by kernel_rfl) (by kernel_rfl) (by kernel_rfl) (by kernel_rfl) (by kernel_rfl) (by kernel_rfl) rfl (by kernel_rfl) rfl rfl
    rfl rfl
    rfl (by kernel_rfl) (by kernel_rfl) (by kernel_rfl) (by decide) (by kernel_rfl) lawS0647AParse_row_tie
    (OpenClaim.moreEntering_of (by kernel_rfl) (by kernel_rfl) (by kernel_rfl) (by kernel_rfl) (by kernel_rfl) (by kernel_rfl) (by kernel_rfl) (by kernel_rfl) (by kernel_rfl) (by kernel_rfl))
    ⟨_, WideRow.started_initial, quiet _⟩
    (fun os started _ H enc _ => lifted os started H enc)
end Go.Proofs.YbulkmjkFmt.lawS0647AParse
