import Derived.Test.YbulkmjyStop
import Derived.OwnWalk
namespace Go.Proofs.Ybulkmjy
open Go.RowKit

theorem info99 : (Yba.prog.info? 99).map (fun i => (i.zero, i.size, i.bytes)) = some (some (.agg #[.string ⟨#[]⟩, .string ⟨#[]⟩, .string ⟨#[]⟩, .string ⟨#[]⟩]), 4, 64) := by kernel_rfl
theorem info100 : (Yba.prog.info? 100).map (fun i => (i.zero, i.size, i.bytes)) = some (some (.pointer none), 1, 8) := by kernel_rfl

theorem build95 : ∃ cs : Array Value, cs[1]? = some (.int .i32 0) ∧ cs[36]? = some (.map none) ∧ cs[37]? = some (.int .i64 0) ∧ ∀ w, Sem.run Yba.prog (Instr.build 95 #[]) w = .ok (.agg cs) w :=
  ⟨((Yba.prog.info? 95).bind fun i => i.zero).elim #[] Value.cells, by kernel_rfl, by kernel_rfl, by kernel_rfl, fun w => by kernel_rfl⟩

theorem run_makeMap63 (w : World) : Sem.run Yba.prog (Instr.makeMap 63 none) w = .ok (.map (some w.heap.size)) (w.alloc (.map #[] 0)) := rfl

theorem wpList_build95 (w : World) {ops : Array Oper} {rest : List Oper} {o : Oper} {a : Act} {Q : Exit → Act → World → Prop} (hg : o.guard = none) (hop : o.op = Op.build 95 #[]) (cs : Array Value)
    (hb : ∀ w, Sem.run Yba.prog (Instr.build 95 #[]) w = .ok (.agg cs) w) (hK : wpList Yba.prog ops Q rest (a.put o.dst (.agg cs)) w) : wpList Yba.prog ops Q (o :: rest) a w := by
  refine wpList_plain hg fun K hK' => ?_
  unfold Oper.wp
  simp [execOp, hop, hb, Result.andThen]
  exact hK' _ _ hK

theorem add_block (ad : Addr) (k : Nat) : (ad.add k).block = ad.block := by
  unfold Addr.add
  split <;> rfl

theorem lt_of_cell {w : World} {b o : Nat} {v : Value} (h : w.cell? ⟨b, o, none⟩ = some v) : b < w.heap.size := by
  obtain ⟨c, t, fr, e⟩ := cells_of_cell h
  exact lt_of_map e

/-- what holds of the first loop behind k rounds: block sb the Store, sb+1 the map, sb+1+1 the selections, sb+1+1+1 the waits' row -/
structure L1 (w : World) (sb n : Nat) (kinds : Nat → ByteArray) (id : ByteArray) (k : Nat) (m : List Ent) (c : Nat) (wr : World) : Prop where
  kn : k ≤ n
  sto : Sto wr sb (sb + 1) 0 id m c
  uniq : Uniq m
  room : m.length ≤ k
  sel : ∀ j, j < k → wr.cell? ⟨sb + 1 + 1, j * 4, none⟩ = some (.string (kinds j)) ∧ wr.cell? ⟨sb + 1 + 1, j * 4 + 1, none⟩ = some (.string id) ∧ wr.cell? ⟨sb + 1 + 1, j * 4 + 2, none⟩ = some (.string ⟨#[]⟩) ∧ wr.cell? ⟨sb + 1 + 1, j * 4 + 3, none⟩ = some (.string ⟨#[]⟩)
  selX : ∀ o, o < n * 4 → ∃ v, wr.cell? ⟨sb + 1 + 1, o, none⟩ = some v
  selF : ∀ o, wr.frozen? ⟨sb + 1 + 1, o, none⟩ = false
  ws : ∀ j, j < k → ∃ b q, wr.cell? ⟨sb + 1 + 1 + 1, j, none⟩ = some (.pointer (some ⟨b, 0, none⟩)) ∧ Wt wr b q ∧ 1 ≤ q ∧ q ≤ 4 ∧ sb + 1 + 1 + 1 < b
  wsX : ∀ o, o < n → ∃ v, wr.cell? ⟨sb + 1 + 1 + 1, o, none⟩ = some v
  wsF : ∀ o, wr.frozen? ⟨sb + 1 + 1 + 1, o, none⟩ = false
  own : ∀ kk b, get m kk = some b → (∃ q, Wt wr b q) ∧ sb + 1 + 1 + 1 < b
  full : ∀ j, j < k → ∃ b, get m (kinds j) = some b
  below : Below sb w wr
  last : sb + 1 + 1 + 1 < wr.heap.size

theorem made_there (z : Array Value) (l : Nat) (o : Nat) (h : o < l) : ∃ v, (madeCells z l)[o]? = some v := ⟨_, Array.getElem?_eq_getElem (by rw [size_madeCells]; exact h)⟩

theorem L1.start (w : World) (n : Nat) (kinds : Nat → ByteArray) (id : ByteArray) (cs z1 z2 : Array Value) (h1 : cs[1]? = some (.int .i32 0)) (h36 : cs[36]? = some (.map none)) (h37 : cs[37]? = some (.int .i64 0)) :
    L1 w w.heap.size n kinds id 0 [] 0 ((((w.alloc (Obj.cells (cs.setIfInBounds 36 (.map (some (w.heap.size + 1)))) 95)).alloc (Obj.map #[] 0)).alloc (Obj.cells (madeCells z1 (n * 4)) 99)).alloc (Obj.cells (madeCells z2 n) 100)) := by
  have hl : 36 < cs.size := by
    rcases Nat.lt_or_ge 36 cs.size with h | h
    · exact h
    · rw [Array.getElem?_eq_none h] at h36; cases h36
  refine ⟨Nat.zero_le _, ⟨by omega, ?_, ?_, ?_, ?_, ?_, by simp; omega⟩, by simp [Uniq], by simp, fun j h => by omega, ?_, ?_, fun j h => by omega, ?_, ?_, fun kk b h => by simp [get, fnd] at h, fun j h => by omega, ?_, ?_⟩
  · go_simp
  · go_simp
  · go_simp
  · intro j; go_simp
  · rw [Below.heap_alloc _ _ _ (by simp), Below.heap_alloc _ _ _ (by simp)]
    rw [World.alloc]
    simp only [List.map_nil]
    rw [Array.getElem?_push]
    simp
  · intro o ho
    obtain ⟨v, hv⟩ := made_there z1 (n * 4) o ho
    exact ⟨v, by go_simp⟩
  · intro o; go_simp
  · intro o ho
    obtain ⟨v, hv⟩ := made_there z2 n o ho
    exact ⟨v, by go_simp⟩
  · intro o; go_simp
  · exact ((((Below.refl w.heap.size w).alloc (Nat.le_refl _) _).alloc (by simp) _).alloc (by simp; omega) _).alloc (by simp; omega) _
  · simp

/-- the world of a round ahead of the map's update -/
def rx (sb k : Nat) (kd id : ByteArray) (q : Int) (wr : World) : World :=
  (((((wr.setCell ⟨sb + 1 + 1, k * 4, none⟩ (.string kd)).setCell ⟨sb + 1 + 1, k * 4 + 1, none⟩ (.string id)).setCell ⟨sb + 1 + 1, k * 4 + 2, none⟩ (.string ⟨#[]⟩)).setCell ⟨sb + 1 + 1, k * 4 + 3, none⟩ (.string ⟨#[]⟩)).setCell ⟨sb + 1 + 1 + 1, k, none⟩ (.pointer (some ⟨wr.heap.size, 0, none⟩))).alloc
    (Obj.cells #[.chan none, .int .i64 0, .int .i64 q] 102)

structure RX (w : World) (sb n : Nat) (kinds : Nat → ByteArray) (id : ByteArray) (k : Nat) (m : List Ent) (c : Nat) (q : Int) (wr X : World) : Prop where
  s0 : X.cell? ⟨sb + 1 + 1, k * 4, none⟩ = some (.string (kinds k))
  s1 : X.cell? ⟨sb + 1 + 1, k * 4 + 1, none⟩ = some (.string id)
  s2 : X.cell? ⟨sb + 1 + 1, k * 4 + 2, none⟩ = some (.string ⟨#[]⟩)
  s3 : X.cell? ⟨sb + 1 + 1, k * 4 + 3, none⟩ = some (.string ⟨#[]⟩)
  s4 : X.cell? ⟨sb + 1 + 1 + 1, k, none⟩ = some (.pointer (some ⟨wr.heap.size, 0, none⟩))
  n0 : X.cell? ⟨wr.heap.size, 0, none⟩ = some (.chan none)
  n2 : X.cell? ⟨wr.heap.size, 2, none⟩ = some (.int .i64 q)
  nf : ∀ j, X.frozen? ⟨wr.heap.size, j, none⟩ = false
  old : ∀ b j, b < wr.heap.size → ¬ (b = sb + 1 + 1 ∧ k * 4 ≤ j ∧ j < k * 4 + 4) → ¬ (b = sb + 1 + 1 + 1 ∧ j = k) → X.cell? ⟨b, j, none⟩ = wr.cell? ⟨b, j, none⟩
  fr : ∀ b j, b < wr.heap.size → X.frozen? ⟨b, j, none⟩ = wr.frozen? ⟨b, j, none⟩
  mp : X.heap[sb + 1]? = some (.map (m.map (toE id)).toArray c)
  size : X.heap.size = wr.heap.size + 1
  below : Below sb w X

theorem rx_facts {w : World} {sb n : Nat} {kinds : Nat → ByteArray} {id : ByteArray} {k : Nat} {m : List Ent} {c : Nat} {wr : World} (S : L1 w sb n kinds id k m c wr) (hlt : k < n) (q : Int) : RX w sb n kinds id k m c q wr (rx sb k (kinds k) id q wr) := by
  obtain ⟨y0, x0⟩ := S.selX (k * 4) (by omega)
  obtain ⟨y1, x1⟩ := S.selX (k * 4 + 1) (by omega)
  obtain ⟨y2, x2⟩ := S.selX (k * 4 + 2) (by omega)
  obtain ⟨y3, x3⟩ := S.selX (k * 4 + 3) (by omega)
  obtain ⟨y4, x4⟩ := S.wsX k hlt
  have hsz : sb + 1 + 1 + 1 < wr.heap.size := lt_of_cell x4
  unfold rx
  have al : ∀ b j, b < wr.heap.size → ((((((wr.setCell ⟨sb + 1 + 1, k * 4, none⟩ (.string (kinds k))).setCell ⟨sb + 1 + 1, k * 4 + 1, none⟩ (.string id)).setCell ⟨sb + 1 + 1, k * 4 + 2, none⟩ (.string ⟨#[]⟩)).setCell ⟨sb + 1 + 1, k * 4 + 3, none⟩ (.string ⟨#[]⟩)).setCell ⟨sb + 1 + 1 + 1, k, none⟩ (.pointer (some ⟨wr.heap.size, 0, none⟩))).alloc (Obj.cells #[.chan none, .int .i64 0, .int .i64 q] 102)).cell? ⟨b, j, none⟩ =
      (((((wr.setCell ⟨sb + 1 + 1, k * 4, none⟩ (.string (kinds k))).setCell ⟨sb + 1 + 1, k * 4 + 1, none⟩ (.string id)).setCell ⟨sb + 1 + 1, k * 4 + 2, none⟩ (.string ⟨#[]⟩)).setCell ⟨sb + 1 + 1, k * 4 + 3, none⟩ (.string ⟨#[]⟩)).setCell ⟨sb + 1 + 1 + 1, k, none⟩ (.pointer (some ⟨wr.heap.size, 0, none⟩))).cell? ⟨b, j, none⟩ :=
    fun b j hb => World.cell?_alloc_past _ _ _ (by simpa using hb)
  refine ⟨?_, ?_, ?_, ?_, ?_, ?_, ?_, ?_, ?_, ?_, ?_, by simp, ?_⟩
  · rw [al _ _ (by omega)]; go_simp
  · rw [al _ _ (by omega)]; go_simp
  · rw [al _ _ (by omega)]; go_simp
  · rw [al _ _ (by omega)]; go_simp
  · rw [al _ _ (by omega)]; go_simp
  · rw [World.cell?_alloc_at _ _ _ _ (by simp)]; rfl
  · rw [World.cell?_alloc_at _ _ _ _ (by simp)]; rfl
  · intro j; exact World.frozen?_alloc_at _ _ _ _ (by simp)
  · intro b j hb h1 h2
    rw [al _ _ hb]
    rw [World.cell?_setCell_other _ _ _ _ (fun e => h2 (by cases e; exact ⟨rfl, rfl⟩)), World.cell?_setCell_other _ _ _ _ (fun e => h1 (by cases e; exact ⟨rfl, by omega, by omega⟩)),
      World.cell?_setCell_other _ _ _ _ (fun e => h1 (by cases e; exact ⟨rfl, by omega, by omega⟩)), World.cell?_setCell_other _ _ _ _ (fun e => h1 (by cases e; exact ⟨rfl, by omega, by omega⟩)),
      World.cell?_setCell_other _ _ _ _ (fun e => h1 (by cases e; exact ⟨rfl, by omega, by omega⟩))]
  · intro b j hb
    rw [World.frozen?_alloc_past _ _ _ (by simpa using hb)]
    simp
  · rw [Below.heap_alloc _ _ _ (by simp; omega), heap_setCell_other _ _ _ _ (by simp), heap_setCell_other _ _ _ _ (by simp), heap_setCell_other _ _ _ _ (by simp), heap_setCell_other _ _ _ _ (by simp), heap_setCell_other _ _ _ _ (by simp)]
    exact S.sto.mp
  · have h := S.below
    exact Below.alloc (((((h.setCell (p := ⟨sb + 1 + 1, k * 4, none⟩) (by simp; omega) _).setCell (p := ⟨sb + 1 + 1, k * 4 + 1, none⟩) (by simp; omega) _).setCell (p := ⟨sb + 1 + 1, k * 4 + 2, none⟩) (by simp; omega) _).setCell (p := ⟨sb + 1 + 1, k * 4 + 3, none⟩) (by simp; omega) _).setCell (p := ⟨sb + 1 + 1 + 1, k, none⟩) (by simp; omega) _) (by simp; omega) _

theorem L1.step {w : World} {sb n : Nat} {kinds : Nat → ByteArray} {id : ByteArray} {k : Nat} {m : List Ent} {c : Nat} {q : Int} {wr X : World} (S : L1 w sb n kinds id k m c wr) (R : RX w sb n kinds id k m c q wr X) (hlt : k < n) (hq1 : 1 ≤ q) (hq2 : q ≤ 4) :
    L1 w sb n kinds id (k + 1) (upd m (kinds k) wr.heap.size c) (updC m (kinds k) c) (setM X.drew (sb + 1) (.map ((upd m (kinds k) wr.heap.size c).map (toE id)).toArray (updC m (kinds k) c))) := by
  have hmp : X.drew.heap[sb + 1]? = some (.map (m.map (toE id)).toArray c) := R.mp
  have hcl : ∀ a, (setM X.drew (sb + 1) (.map ((upd m (kinds k) wr.heap.size c).map (toE id)).toArray (updC m (kinds k) c))).cell? a = X.cell? a := fun a => setM_cell hmp a
  have hfz : ∀ a, (setM X.drew (sb + 1) (.map ((upd m (kinds k) wr.heap.size c).map (toE id)).toArray (updC m (kinds k) c))).frozen? a = X.frozen? a := fun a => setM_frozen hmp a
  have hsz : (setM X.drew (sb + 1) (.map ((upd m (kinds k) wr.heap.size c).map (toE id)).toArray (updC m (kinds k) c))).heap.size = wr.heap.size + 1 := by simp [setM, R.size]
  obtain ⟨y4, x4⟩ := S.wsX k hlt
  have hwl : sb + 1 + 1 + 1 < wr.heap.size := lt_of_cell x4
  have wold : ∀ b q', Wt wr b q' → sb + 1 + 1 + 1 < b → Wt (setM X.drew (sb + 1) (.map ((upd m (kinds k) wr.heap.size c).map (toE id)).toArray (updC m (kinds k) c))) b q' := fun b q' V hb =>
    ⟨V.c0.imp fun _ e => by rw [hcl, R.old b 0 V.lt (by omega) (by omega)]; exact e, by rw [hcl, R.old b 2 V.lt (by omega) (by omega)]; exact V.c2, fun j => by rw [hfz, R.fr b j V.lt]; exact V.fr j, by rw [hsz]; have := V.lt; omega⟩
  have wnew : Wt (setM X.drew (sb + 1) (.map ((upd m (kinds k) wr.heap.size c).map (toE id)).toArray (updC m (kinds k) c))) wr.heap.size q :=
    ⟨⟨_, by rw [hcl]; exact R.n0⟩, by rw [hcl]; exact R.n2, fun j => by rw [hfz]; exact R.nf j, by rw [hsz]; omega⟩
  have hsl := S.sto.lt
  refine ⟨hlt, ⟨S.sto.ne, ?_, ?_, ?_, ?_, ?_, ?_⟩, uniq_upd S.uniq _ _ _, ?_, ?_, ?_, ?_, ?_, ?_, ?_, ?_, ?_, ?_, by rw [hsz]; omega⟩
  · rw [hcl, R.old sb 1 hsl (by omega) (by omega)]; exact S.sto.mu
  · rw [hcl, R.old sb 36 hsl (by omega) (by omega)]; exact S.sto.wa
  · rw [hcl, R.old sb 37 hsl (by omega) (by omega)]; exact S.sto.wt
  · intro j; rw [hfz, R.fr sb j hsl]; exact S.sto.fr j
  · have hl : sb + 1 < X.heap.size := lt_of_map R.mp
    simp [setM, hl]
  · rw [hsz]; omega
  · unfold upd
    have := S.room
    cases fnd (kinds k) m 0 with
    | none => simp; omega
    | some x => simp; omega
  · intro j hj
    by_cases hjk : j = k
    · subst hjk
      exact ⟨by rw [hcl]; exact R.s0, by rw [hcl]; exact R.s1, by rw [hcl]; exact R.s2, by rw [hcl]; exact R.s3⟩
    · obtain ⟨a0, a1, a2, a3⟩ := S.sel j (by omega)
      exact ⟨by rw [hcl, R.old _ _ (by omega) (by omega) (by omega)]; exact a0, by rw [hcl, R.old _ _ (by omega) (by omega) (by omega)]; exact a1, by rw [hcl, R.old _ _ (by omega) (by omega) (by omega)]; exact a2, by rw [hcl, R.old _ _ (by omega) (by omega) (by omega)]; exact a3⟩
  · intro o ho
    by_cases h : k * 4 ≤ o ∧ o < k * 4 + 4
    · have : o = k * 4 ∨ o = k * 4 + 1 ∨ o = k * 4 + 2 ∨ o = k * 4 + 3 := by omega
      rcases this with rfl | rfl | rfl | rfl
      · exact ⟨_, by rw [hcl]; exact R.s0⟩
      · exact ⟨_, by rw [hcl]; exact R.s1⟩
      · exact ⟨_, by rw [hcl]; exact R.s2⟩
      · exact ⟨_, by rw [hcl]; exact R.s3⟩
    · obtain ⟨v, hv⟩ := S.selX o ho
      exact ⟨v, by rw [hcl, R.old _ _ (by omega) (by omega) (by omega)]; exact hv⟩
  · intro o; rw [hfz, R.fr _ _ (by omega)]; exact S.selF o
  · intro j hj
    by_cases hjk : j = k
    · subst hjk
      exact ⟨wr.heap.size, q, by rw [hcl]; exact R.s4, wnew, hq1, hq2, hwl⟩
    · obtain ⟨b, q', a0, V, g1, g2, g3⟩ := S.ws j (by omega)
      exact ⟨b, q', by rw [hcl, R.old _ _ (by omega) (by omega) (by omega)]; exact a0, wold b q' V g3, g1, g2, g3⟩
  · intro o ho
    by_cases h : o = k
    · subst h; exact ⟨_, by rw [hcl]; exact R.s4⟩
    · obtain ⟨v, hv⟩ := S.wsX o ho
      exact ⟨v, by rw [hcl, R.old _ _ (by omega) (by omega) (by omega)]; exact hv⟩
  · intro o; rw [hfz, R.fr _ _ (by omega)]; exact S.wsF o
  · intro kk b hg
    rw [get_upd S.uniq] at hg
    split at hg
    · simp at hg
      subst hg
      exact ⟨⟨q, wnew⟩, hwl⟩
    · obtain ⟨⟨q', V⟩, hb⟩ := S.own kk b hg
      exact ⟨⟨q', wold b q' V hb⟩, hb⟩
  · intro j hj
    rw [get_upd S.uniq]
    split
    · exact ⟨_, rfl⟩
    · rename_i hne
      by_cases hjk : j = k
      · subst hjk; exact absurd rfl hne
      · exact S.full j (by omega)
  · exact below_setM (Below.drew R.below) (by omega) _

end Go.Proofs.Ybulkmjy
