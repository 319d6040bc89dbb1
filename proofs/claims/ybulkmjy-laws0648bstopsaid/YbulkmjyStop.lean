import Derived.Test.YbulkmjyMap
import Derived.Test.YbulkmjyLocks
import Derived.Conc.MuLone
import Derived.RegionTactic
import Derived.Deep.QuietTactic
import Derived.BigQuiet
namespace Go.Proofs.Ybulkmjy
open Go.RowKit
open Go.MuLone

theorem setM_cell {w : World} {mb c c' : Nat} {es es' : Array MapEntry} (h : w.heap[mb]? = some (.map es c)) (a : Addr) : (setM w mb (.map es' c')).cell? a = w.cell? a := by
  unfold World.cell? setM
  by_cases e : a.block = mb
  · have hl : mb < w.heap.size := by
      rcases Nat.lt_or_ge mb w.heap.size with h' | h'
      · exact h'
      · rw [Array.getElem?_eq_none h'] at h; cases h
    rw [Array.getElem?_eq_getElem hl] at h
    simp [e, hl, Option.some.inj h]
  · simp [Ne.symm e]

theorem setM_frozen {w : World} {mb c c' : Nat} {es es' : Array MapEntry} (h : w.heap[mb]? = some (.map es c)) (a : Addr) : (setM w mb (.map es' c')).frozen? a = w.frozen? a := by
  unfold World.frozen? setM
  by_cases e : a.block = mb
  · have hl : mb < w.heap.size := by
      rcases Nat.lt_or_ge mb w.heap.size with h' | h'
      · exact h'
      · rw [Array.getElem?_eq_none h'] at h; cases h
    rw [Array.getElem?_eq_getElem hl] at h
    simp [e, hl, Option.some.inj h]
  · simp [Ne.symm e]

structure Sto (w : World) (sb mb : Nat) (wt : Int) (id : ByteArray) (m : List Ent) (c : Nat) : Prop where
  ne : mb ≠ sb
  mu : w.cell? ⟨sb, 1, none⟩ = some (.int .i32 0)
  wa : w.cell? ⟨sb, 36, none⟩ = some (.map (some mb))
  wt : w.cell? ⟨sb, 37, none⟩ = some (.int .i64 wt)
  fr : ∀ j, w.frozen? ⟨sb, j, none⟩ = false
  mp : w.heap[mb]? = some (.map (m.map (toE id)).toArray c)
  lt : sb < w.heap.size

structure Wt (w : World) (b : Nat) (q : Int) : Prop where
  c0 : ∃ v, w.cell? ⟨b, 0, none⟩ = some v
  c2 : w.cell? ⟨b, 2, none⟩ = some (.int .i64 q)
  fr : ∀ j, w.frozen? ⟨b, j, none⟩ = false
  lt : b < w.heap.size

theorem cells_of_cell {w : World} {b o : Nat} {v : Value} (h : w.cell? ⟨b, o, none⟩ = some v) : ∃ c t fr, w.heap[b]? = some (.cells c t fr) := by
  unfold World.cell? at h
  split at h
  · rename_i c t fr heq
    exact ⟨c, t, fr, heq⟩
  · cases h

theorem run_sameAddr_free {P : Program} (w : World) {a b : Nat} (hne : a ≠ b) {u v : Value} (ha : w.cell? ⟨a, 0, none⟩ = some u) (fa : ∀ j, w.frozen? ⟨a, j, none⟩ = false) (hb : w.cell? ⟨b, 0, none⟩ = some v) (fb : ∀ j, w.frozen? ⟨b, j, none⟩ = false) :
    (sameAddr ⟨a, 0, none⟩ ⟨b, 0, none⟩).run P w = .ok false w := by
  obtain ⟨ca, ta, fra, ea⟩ := cells_of_cell ha
  obtain ⟨cb, tb, frb, eb⟩ := cells_of_cell hb
  have sa : w.shape? a = some (ta, ca.size) := by simp [World.shape?, ea]
  have sb : w.shape? b = some (tb, cb.size) := by simp [World.shape?, eb]
  simp [sameAddr, hne, fa, fb, noView, viewAt, sa, sb, mayBeOne, stringish]

/-- '==' between two pointers to waits: each nil or the head of a wait's block -/
theorem equalIn_ptr (w : World) (d : Nat) (o p : Option Nat) (ho : ∀ b, o = some b → ∃ q, Wt w b q) (hp : ∀ b, p = some b → ∃ q, Wt w b q) :
    (Op.equalIn (d + 1) 100 (optPtr o) (optPtr p)).run Yba.prog w = .ok (decide (o = p)) w := by
  cases o with
  | none =>
    cases p with
    | none => simp [Op.equalIn, run_underlying Yba.underlying100, optPtr]
    | some b => simp [Op.equalIn, run_underlying Yba.underlying100, optPtr, ptr]
  | some a =>
    cases p with
    | none => simp [Op.equalIn, run_underlying Yba.underlying100, optPtr, ptr]
    | some b =>
      obtain ⟨_, A⟩ := ho a rfl
      obtain ⟨_, B⟩ := hp b rfl
      obtain ⟨u, hu⟩ := A.c0
      obtain ⟨v, hv⟩ := B.c0
      by_cases hab : a = b
      · subst hab
        simp [Op.equalIn, run_underlying Yba.underlying100, optPtr, ptr, sameAddr]
      · simp [Op.equalIn, run_underlying Yba.underlying100, optPtr, ptr, run_sameAddr_free w hab hu A.fr hv B.fr, hab]

theorem eql_ptr (w : World) (o p : Option Nat) (ho : ∀ b, o = some b → ∃ q, Wt w b q) (hp : ∀ b, p = some b → ∃ q, Wt w b q) :
    Sem.run Yba.prog (binOp .eql 100 (optPtr o) (optPtr p)) w = .ok (.bool (decide (o = p))) w := by
  have h := equalIn_ptr w 9999 o p ho hp
  cases o <;> cases p <;> simp only [optPtr, ptr] at h ⊢ <;> simp only [binOp] <;> simp [Op.equal, Op.maxDepth, h]
theorem neq_ptr (w : World) (o p : Option Nat) (ho : ∀ b, o = some b → ∃ q, Wt w b q) (hp : ∀ b, p = some b → ∃ q, Wt w b q) :
    Sem.run Yba.prog (binOp .neq 100 (optPtr o) (optPtr p)) w = .ok (.bool (!decide (o = p))) w := by
  have h := equalIn_ptr w 9999 o p ho hp
  cases o <;> cases p <;> simp only [optPtr, ptr] at h ⊢ <;> simp only [binOp] <;> simp [Op.equal, Op.maxDepth, h]

theorem guard_ptr (op : BinOp) (x y : Operand) (o : Option Nat) (q : Option Addr) (w : World) : Sem.run Yba.prog (eqGuard op 100 x y (optPtr o) (.pointer q)) w = .ok () w := by
  cases o <;> cases op <;> simp [eqGuard, optPtr, ptr]
theorem guard_ptr2 (op : BinOp) (x y : Operand) (o p : Option Nat) (w : World) : Sem.run Yba.prog (eqGuard op 100 x y (optPtr o) (optPtr p)) w = .ok () w := by
  cases o <;> cases p <;> cases op <;> simp [eqGuard, optPtr, ptr]

theorem Wt.drewN {w : World} {b : Nat} {q : Int} (h : Wt w b q) (n : Nat) : Wt (w.drewN n) b q := ⟨h.c0, h.c2, h.fr, h.lt⟩

/-- the world behind the Lock and the boxing of the selection -/
structure StopW (w : World) (sb mb wb c : Nat) (wt q : Int) (id k : ByteArray) (m : List Ent) (W : World) : Prop where
  k0 : W.cell? ⟨w.heap.size, 0, none⟩ = some (.string k)
  k1 : W.cell? ⟨w.heap.size, 1, none⟩ = some (.string id)
  k2 : W.cell? ⟨w.heap.size, 2, none⟩ = some (.string ⟨#[]⟩)
  k3 : W.cell? ⟨w.heap.size, 3, none⟩ = some (.string ⟨#[]⟩)
  m1 : W.cell? ⟨sb, 1, none⟩ = some (.int .i32 1)
  m36 : W.cell? ⟨sb, 36, none⟩ = some (.map (some mb))
  m37 : W.cell? ⟨sb, 37, none⟩ = some (.int .i64 wt)
  look : ∀ n, Sem.run Yba.prog (Instr.lookup 63 (.map (some mb)) (.agg #[.string k, .string id, .string ⟨#[]⟩, .string ⟨#[]⟩]) false) (W.drewN n) = .ok (optPtr (get m k)) (W.drewN n)
  mp : W.heap[mb]? = some (.map (m.map (toE id)).toArray c)
  wt : Wt W wb q
  other : ∀ b j, b ≠ sb → b < w.heap.size → W.cell? ⟨b, j, none⟩ = w.cell? ⟨b, j, none⟩
  fr : ∀ b j, b < w.heap.size → W.frozen? ⟨b, j, none⟩ = w.frozen? ⟨b, j, none⟩
  size : W.heap.size = w.heap.size + 1
  below : Below sb w W

theorem heap_setCell_other (w : World) (a : Addr) (v : Value) (k : Nat) (h : k ≠ a.block) : (w.setCell a v).heap[k]? = w.heap[k]? := Below.heap_setCell w a v k h

theorem lt_of_map {w : World} {mb : Nat} {o : Obj} (h : w.heap[mb]? = some o) : mb < w.heap.size := by
  rcases Nat.lt_or_ge mb w.heap.size with h' | h'
  · exact h'
  · rw [Array.getElem?_eq_none h'] at h; cases h

theorem stop_world {w W : World} {sb mb wb c : Nat} {wt q : Int} {id : ByteArray} {m : List Ent} (S : Sto w sb mb wt id m c) (V : Wt w wb q) (k : ByteArray) (hsw : sb ≠ wb)
    (hW : ((w.setCell ⟨sb, 1, none⟩ (.int .i32 1)).alloc (Obj.cells #[.string k, .string id, .string ⟨#[]⟩, .string ⟨#[]⟩] 99)) = W) : StopW w sb mb wb c wt q id k m W := by
  have hlt := S.lt
  have hml := lt_of_map S.mp
  have hvl := V.lt
  have h1 := S.mu
  have h36 := S.wa
  have h37 := S.wt
  have oth : ∀ b j, b ≠ sb → b < w.heap.size → W.cell? ⟨b, j, none⟩ = w.cell? ⟨b, j, none⟩ := fun b j hb hl => by
    rw [← hW, World.cell?_alloc_past _ _ _ (by simpa using hl), World.cell?_setCell_other _ _ _ _ (fun e => hb (by cases e; rfl))]
  have frz : ∀ b j, b < w.heap.size → W.frozen? ⟨b, j, none⟩ = w.frozen? ⟨b, j, none⟩ := fun b j hl => by
    rw [← hW, World.frozen?_alloc_past _ _ _ (by simpa using hl)]
    simp
  have hmp : W.heap[mb]? = some (.map (m.map (toE id)).toArray c) := by
    rw [← hW, Below.heap_alloc _ _ _ (by simpa using hml), heap_setCell_other _ _ _ _ S.ne]
    exact S.mp
  refine ⟨?_, ?_, ?_, ?_, ?_, ?_, ?_, fun n => run_lookup (w := W.drewN n) hmp k, hmp, ⟨?_, ?_, fun j => (frz wb j hvl).trans (V.fr j), ?_⟩, oth, frz, by rw [← hW]; simp, ?_⟩
  · subst hW; go_simp
  · subst hW; go_simp
  · subst hW; go_simp
  · subst hW; go_simp
  · subst hW; go_simp
  · subst hW; go_simp
  · subst hW; go_simp
  · exact V.c0.imp fun _ e => (oth wb 0 (Ne.symm hsw) hvl).trans e
  · exact (oth wb 2 (Ne.symm hsw) hvl).trans V.c2
  · rw [← hW]; simp; omega
  · rw [← hW]; exact ((Below.refl sb w).setCell (Nat.le_refl _) _).alloc (by simp; omega) _

theorem StopW.eql {w W : World} {sb mb wb c : Nat} {wt q : Int} {id k : ByteArray} {m : List Ent} (A : StopW w sb mb wb c wt q id k m W) (hget : ∀ b, get m k = some b → ∃ q, Wt w b q) (hget2 : ∀ b, get m k = some b → b ≠ sb) (n : Nat) :
    Sem.run Yba.prog (binOp .eql 100 (optPtr (get m k)) (.pointer (some ⟨wb, 0, none⟩))) (W.drewN n) = .ok (.bool (decide (get m k = some wb))) (W.drewN n) := by
  refine eql_ptr (W.drewN n) (get m k) (some wb) (fun b hb => ?_) (fun b hb => ?_)
  · obtain ⟨q', V⟩ := hget b hb
    have hb2 := hget2 b hb
    exact ⟨q', V.c0.imp fun _ e => (A.other b 0 hb2 V.lt).trans e, (A.other b 2 hb2 V.lt).trans V.c2, fun j => (A.fr b j V.lt).trans (V.fr j), by show b < W.heap.size; have := A.size; have := V.lt; omega⟩
  · cases hb
    exact ⟨q, A.wt.drewN n⟩

theorem stop_end {w W : World} {sb mb wb c : Nat} {wt q : Int} {id k : ByteArray} {m : List Ent} (S : Sto w sb mb wt id m c) (A : StopW w sb mb wb c wt q id k m W) (n : Nat) :
    Hid (Sto ((W.drewN n).setCell ⟨sb, 1, none⟩ (.int .i32 0)) sb mb wt id m c ∧ (∀ b j, b ≠ sb → b < w.heap.size → ((W.drewN n).setCell ⟨sb, 1, none⟩ (.int .i32 0)).cell? ⟨b, j, none⟩ = w.cell? ⟨b, j, none⟩) ∧
      (∀ b j, b < w.heap.size → ((W.drewN n).setCell ⟨sb, 1, none⟩ (.int .i32 0)).frozen? ⟨b, j, none⟩ = w.frozen? ⟨b, j, none⟩) ∧ Below sb w ((W.drewN n).setCell ⟨sb, 1, none⟩ (.int .i32 0))) := by
  have hlt := S.lt
  have hfr : ∀ b j, b < w.heap.size → ((W.drewN n).setCell ⟨sb, 1, none⟩ (.int .i32 0)).frozen? ⟨b, j, none⟩ = w.frozen? ⟨b, j, none⟩ := fun b j hb => by
    simp
    exact A.fr b j hb
  refine ⟨⟨S.ne, World.cell?_setCell_same _ _ _ (u := .int .i32 1) A.m1, ?_, ?_, fun j => (hfr sb j hlt).trans (S.fr j), ?_, by simp; have := A.size; omega⟩, ?_, hfr, ?_⟩
  · rw [World.cell?_setCell_other _ _ _ _ (by simp)]; exact A.m36
  · rw [World.cell?_setCell_other _ _ _ _ (by simp)]; exact A.m37
  · rw [heap_setCell_other _ _ _ _ S.ne]; exact A.mp
  · intro b j hb hl
    rw [World.cell?_setCell_other _ _ _ _ (fun e => hb (by cases e; rfl))]
    exact A.other b j hb hl
  · have hd : Below sb w (W.drewN n) := ⟨A.below.os, A.below.tape, A.below.output, A.below.size, A.below.block⟩
    exact hd.setCell (p := ⟨sb, 1, none⟩) (Nat.le_refl _) _

set_option maxRecDepth 100000 in
set_option maxHeartbeats 1000000 in
theorem stop_not (sb mb wb c : Nat) (wt q : Int) (id k : ByteArray) (m : List Ent) (w : World) (S : Sto w sb mb wt id m c) (V : Wt w wb q) (hne : get m k ≠ some wb) (hsw : sb ≠ wb) (hget : ∀ b, get m k = some b → ∃ q, Wt w b q) (hget2 : ∀ b, get m k = some b → b ≠ sb) :
    Calls Yba.prog 4 #[.pointer (some ⟨sb, 0, none⟩), .agg #[.string k, .string id, .string ⟨#[]⟩, .string ⟨#[]⟩], .pointer (some ⟨wb, 0, none⟩)] w fun e w' => e = .returned (.tuple #[]) ∧ Hid (Sto w' sb mb wt id m c ∧ (∀ b j, b ≠ sb → b < w.heap.size → w'.cell? ⟨b, j, none⟩ = w.cell? ⟨b, j, none⟩) ∧ (∀ b j, b < w.heap.size → w'.frozen? ⟨b, j, none⟩ = w.frozen? ⟨b, j, none⟩) ∧ Below sb w w') := by
  have h1 := S.mu
  have h36 := S.wa
  have h37 := S.wt
  have f1 := S.fr 1
  have hlt := S.lt
  go_enter_defers Yba.func4, Yba.ntmps4
  go_wp2_with fail
  refine (lock_free Yba.muLib ⟨sb, 1, none⟩ _ ?_ ?_).mono ?_
  · go_simp
  · go_simp
  rintro e w1 ⟨rfl, rfl⟩
  go_wp2_with fail
  generalize hW : ((w.setCell ⟨sb, 1, none⟩ (.int .i32 1)).alloc (Obj.cells #[.string k, .string id, .string ⟨#[]⟩, .string ⟨#[]⟩] 99)) = W
  have A := stop_world S V k hsw hW
  have HA : Hid (StopW w sb mb wb c wt q id k m W) := A
  have k0 := A.k0
  have k1 := A.k1
  have k2 := A.k2
  have k3 := A.k3
  have m1 := A.m1
  have m36 := A.m36
  have hlk := A.look
  have heq := fun n => A.eql hget hget2 n
  have hgd := guard_ptr
  rw [show decide (get m k = some wb) = false from by simpa using hne] at heq
  clear A hW h1 h36 h37
  go_quiet (fail)
  go_wp2_with fail
  refine leaves_cons (f := 6) (args := #[.pointer (some ⟨sb, 1, none⟩)]) (by simp) (by simp [go_sem]) ?_
  refine (unlock_deferred Yba.muLib ⟨sb, 1, none⟩ .returning _ ?_ ?_).mono ?_
  · go_simp
  · exact (HA.out.fr sb 1 hlt).trans f1
  rintro e u' w'' ⟨rfl, rfl, rfl⟩
  refine ⟨_, results_none rfl _ _ _, rfl, ?_⟩
  exact stop_end S HA.out nq


def StopPost (w : World) (sb mb wb c : Nat) (q : Int) (id k : ByteArray) (m : List Ent) (w' : World) : Prop :=
  Sto w' sb mb (-1) id (if q = 1 then del m k else m) c ∧ Wt w' wb (q - 1) ∧
    (∀ b j, b ≠ sb → b ≠ wb → b < w.heap.size → w'.cell? ⟨b, j, none⟩ = w.cell? ⟨b, j, none⟩) ∧ (∀ b j, b < w.heap.size → w'.frozen? ⟨b, j, none⟩ = w.frozen? ⟨b, j, none⟩) ∧ Below (min sb (min mb wb)) w w'

/-- the world behind the two counts' stores -/
structure CutW (w : World) (sb mb wb c : Nat) (q : Int) (id k : ByteArray) (m : List Ent) (X : World) : Prop where
  k0 : X.cell? ⟨w.heap.size, 0, none⟩ = some (.string k)
  k1 : X.cell? ⟨w.heap.size, 1, none⟩ = some (.string id)
  k2 : X.cell? ⟨w.heap.size, 2, none⟩ = some (.string ⟨#[]⟩)
  k3 : X.cell? ⟨w.heap.size, 3, none⟩ = some (.string ⟨#[]⟩)
  m1 : X.cell? ⟨sb, 1, none⟩ = some (.int .i32 1)
  m36 : X.cell? ⟨sb, 36, none⟩ = some (.map (some mb))
  m37 : X.cell? ⟨sb, 37, none⟩ = some (.int .i64 (-1))
  mp : X.heap[mb]? = some (.map (m.map (toE id)).toArray c)
  wt : Wt X wb (q - 1)
  other : ∀ b j, b ≠ sb → b ≠ wb → b < w.heap.size → X.cell? ⟨b, j, none⟩ = w.cell? ⟨b, j, none⟩
  fr : ∀ b j, b < w.heap.size → X.frozen? ⟨b, j, none⟩ = w.frozen? ⟨b, j, none⟩
  size : X.heap.size = w.heap.size + 1
  below : Below (min sb (min mb wb)) w X

theorem cut_world {w W : World} {sb mb wb c : Nat} {q : Int} {id k : ByteArray} {m : List Ent} (S : Sto w sb mb 0 id m c) (V : Wt w wb q) (hsw : sb ≠ wb) (hmw : mb ≠ wb) (A : StopW w sb mb wb c 0 q id k m W) (n : Nat) :
    CutW w sb mb wb c q id k m (((W.drewN n).setCell ⟨sb, 37, none⟩ (.int .i64 (-1))).setCell ⟨wb, 2, none⟩ (.int .i64 (q - 1))) := by
  have hlt := S.lt
  have hvl := V.lt
  have step : ∀ b j, ¬ (b = sb ∧ j = 37) → ¬ (b = wb ∧ j = 2) → (((W.drewN n).setCell ⟨sb, 37, none⟩ (.int .i64 (-1))).setCell ⟨wb, 2, none⟩ (.int .i64 (q - 1))).cell? ⟨b, j, none⟩ = W.cell? ⟨b, j, none⟩ := by
    intro b j h1 h2
    rw [World.cell?_setCell_other _ _ _ _ (fun e => h2 (by cases e; exact ⟨rfl, rfl⟩)), World.cell?_setCell_other _ _ _ _ (fun e => h1 (by cases e; exact ⟨rfl, rfl⟩))]
    rfl
  have frz : ∀ a, (((W.drewN n).setCell ⟨sb, 37, none⟩ (.int .i64 (-1))).setCell ⟨wb, 2, none⟩ (.int .i64 (q - 1))).frozen? a = W.frozen? a := fun a => by simp
  refine ⟨?_, ?_, ?_, ?_, ?_, ?_, ?_, ?_, ⟨?_, ?_, ?_, ?_⟩, ?_, ?_, ?_, ?_⟩
  · rw [step _ _ (by omega) (by omega)]; exact A.k0
  · rw [step _ _ (by omega) (by omega)]; exact A.k1
  · rw [step _ _ (by omega) (by omega)]; exact A.k2
  · rw [step _ _ (by omega) (by omega)]; exact A.k3
  · rw [step _ _ (by omega) (by omega)]; exact A.m1
  · rw [step _ _ (by omega) (by omega)]; exact A.m36
  · rw [World.cell?_setCell_other _ _ _ _ (fun e => by cases e)]
    exact World.cell?_setCell_same _ _ _ (u := .int .i64 0) A.m37
  · rw [heap_setCell_other _ _ _ _ hmw, heap_setCell_other _ _ _ _ S.ne]
    exact A.mp
  · obtain ⟨v, hv⟩ := A.wt.c0
    exact ⟨v, by rw [step _ _ (by omega) (by omega)]; exact hv⟩
  · refine World.cell?_setCell_same _ _ _ (u := .int .i64 q) ?_
    rw [World.cell?_setCell_other _ _ _ _ (fun e => by cases e)]
    exact A.wt.c2
  · intro j; rw [frz]; exact A.wt.fr j
  · simp; exact A.wt.lt
  · intro b j h1 h2 h3
    rw [step _ _ (by omega) (by omega)]
    exact A.other b j h1 h3
  · intro b j h
    rw [frz]; exact A.fr b j h
  · simp; exact A.size
  · have hd : Below (min sb (min mb wb)) w (W.drewN n) := Below.mono ⟨A.below.os, A.below.tape, A.below.output, A.below.size, A.below.block⟩ (Nat.min_le_left _ _)
    exact (hd.setCell (p := ⟨sb, 37, none⟩) (Nat.min_le_left _ _) _).setCell (p := ⟨wb, 2, none⟩) (Nat.le_trans (Nat.min_le_right _ _) (Nat.min_le_right _ _)) _

/-- the end of the held way: the Unlock -/
theorem cut_end {w X Y : World} {sb mb wb c : Nat} {q : Int} {id k : ByteArray} {m m' : List Ent} (S : Sto w sb mb 0 id m c) (C : CutW w sb mb wb c q id k m X) (hcell : ∀ a, Y.cell? a = X.cell? a) (hfr : ∀ a, Y.frozen? a = X.frozen? a) (hsz : Y.heap.size = X.heap.size)
    (hmp : Y.heap[mb]? = some (.map (m'.map (toE id)).toArray c)) (hm : m' = if q = 1 then del m k else m) (hb : Below (min sb (min mb wb)) w Y) : StopPost w sb mb wb c q id k m (Y.setCell ⟨sb, 1, none⟩ (.int .i32 0)) := by
  have hlt := S.lt
  subst hm
  have frz : ∀ a, (Y.setCell ⟨sb, 1, none⟩ (.int .i32 0)).frozen? a = X.frozen? a := fun a => by simp [hfr]
  have oth : ∀ b j, ¬ (b = sb ∧ j = 1) → (Y.setCell ⟨sb, 1, none⟩ (.int .i32 0)).cell? ⟨b, j, none⟩ = X.cell? ⟨b, j, none⟩ := fun b j h => by
    rw [World.cell?_setCell_other _ _ _ _ (fun e => h (by cases e; exact ⟨rfl, rfl⟩)), hcell]
  refine ⟨⟨S.ne, World.cell?_setCell_same _ _ _ (u := .int .i32 1) ((hcell _).trans C.m1), ?_, ?_, ?_, ?_, ?_⟩, ⟨?_, ?_, ?_, ?_⟩, ?_, ?_, ?_⟩
  · rw [oth _ _ (by omega)]; exact C.m36
  · rw [oth _ _ (by omega)]; exact C.m37
  · intro j; rw [frz, C.fr sb j hlt]; exact S.fr j
  · rw [heap_setCell_other _ _ _ _ S.ne]; exact hmp
  · simp [hsz, C.size]; omega
  · obtain ⟨v, hv⟩ := C.wt.c0
    exact ⟨v, by rw [oth _ _ (by omega)]; exact hv⟩
  · rw [oth _ _ (by omega)]; exact C.wt.c2
  · intro j; rw [frz]; exact C.wt.fr j
  · simp [hsz]; exact C.wt.lt
  · intro b j h1 h2 h3
    rw [oth _ _ (by omega)]
    exact C.other b j h1 h2 h3
  · intro b j h
    rw [frz]; exact C.fr b j h
  · exact hb.setCell (p := ⟨sb, 1, none⟩) (Nat.min_le_left _ _) _

theorem below_setM {B : Nat} {a w : World} (h : Below B a w) {mb : Nat} (hm : B ≤ mb) (o : Obj) : Below B a (setM w mb o) :=
  ⟨h.os, h.tape, h.output, by show _ ≤ (w.heap.setIfInBounds mb o).size; simp; exact h.size, fun k hk => by
    show (w.heap.setIfInBounds mb o)[k]? = _
    rw [Array.getElem?_setIfInBounds_ne (by omega)]
    exact h.block k hk⟩

set_option maxRecDepth 100000 in
set_option maxHeartbeats 1000000 in
theorem stop_held (sb mb wb c : Nat) (wt q : Int) (id k : ByteArray) (m : List Ent) (w : World) (S : Sto w sb mb wt id m c) (V : Wt w wb q) (he : get m k = some wb) (hsw : sb ≠ wb) (hq1 : 1 ≤ q) (hq2 : q ≤ 4) (hwt : wt = 0) (hmw : mb ≠ wb) :
    Calls Yba.prog 4 #[.pointer (some ⟨sb, 0, none⟩), .agg #[.string k, .string id, .string ⟨#[]⟩, .string ⟨#[]⟩], .pointer (some ⟨wb, 0, none⟩)] w fun e w' => e = .returned (.tuple #[]) ∧ StopPost w sb mb wb c q id k m w' := by
  subst hwt
  have h1 := S.mu
  have h36 := S.wa
  have h37 := S.wt
  have f1 := S.fr 1
  have hlt := S.lt
  go_enter_defers Yba.func4, Yba.ntmps4
  go_wp2_with fail
  refine (lock_free Yba.muLib ⟨sb, 1, none⟩ _ ?_ ?_).mono ?_
  · go_simp
  · go_simp
  rintro e w1 ⟨rfl, rfl⟩
  go_wp2_with fail
  generalize hW : ((w.setCell ⟨sb, 1, none⟩ (.int .i32 1)).alloc (Obj.cells #[.string k, .string id, .string ⟨#[]⟩, .string ⟨#[]⟩] 99)) = W
  have A := stop_world S V k hsw hW
  have HA : Hid (StopW w sb mb wb c 0 q id k m W) := A
  have k0 := A.k0
  have k1 := A.k1
  have k2 := A.k2
  have k3 := A.k3
  have m1 := A.m1
  have m36 := A.m36
  have m37 := A.m37
  have v2 := A.wt.c2
  have fv2 := A.wt.fr 2
  have f37 : W.frozen? ⟨sb, 37, none⟩ = false := (A.fr sb 37 hlt).trans (S.fr 37)
  have hlk := A.look
  have heq := fun n => A.eql (fun b hb => by rw [he] at hb; cases hb; exact ⟨q, V⟩) (fun b hb => by rw [he] at hb; cases hb; exact Ne.symm hsw) n
  have hgd := guard_ptr
  rw [show decide (get m k = some wb) = true from by simpa using he] at heq
  clear A hW h1 h36 h37 he
  go_quiet (fail)
  by_cases hq : q = 1
  · subst hq
    go_wp2_with fail
    have C := cut_world S V hsw hmw HA.out nq
    rw [show (1 : Int) - 1 = 0 from rfl] at C
    generalize (((W.drewN nq).setCell ⟨sb, 37, none⟩ (.int .i64 (-1))).setCell ⟨wb, 2, none⟩ (.int .i64 0)) = X at C ⊢
    have x0 := C.k0
    have x1 := C.k1
    have x2 := C.k2
    have x3 := C.k3
    have x36 := C.m36
    have hdel : Sem.run Yba.prog (Builtin.delete_ #[63, 99] 0 #[.map (some mb), .agg #[.string k, .string id, .string ⟨#[]⟩, .string ⟨#[]⟩]]) X.drew = .ok (.tuple #[]) (setM X.drew mb (.map ((del m k).map (toE id)).toArray c)) := run_delete (w := X.drew) C.mp k 0
    have HC : Hid (CutW w sb mb wb c 1 id k m X) := C
    clear k0 k1 k2 k3 m1 m36 m37 v2 fv2 f37 hlk heq C
    go_region
    go_wp2_with fail
    refine leaves_cons (f := 6) (args := #[.pointer (some ⟨sb, 1, none⟩)]) (by simp) (by simp [go_sem]) ?_
    refine (unlock_deferred Yba.muLib ⟨sb, 1, none⟩ .returning _ ?_ ?_).mono ?_
    · exact (setM_cell (w := X.drew) HC.out.mp _).trans HC.out.m1
    · exact (setM_frozen (w := X.drew) HC.out.mp _).trans ((HC.out.fr sb 1 hlt).trans f1)
    rintro e u' w'' ⟨rfl, rfl, rfl⟩
    refine ⟨_, results_none rfl _ _ _, rfl, ?_⟩
    refine cut_end S HC.out (fun a => setM_cell (w := X.drew) HC.out.mp a) (fun a => setM_frozen (w := X.drew) HC.out.mp a) (by simp [setM]) ?_ (by rw [if_pos rfl]) (below_setM (Below.drew HC.out.below) (Nat.le_trans (Nat.min_le_right _ _) (Nat.min_le_left _ _)) _)
    have hl := lt_of_map HC.out.mp
    simp [setM, hl]
  · have hqb : (q - 1 == 0) = false := by simp; omega
    have C := cut_world S V hsw hmw HA.out nq
    have HC : Hid (CutW w sb mb wb c q id k m (((W.drewN nq).setCell ⟨sb, 37, none⟩ (.int .i64 (-1))).setCell ⟨wb, 2, none⟩ (.int .i64 (q - 1)))) := C
    clear C
    go_wp2_with fail
    refine leaves_cons (f := 6) (args := #[.pointer (some ⟨sb, 1, none⟩)]) (by simp) (by simp [go_sem]) ?_
    refine (unlock_deferred Yba.muLib ⟨sb, 1, none⟩ .returning _ ?_ ?_).mono ?_
    · exact HC.out.m1
    · exact (HC.out.fr sb 1 hlt).trans f1
    rintro e u' w'' ⟨rfl, rfl, rfl⟩
    refine ⟨_, results_none rfl _ _ _, rfl, ?_⟩
    exact cut_end S HC.out (fun _ => rfl) (fun _ => rfl) rfl HC.out.mp (by rw [if_neg hq]) HC.out.below
end Go.Proofs.Ybulkmjy
