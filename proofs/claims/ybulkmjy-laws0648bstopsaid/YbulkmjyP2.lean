import Derived.Test.YbulkmjyL1
namespace Go.Proofs.Ybulkmjy
open Go.RowKit

/-- a wait's address, or none -/
def adr (o : Option Nat) : Option Addr := o.map fun b => ⟨b, 0, none⟩
theorem optPtr_adr (o : Option Nat) : optPtr o = .pointer (adr o) := by cases o <;> rfl

/-- the selections' row -/
def SelAt (W : World) (sb n : Nat) (kinds : Nat → ByteArray) (id : ByteArray) : Prop :=
  ∀ j, j < n → W.cell? ⟨sb + 1 + 1, j * 4, none⟩ = some (.string (kinds j)) ∧ W.cell? ⟨sb + 1 + 1, j * 4 + 1, none⟩ = some (.string id) ∧ W.cell? ⟨sb + 1 + 1, j * 4 + 2, none⟩ = some (.string ⟨#[]⟩) ∧ W.cell? ⟨sb + 1 + 1, j * 4 + 3, none⟩ = some (.string ⟨#[]⟩)

/-- the world once the selection (in block sv) and the wait (block wb) are chosen -/
structure P2 (w : World) (sb n : Nat) (kinds : Nat → ByteArray) (id : ByteArray) (m : List Ent) (c sv : Nat) (kd : ByteArray) (wb : Nat) (q wt : Int) (W : World) : Prop where
  sto : Sto W sb (sb + 1) wt id m c
  sel : SelAt W sb n kinds id
  sl : sb + 1 + 1 < W.heap.size
  own : ∀ kk b, get m kk = some b → (∃ q, Wt W b q) ∧ sb + 1 + 1 + 1 < b
  v0 : W.cell? ⟨sv, 0, none⟩ = some (.string kd)
  v1 : W.cell? ⟨sv, 1, none⟩ = some (.string id)
  v2 : W.cell? ⟨sv, 2, none⟩ = some (.string ⟨#[]⟩)
  v3 : W.cell? ⟨sv, 3, none⟩ = some (.string ⟨#[]⟩)
  wtb : Wt W wb q
  wgt : sb + 1 + 1 + 1 < wb
  wne : wb ≠ sv
  svg : sb + 1 + 1 + 1 < sv
  below : Below sb w W

theorem Wt.grow {w w' : World} {b : Nat} {q : Int} (V : Wt w b q) {B : Nat} (h : Below B w w') (hb : b < B) : Wt w' b q :=
  ⟨V.c0.imp fun _ e => (h.cell (p := ⟨b, 0, none⟩) hb).trans e, (h.cell (p := ⟨b, 2, none⟩) hb).trans V.c2, fun j => (h.frozen (p := ⟨b, j, none⟩) hb).trans (V.fr j), Nat.lt_of_lt_of_le V.lt h.size⟩

theorem Sto.grow {w w' : World} {sb mb : Nat} {wt : Int} {id : ByteArray} {m : List Ent} {c : Nat} (S : Sto w sb mb wt id m c) (h : Below w.heap.size w w') : Sto w' sb mb wt id m c :=
  ⟨S.ne, (h.cell (p := ⟨sb, 1, none⟩) S.lt).trans S.mu, (h.cell (p := ⟨sb, 36, none⟩) S.lt).trans S.wa, (h.cell (p := ⟨sb, 37, none⟩) S.lt).trans S.wt, fun j => (h.frozen (p := ⟨sb, j, none⟩) S.lt).trans (S.fr j), (h.block mb (lt_of_map S.mp)).trans S.mp, Nat.lt_of_lt_of_le S.lt h.size⟩

theorem SelAt.grow {w w' : World} {sb n : Nat} {kinds : Nat → ByteArray} {id : ByteArray} (S : SelAt w sb n kinds id) {B : Nat} (h : Below B w w') (hb : sb + 1 + 1 < B) : SelAt w' sb n kinds id := fun j hj => by
  obtain ⟨a0, a1, a2, a3⟩ := S j hj
  exact ⟨(h.cell (p := ⟨sb + 1 + 1, j * 4, none⟩) hb).trans a0, (h.cell (p := ⟨sb + 1 + 1, j * 4 + 1, none⟩) hb).trans a1, (h.cell (p := ⟨sb + 1 + 1, j * 4 + 2, none⟩) hb).trans a2, (h.cell (p := ⟨sb + 1 + 1, j * 4 + 3, none⟩) hb).trans a3⟩

theorem P2.grow {w : World} {sb n : Nat} {kinds : Nat → ByteArray} {id : ByteArray} {m : List Ent} {c sv : Nat} {kd : ByteArray} {wb : Nat} {q wt : Int} {W W' : World} (P : P2 w sb n kinds id m c sv kd wb q wt W) (h : Below W.heap.size W W') : P2 w sb n kinds id m c sv kd wb q wt W' := by
  have hv := lt_of_cell P.v0
  exact ⟨P.sto.grow h, P.sel.grow h P.sl, Nat.lt_of_lt_of_le P.sl h.size, fun kk b hg => ⟨(P.own kk b hg).1.imp fun _ V => V.grow h V.lt, (P.own kk b hg).2⟩,
    (h.cell (p := ⟨sv, 0, none⟩) hv).trans P.v0, (h.cell (p := ⟨sv, 1, none⟩) hv).trans P.v1, (h.cell (p := ⟨sv, 2, none⟩) hv).trans P.v2, (h.cell (p := ⟨sv, 3, none⟩) hv).trans P.v3, P.wtb.grow h P.wtb.lt, P.wgt, P.wne, P.svg, P.below.trans (h.mono (by have := P.sto.lt; omega))⟩

theorem P2.drewN {w : World} {sb n : Nat} {kinds : Nat → ByteArray} {id : ByteArray} {m : List Ent} {c sv : Nat} {kd : ByteArray} {wb : Nat} {q wt : Int} {W : World} (P : P2 w sb n kinds id m c sv kd wb q wt W) (i : Nat) : P2 w sb n kinds id m c sv kd wb q wt (W.drewN i) :=
  P.grow ⟨rfl, rfl, rfl, Nat.le_refl _, fun _ _ => rfl⟩

/-- from the first loop's end: the selection's variable and, where a wait is made anew, its block, lie behind all -/
theorem P2.of {w : World} {sb n : Nat} {kinds : Nat → ByteArray} {id : ByteArray} {m : List Ent} {c : Nat} {wr W : World} (S : L1 w sb n kinds id n m c wr) (h : Below wr.heap.size wr W) (kd : ByteArray)
    (hsz : sb + 1 + 1 + 1 < wr.heap.size) (v0 : W.cell? ⟨wr.heap.size, 0, none⟩ = some (.string kd)) (v1 : W.cell? ⟨wr.heap.size, 1, none⟩ = some (.string id)) (v2 : W.cell? ⟨wr.heap.size, 2, none⟩ = some (.string ⟨#[]⟩)) (v3 : W.cell? ⟨wr.heap.size, 3, none⟩ = some (.string ⟨#[]⟩))
    {wb : Nat} {q : Int} (V : Wt W wb q) (hg : sb + 1 + 1 + 1 < wb) (hne : wb ≠ wr.heap.size) : P2 w sb n kinds id m c wr.heap.size kd wb q 0 W :=
  ⟨S.sto.grow h, SelAt.grow (fun j hj => S.sel j hj) h (by omega), Nat.lt_of_lt_of_le (by omega) h.size, fun kk b hh => ⟨(S.own kk b hh).1.imp fun _ V => V.grow h V.lt, (S.own kk b hh).2⟩, v0, v1, v2, v3, V, hg, hne, hsz, S.below.trans (h.mono (by omega))⟩

theorem P2.last {w : World} {sb n : Nat} {kinds : Nat → ByteArray} {id : ByteArray} {m : List Ent} {c sv : Nat} {kd : ByteArray} {wb : Nat} {q wt : Int} {W : World} (P : P2 w sb n kinds id m c sv kd wb q wt W) : sv < W.heap.size := lt_of_cell P.v0

/-- the second loop: the waits that stood under each selection -/
structure L2 (W2 : World) (n : Nat) (kinds : Nat → ByteArray) (m : List Ent) (j : Nat) (wr : World) : Prop where
  jn : j ≤ n
  below : Below W2.heap.size W2 wr
  lt : W2.heap.size < wr.heap.size
  pv : ∀ i, i < j → wr.cell? ⟨W2.heap.size, i, none⟩ = some (.pointer (adr (get m (kinds i))))
  pvX : ∀ i, i < n → ∃ v, wr.cell? ⟨W2.heap.size, i, none⟩ = some v
  pvF : ∀ i, wr.frozen? ⟨W2.heap.size, i, none⟩ = false

theorem L2.start (W2 : World) (n : Nat) (kinds : Nat → ByteArray) (m : List Ent) (z : Array Value) : L2 W2 n kinds m 0 (W2.alloc (Obj.cells (madeCells z n) 100)) :=
  ⟨Nat.zero_le _, (Below.refl _ _).alloc (Nat.le_refl _) _, by simp, fun i h => by omega, fun i hi => by
    obtain ⟨v, hv⟩ := made_there z n i hi
    exact ⟨v, by rw [World.cell?_alloc_at _ _ _ _ rfl]; exact hv⟩, fun i => World.frozen?_alloc_at _ _ _ _ rfl⟩

theorem L2.step {W2 : World} {n : Nat} {kinds : Nat → ByteArray} {m : List Ent} {j : Nat} {wr : World} (S : L2 W2 n kinds m j wr) (hlt : j < n) (X : World) (hX : X = (wr.drew).setCell ⟨W2.heap.size, j, none⟩ (.pointer (adr (get m (kinds j))))) : L2 W2 n kinds m (j + 1) X := by
  subst hX
  refine ⟨hlt, (Below.drew S.below).setCell (p := ⟨W2.heap.size, j, none⟩) (Nat.le_refl _) _, by simpa using S.lt, ?_, ?_, fun i => by simpa using S.pvF i⟩
  · intro i hi
    by_cases h : i = j
    · subst h
      obtain ⟨v, hv⟩ := S.pvX i hlt
      exact World.cell?_setCell_same _ _ _ (u := v) hv
    · rw [World.cell?_setCell_other _ _ _ _ (fun e => h (by cases e; rfl))]
      exact S.pv i (by omega)
  · intro i hi
    obtain ⟨v, hv⟩ := S.pvX i hi
    exact cell?_setCell_some (w := wr.drew) hv

/-- behind stopWaiting -/
structure P3 (w : World) (sb n : Nat) (kinds : Nat → ByteArray) (id : ByteArray) (m m' : List Ent) (c sv : Nat) (kd : ByteArray) (wb pb : Nat) (q wt : Int) (W : World) : Prop where
  p2 : P2 w sb n kinds id m' c sv kd wb q wt W
  pv : ∀ i, i < n → W.cell? ⟨pb, i, none⟩ = some (.pointer (adr (get m (kinds i))))
  old : ∀ kk b, get m kk = some b → ∃ q, Wt W b q

theorem stop_not_P3 {w : World} {sb n : Nat} {kinds : Nat → ByteArray} {id : ByteArray} {m : List Ent} {c sv : Nat} {kd : ByteArray} {wb : Nat} {q : Int} {W2 wr w' : World} (P : P2 w sb n kinds id m c sv kd wb q 0 W2) (S : L2 W2 n kinds m n wr)
    (h : Sto w' sb (sb + 1) 0 id m c ∧ (∀ b j, b ≠ sb → b < wr.heap.size → w'.cell? ⟨b, j, none⟩ = wr.cell? ⟨b, j, none⟩) ∧ (∀ b j, b < wr.heap.size → w'.frozen? ⟨b, j, none⟩ = wr.frozen? ⟨b, j, none⟩) ∧ Below sb wr w') : P3 w sb n kinds id m m c sv kd wb W2.heap.size q 0 w' := by
  obtain ⟨h1, h2, h3, h4⟩ := h
  have P' := P.grow S.below
  have hv := lt_of_cell P'.v0
  have hsvb : sv ≠ sb := by have := P.svg; omega
  have hwt : ∀ b q', Wt wr b q' → sb + 1 + 1 + 1 < b → Wt w' b q' := fun b q' V hb => ⟨V.c0.imp fun _ e => (h2 b 0 (by omega) V.lt).trans e, (h2 b 2 (by omega) V.lt).trans V.c2, fun j => (h3 b j V.lt).trans (V.fr j), Nat.lt_of_lt_of_le V.lt h4.size⟩
  have hpb : W2.heap.size ≠ sb := by have := P.sto.lt; omega
  refine ⟨⟨h1, ?_, Nat.lt_of_lt_of_le P'.sl h4.size, fun kk b hg => ⟨(P'.own kk b hg).1.imp fun q' V => hwt b q' V (P'.own kk b hg).2, (P'.own kk b hg).2⟩, (h2 sv 0 hsvb hv).trans P'.v0, (h2 sv 1 hsvb hv).trans P'.v1, (h2 sv 2 hsvb hv).trans P'.v2, (h2 sv 3 hsvb hv).trans P'.v3, hwt wb q P'.wtb P.wgt, P.wgt, P.wne, P.svg, P'.below.trans h4⟩,
    fun i hi => (h2 _ i hpb S.lt).trans (S.pv i hi), fun kk b hg => (P'.own kk b hg).1.imp fun q' V => hwt b q' V (P'.own kk b hg).2⟩
  intro j hj
  obtain ⟨a0, a1, a2, a3⟩ := P'.sel j hj
  exact ⟨(h2 _ _ (by omega) P'.sl).trans a0, (h2 _ _ (by omega) P'.sl).trans a1, (h2 _ _ (by omega) P'.sl).trans a2, (h2 _ _ (by omega) P'.sl).trans a3⟩

theorem stop_held_P3 {w : World} {sb n : Nat} {kinds : Nat → ByteArray} {id : ByteArray} {m : List Ent} {c sv : Nat} {kd : ByteArray} {wb : Nat} {q : Int} {W2 wr w' : World} (P : P2 w sb n kinds id m c sv kd wb q 0 W2) (S : L2 W2 n kinds m n wr) (hu : Uniq m)
    (h : StopPost wr sb (sb + 1) wb c q id kd m w') : P3 w sb n kinds id m (if q = 1 then del m kd else m) c sv kd wb W2.heap.size (q - 1) (-1) w' := by
  obtain ⟨h1, hV, h2, h3, h4⟩ := h
  have P' := P.grow S.below
  have hv := lt_of_cell P'.v0
  have hsvb : sv ≠ sb := by have := P.svg; omega
  have hwg := P.wgt
  have hmin : min sb (min (sb + 1) wb) = sb := by omega
  rw [hmin] at h4
  have hwt : ∀ b q', Wt wr b q' → sb + 1 + 1 + 1 < b → ∃ q2, Wt w' b q2 := fun b q' V hb => by
    by_cases hbw : b = wb
    · subst hbw; exact ⟨_, hV⟩
    · exact ⟨q', V.c0.imp fun _ e => (h2 b 0 (by omega) hbw V.lt).trans e, (h2 b 2 (by omega) hbw V.lt).trans V.c2, fun j => (h3 b j V.lt).trans (V.fr j), Nat.lt_of_lt_of_le V.lt h4.size⟩
  have hpb : W2.heap.size ≠ sb := by have := P.sto.lt; omega
  have hpw : W2.heap.size ≠ wb := by have := P.wtb.lt; omega
  have hsub : ∀ kk b, get (if q = 1 then del m kd else m) kk = some b → get m kk = some b := by
    intro kk b hg
    split at hg
    · rw [get_del hu] at hg
      split at hg
      · cases hg
      · exact hg
    · exact hg
  refine ⟨⟨h1, ?_, Nat.lt_of_lt_of_le P'.sl h4.size, fun kk b hg => ⟨(P'.own kk b (hsub kk b hg)).1.elim fun q' V => hwt b q' V (P'.own kk b (hsub kk b hg)).2, (P'.own kk b (hsub kk b hg)).2⟩, (h2 sv 0 hsvb (Ne.symm P.wne) hv).trans P'.v0, (h2 sv 1 hsvb (Ne.symm P.wne) hv).trans P'.v1, (h2 sv 2 hsvb (Ne.symm P.wne) hv).trans P'.v2, (h2 sv 3 hsvb (Ne.symm P.wne) hv).trans P'.v3, hV, P.wgt, P.wne, P.svg, P'.below.trans h4⟩,
    fun i hi => (h2 _ i hpb hpw S.lt).trans (S.pv i hi), fun kk b hg => (P'.own kk b hg).1.elim fun q' V => hwt b q' V (P'.own kk b hg).2⟩
  intro j hj
  obtain ⟨a0, a1, a2, a3⟩ := P'.sel j hj
  exact ⟨(h2 _ _ (by omega) (by omega) P'.sl).trans a0, (h2 _ _ (by omega) (by omega) P'.sl).trans a1, (h2 _ _ (by omega) (by omega) P'.sl).trans a2, (h2 _ _ (by omega) (by omega) P'.sl).trans a3⟩

theorem eql_key (w : World) (id a b : ByteArray) : Sem.run Yba.prog (binOp .eql 99 (.agg #[.string a, .string id, .string ⟨#[]⟩, .string ⟨#[]⟩]) (.agg #[.string b, .string id, .string ⟨#[]⟩, .string ⟨#[]⟩])) w = .ok (.bool (a == b)) w := by
  have h := equal_key w id a b
  unfold skey at h
  simp only [binOp]
  rw [Sem.run_bind, h]
  rfl

theorem L2.drewN {W2 : World} {n : Nat} {kinds : Nat → ByteArray} {m : List Ent} {j : Nat} {wr : World} (S : L2 W2 n kinds m j wr) (i : Nat) : L2 W2 n kinds m j (wr.drewN i) :=
  ⟨S.jn, ⟨S.below.os, S.below.tape, S.below.output, S.below.size, S.below.block⟩, S.lt, S.pv, S.pvX, S.pvF⟩

theorem P2.lookup {w : World} {sb n : Nat} {kinds : Nat → ByteArray} {id : ByteArray} {m : List Ent} {c sv : Nat} {kd : ByteArray} {wb : Nat} {q wt : Int} {W : World} (P : P2 w sb n kinds id m c sv kd wb q wt W) (k : ByteArray) (i : Nat) :
    Sem.run Yba.prog (Instr.lookup 63 (.map (some (sb + 1))) (.agg #[.string k, .string id, .string ⟨#[]⟩, .string ⟨#[]⟩]) false) (W.drewN i) = .ok (.pointer (adr (get m k))) (W.drewN i) := by rw [← optPtr_adr]; exact run_lookup (w := W.drewN i) P.sto.mp k
theorem P2.lookupOk {w : World} {sb n : Nat} {kinds : Nat → ByteArray} {id : ByteArray} {m : List Ent} {c sv : Nat} {kd : ByteArray} {wb : Nat} {q wt : Int} {W : World} (P : P2 w sb n kinds id m c sv kd wb q wt W) (k : ByteArray) (i : Nat) :
    Sem.run Yba.prog (Instr.lookup 63 (.map (some (sb + 1))) (.agg #[.string k, .string id, .string ⟨#[]⟩, .string ⟨#[]⟩]) true) (W.drewN i) = .ok (.tuple #[.pointer (adr (get m k)), .bool (get m k).isSome]) (W.drewN i) := by rw [← optPtr_adr]; exact run_lookup_ok (w := W.drewN i) P.sto.mp k
theorem P2.len {w : World} {sb n : Nat} {kinds : Nat → ByteArray} {id : ByteArray} {m : List Ent} {c sv : Nat} {kd : ByteArray} {wb : Nat} {q wt : Int} {W : World} (P : P2 w sb n kinds id m c sv kd wb q wt W) (i : Nat) (ty : TypeId) :
    Sem.run Yba.prog (Builtin.len_ #[63] ty #[.map (some (sb + 1))]) (W.drewN i) = .ok (.int .i64 m.length) (W.drewN i) := run_len (w := W.drewN i) P.sto.mp ty
theorem P2.eqlW {w : World} {sb n : Nat} {kinds : Nat → ByteArray} {id : ByteArray} {m : List Ent} {c sv : Nat} {kd : ByteArray} {wb : Nat} {q wt : Int} {W : World} (P : P2 w sb n kinds id m c sv kd wb q wt W) (k : ByteArray) (i : Nat) :
    Sem.run Yba.prog (binOp .eql 100 (.pointer (adr (get m k))) (.pointer (some ⟨wb, 0, none⟩))) (W.drewN i) = .ok (.bool (decide (get m k = some wb))) (W.drewN i) := by
  rw [← optPtr_adr]
  exact eql_ptr (W.drewN i) (get m k) (some wb) (fun b hb => (P.own k b hb).1.imp fun _ V => V.drewN i) (fun b hb => by cases hb; exact ⟨q, P.wtb.drewN i⟩)

theorem P3.neqSame {w : World} {sb n : Nat} {kinds : Nat → ByteArray} {id : ByteArray} {m m' : List Ent} {c sv : Nat} {kd : ByteArray} {wb pb : Nat} {q wt : Int} {W : World} (P : P3 w sb n kinds id m m' c sv kd wb pb q wt W) (k : ByteArray) (i : Nat) :
    Sem.run Yba.prog (binOp .neq 100 (.pointer (adr (get m k))) (.pointer (adr (get m k)))) (W.drewN i) = .ok (.bool false) (W.drewN i) := by
  rw [← optPtr_adr]
  have h := neq_ptr (W.drewN i) (get m k) (get m k) (fun b hb => (P.old k b hb).imp fun _ V => V.drewN i) (fun b hb => (P.old k b hb).imp fun _ V => V.drewN i)
  simpa using h
theorem P3.neqW {w : World} {sb n : Nat} {kinds : Nat → ByteArray} {id : ByteArray} {m m' : List Ent} {c sv : Nat} {kd : ByteArray} {wb pb : Nat} {q wt : Int} {W : World} (P : P3 w sb n kinds id m m' c sv kd wb pb q wt W) (i : Nat) :
    Sem.run Yba.prog (binOp .neq 100 (.pointer (some ⟨wb, 0, none⟩)) (.pointer (some ⟨wb, 0, none⟩))) (W.drewN i) = .ok (.bool false) (W.drewN i) := by
  have h := neq_ptr (W.drewN i) (some wb) (some wb) (fun b hb => by cases hb; exact ⟨q, P.p2.wtb.drewN i⟩) (fun b hb => by cases hb; exact ⟨q, P.p2.wtb.drewN i⟩)
  simpa [optPtr, ptr] using h
theorem neq_nil (w : World) (o : Option Nat) : Sem.run Yba.prog (binOp .neq 100 (.pointer (adr o)) (.pointer none)) w = .ok (.bool o.isSome) w := by
  have h : ∀ d : Nat, (Op.equalIn (d + 1) 100 (.pointer (adr o)) (.pointer none)).run Yba.prog w = .ok o.isNone w := fun d => by
    cases o <;> simp [Op.equalIn, run_underlying Yba.underlying100, adr]
  simp only [binOp]
  cases o <;> simp [Op.equal, Op.maxDepth, h 9999]
theorem guard_key (op : BinOp) (x y : Operand) (xs ys : Array Value) (w : World) : Sem.run Yba.prog (eqGuard op 99 x y (.agg xs) (.agg ys)) w = .ok () w := run_eqGuard_agg w op 99 x y xs ys (by kernel_rfl)
theorem toList_ne {a b : ByteArray} (h : a ≠ b) : ¬ a.toList = b.toList := fun e => h (by
  rw [ByteArray.toList_eq, ByteArray.toList_eq] at e
  cases a; cases b; simp_all [Array.toList_inj])
end Go.Proofs.Ybulkmjy
