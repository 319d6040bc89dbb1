import Derived.Test.YbulkmjyRows
import Derived.WalkKit
import Derived.Laws.StructEq
import Derived.WideLaws
import Derived.MapKept
namespace Go.Proofs.Ybulkmjy
open Go.RowKit

/-- a selection of a kind and an id -/
def skey (id k : ByteArray) : Value := .agg #[.string k, .string id, .string ⟨#[]⟩, .string ⟨#[]⟩]

theorem fields99 : (Yba.prog.fieldsOf 99).toList.map (fun f => (f.name == "_", f.type, f.offset)) = [(false, 9, 0), (false, 9, 1), (false, 9, 2), (false, 9, 3)] := by kernel_rfl
theorem under99 : Yba.prog.underlying 99 = some (.struct (Yba.prog.fieldsOf 99)) := by kernel_rfl
theorem held99 : Yba.prog.stoodInHeld 99 = false := by kernel_rfl

theorem four {α β : Type} {f : α → β} {l : List α} {a b c d : β} (h : l.map f = [a, b, c, d]) : ∃ w x y z, l = [w, x, y, z] ∧ f w = a ∧ f x = b ∧ f y = c ∧ f z = d := by
  match l, h with
  | [w, x, y, z], h => simp at h; exact ⟨w, x, y, z, rfl, h.1, h.2.1, h.2.2.1, h.2.2.2⟩

theorem beq_list (a b : ByteArray) : (a.toList == b.toList) = (a == b) := (beq_toListBytes a b).symm

set_option maxRecDepth 100000 in
theorem equal_key (w : World) (id a b : ByteArray) : Sem.run Yba.prog (Op.equal 99 (skey id a) (skey id b)) w = .ok (a == b) w := by
  obtain ⟨f0, f1, f2, f3, hl, h0, h1, h2, h3⟩ := four fields99
  simp only [Prod.mk.injEq, beq_eq_false_iff_ne] at h0 h1 h2 h3
  obtain ⟨n0, t0, o0⟩ := h0
  obtain ⟨_, t1, o1⟩ := h1
  obtain ⟨_, t2, o2⟩ := h2
  obtain ⟨_, t3, o3⟩ := h3
  unfold Op.equal Op.maxDepth skey
  rw [run_equalIn_struct w 9999 99 _ _ under99 held99, hl]
  simp only [Op.eqFields, t0, t1, t2, t3, o0, o1, o2, o3]
  simp [go_sem, beq_list]
  rw [if_neg n0]
  cases a == b <;> rfl

theorem check9 (w : World) (em : Bool) (n : Nat) (s : ByteArray) : Sem.run Yba.prog (Instr.checkKey em (n + 1) 9 (.string s)) w = .ok () w := by
  simp [Instr.checkKey, run_underlying Yba.underlying9]

theorem check_keyN (w : World) (em : Bool) (id a : ByteArray) (n : Nat) : Sem.run Yba.prog (Instr.checkKey em (n + 2) 99 (skey id a)) w = .ok () w := by
  obtain ⟨f0, f1, f2, f3, hl, h0, h1, h2, h3⟩ := four fields99
  simp only [Prod.mk.injEq, beq_eq_false_iff_ne] at h0 h1 h2 h3
  obtain ⟨n0, t0, o0⟩ := h0
  obtain ⟨n1, t1, o1⟩ := h1
  obtain ⟨n2, t2, o2⟩ := h2
  obtain ⟨n3, t3, o3⟩ := h3
  unfold skey Instr.checkKey
  simp only [Sem.run_bind, run_underlying under99, Result.andThen_ok]
  rw [← Array.forIn_toList, hl]
  simp [n0, n1, n2, n3, t0, t1, t2, t3, o0, o1, o2, o3, go_sem, check9]
theorem check_key (w : World) (em : Bool) (id a : ByteArray) : Sem.run Yba.prog (Instr.checkKey em 10000 99 (skey id a)) w = .ok () w := check_keyN w em id a 9998

theorem ba_beq (a b : ByteArray) : (a == b) = true ↔ a = b := by
  obtain ⟨x⟩ := a
  obtain ⟨y⟩ := b
  show (x == y) = true ↔ _
  simp
theorem ba_self (a : ByteArray) : (a == a) = true := (ba_beq a a).2 rfl
theorem ba_ne {a b : ByteArray} (h : a ≠ b) : (a == b) = false := by
  cases e : a == b
  · rfl
  · exact absurd ((ba_beq a b).1 e) h

/-- an entry of the map: the kind, the block of its wait, when it was laid -/
abbrev Ent := ByteArray × Nat × Nat
def ptr (b : Nat) : Value := .pointer (some ⟨b, 0, none⟩)
def optPtr : Option Nat → Value
  | some b => ptr b
  | none => .pointer none
def toE (id : ByteArray) (e : Ent) : MapEntry := { key := skey id e.1, val := ptr e.2.1, born := e.2.2 }

/-- the first entry of the kind k: its place and its block -/
def fnd (k : ByteArray) : List Ent → Nat → Option (Nat × Nat)
  | [], _ => none
  | e :: es, i => if k == e.1 then some (i, e.2.1) else fnd k es (i + 1)

theorem run_findAsking (w : World) (id k : ByteArray) : ∀ (m : List Ent) (i : Nat), Sem.run Yba.prog (Instr.findAsking 99 (skey id k) (m.map (toE id)) i) w = .ok ((fnd k m i).map fun x => (x.1, ptr x.2)) w
  | [], i => by simp [Instr.findAsking, fnd]
  | e :: es, i => by
    simp only [List.map_cons, Instr.findAsking, fnd, toE, Sem.run_bind, equal_key, Result.andThen_ok]
    cases k == e.1
    · simpa using run_findAsking w id k es (i + 1)
    · simp

theorem run_findKey (w : World) (id k : ByteArray) (m : List Ent) : Sem.run Yba.prog (Instr.findKey 99 (skey id k) (m.map (toE id))) w = .ok ((fnd k m 0).map fun x => (x.1, ptr x.2)) w := by
  unfold Instr.findKey
  simp only [Sem.run_bind, run_underlying under99, Result.andThen_ok]
  cases m with
  | nil => simp [Instr.findNow, fnd]
  | cons e es =>
    have h : Instr.findNow (.struct (Yba.prog.fieldsOf 99)) (skey id k) ((e :: es).map (toE id)) 0 = none := by
      simp [Instr.findNow, Instr.sameNow]
    rw [h]
    exact run_findAsking w id k (e :: es) 0

def get (m : List Ent) (k : ByteArray) : Option Nat := (fnd k m 0).map (·.2)

theorem run_lookup {w : World} {mb c : Nat} {id : ByteArray} {m : List Ent} (h : w.heap[mb]? = some (.map (m.map (toE id)).toArray c)) (k : ByteArray) :
    Sem.run Yba.prog (Instr.lookup 63 (.map (some mb)) (skey id k) false) w = .ok (optPtr (get m k)) w := by
  unfold Instr.lookup get
  simp only [Sem.run_bind, run_underlying Yba.underlying63, Result.andThen_ok, run_getObj_map w mb _ _ h, Sem.run_pure, check_key, run_findKey]
  cases fnd k m 0 with
  | none => simp [optPtr]
  | some x => simp [optPtr]

theorem run_lookup_ok {w : World} {mb c : Nat} {id : ByteArray} {m : List Ent} (h : w.heap[mb]? = some (.map (m.map (toE id)).toArray c)) (k : ByteArray) :
    Sem.run Yba.prog (Instr.lookup 63 (.map (some mb)) (skey id k) true) w = .ok (.tuple #[optPtr (get m k), .bool (get m k).isSome]) w := by
  unfold Instr.lookup get
  simp only [Sem.run_bind, run_underlying Yba.underlying63, Result.andThen_ok, run_getObj_map w mb _ _ h, Sem.run_pure, check_key, run_findKey]
  cases fnd k m 0 with
  | none => simp [optPtr]
  | some x => simp [optPtr]

/-- the world with another map in block mb -/
def setM (w : World) (mb : Nat) (o : Obj) : World := { w with heap := w.heap.setIfInBounds mb o }

def upd (m : List Ent) (k : ByteArray) (b c : Nat) : List Ent :=
  match fnd k m 0 with
  | some (i, _) => m.modify i fun e => (e.1, b, e.2.2)
  | none => m ++ [(k, b, c)]
def updC (m : List Ent) (k : ByteArray) (c : Nat) : Nat := match fnd k m 0 with | some _ => c | none => c + 1
def del (m : List Ent) (k : ByteArray) : List Ent := match fnd k m 0 with | some (i, _) => m.eraseIdx i | none => m

theorem fnd_spec (k : ByteArray) : ∀ (m : List Ent) (i j b : Nat), fnd k m i = some (j, b) → ∃ d, j = i + d ∧ ∃ e, m[d]? = some e ∧ e.1 = k ∧ e.2.1 = b
  | [], i, j, b, h => by simp [fnd] at h
  | e :: es, i, j, b, h => by
    unfold fnd at h
    split at h
    · rename_i he
      simp only [Option.some.injEq, Prod.mk.injEq] at h
      exact ⟨0, by omega, e, rfl, ((ba_beq _ _).1 he).symm, h.2⟩
    · obtain ⟨d, hd, e', h1, h2, h3⟩ := fnd_spec k es (i + 1) j b h
      exact ⟨d + 1, by omega, e', by simpa using h1, h2, h3⟩

theorem sameBits_self (id k : ByteArray) : Instr.sameBits 10000 (skey id k) (skey id k) = true := by
  show Instr.sameBits (9999 + 1) (skey id k) (skey id k) = true
  generalize 9999 = n
  simp [skey, Instr.sameBits, ba_self]

theorem run_update {w : World} {mb c : Nat} {id : ByteArray} {m : List Ent} (h : w.heap[mb]? = some (.map (m.map (toE id)).toArray c)) (k : ByteArray) (b : Nat) :
    Sem.run Yba.prog (Instr.mapUpdate 63 (.map (some mb)) (skey id k) (ptr b)) w = .ok () (setM w mb (.map ((upd m k b c).map (toE id)).toArray (updC m k c))) := by
  unfold Instr.mapUpdate upd updC
  simp only [Sem.run_bind, run_underlying Yba.underlying63, Result.andThen_ok, run_getObj_map w mb _ _ h, check_key, run_findKey]
  cases hf : fnd k m 0 with
  | none =>
    simp only [Option.map_none]
    rw [MapKept.run_setObj_map _ h]
    simp [setM, toE]
  | some x =>
    obtain ⟨j, b0⟩ := x
    obtain ⟨d, hd, e, h1, h2, h3⟩ := fnd_spec k m 0 j b0 hf
    have hj : j = d := by omega
    subst hj
    have hk : (((m.map (toE id)).toArray[j]?).map (·.key)).getD (skey id k) = skey id k := by
      simp [h1, toE, h2]
    have hks : Sem.run Yba.prog (Instr.keyThatStays (skey id k) (skey id k)) w = .ok (skey id k) w := by
      unfold Instr.keyThatStays
      rw [sameBits_self]
      simp
    simp only [Option.map_some, Sem.run_bind, hk, hks, Result.andThen_ok]
    rw [MapKept.run_setObj_map _ h]
    have e1 : (m.map (toE id)).toArray.modify j (fun x => { x with key := skey id k, val := ptr b }) = ((m.modify j fun e => (e.1, b, e.2.2)).map (toE id)).toArray := by
      apply Array.ext'
      rw [Array.toList_modify]
      apply List.ext_getElem?
      intro i
      simp only [List.getElem?_modify, List.getElem?_map]
      by_cases hi : j = i
      · subst hi
        simp [h1, toE, h2]
      · simp [hi]
    rw [e1]
    rfl

theorem eraseIdx_mapped {α β : Type} (f : α → β) : ∀ (l : List α) (j : Nat), (l.map f).eraseIdx j = (l.eraseIdx j).map f
  | [], _ => rfl
  | _ :: _, 0 => rfl
  | x :: xs, j + 1 => by simp [eraseIdx_mapped f xs j]

theorem run_delete {w : World} {mb c : Nat} {id : ByteArray} {m : List Ent} (h : w.heap[mb]? = some (.map (m.map (toE id)).toArray c)) (k : ByteArray) (ty : TypeId) :
    Sem.run Yba.prog (Builtin.delete_ #[63, 99] ty #[.map (some mb), skey id k]) w = .ok (.tuple #[]) (setM w mb (.map ((del m k).map (toE id)).toArray c)) := by
  unfold Builtin.delete_ del
  simp only [List.getElem?_toArray, List.getElem?_cons_zero, List.getElem?_cons_succ, Sem.run_bind, run_underlying Yba.underlying63, Result.andThen_ok, run_getObj_map w mb _ _ h, check_key, run_findKey]
  cases hf : fnd k m 0 with
  | none =>
    simp only [Option.map_none]
    rw [Sem.run_bind, MapKept.run_setObj_map _ h]
    simp [setM]
  | some x =>
    obtain ⟨j, b0⟩ := x
    obtain ⟨d, hd, e, h1, h2, h3⟩ := fnd_spec k m 0 j b0 hf
    have hj : j = d := by omega
    subst hj
    have hlt : j < m.length := by
      rcases Nat.lt_or_ge j m.length with h' | h'
      · exact h'
      · rw [List.getElem?_eq_none h'] at h1; cases h1
    simp only [Option.map_some]
    rw [Sem.run_bind, MapKept.run_setObj_map _ h]
    have e1 : (m.map (toE id)).toArray.eraseIdxIfInBounds j = ((m.eraseIdx j).map (toE id)).toArray := by
      apply Array.ext'
      simp [Array.eraseIdxIfInBounds, hlt, eraseIdx_mapped]
    rw [e1]
    simp [setM]

theorem run_len {w : World} {mb c : Nat} {id : ByteArray} {m : List Ent} (h : w.heap[mb]? = some (.map (m.map (toE id)).toArray c)) (ty : TypeId) :
    Sem.run Yba.prog (Builtin.len_ #[63] ty #[.map (some mb)]) w = .ok (.int .i64 m.length) w := by
  unfold Builtin.len_
  simp only [List.getElem?_toArray, List.getElem?_cons_zero, Sem.run_bind, run_underlying Yba.underlying63, Result.andThen_ok, run_getObj_map w mb _ _ h]
  simp [goInt]

/-! ### the map as a plain list -/
def Uniq (m : List Ent) : Prop := (m.map (·.1)).Nodup

theorem fnd_shift (k : ByteArray) : ∀ (m : List Ent) (i : Nat), fnd k m i = (fnd k m 0).map fun x => (x.1 + i, x.2)
  | [], i => rfl
  | e :: es, i => by
    unfold fnd
    split
    · simp
    · rw [fnd_shift k es (i + 1), fnd_shift k es (0 + 1), Option.map_map]
      congr 1
      funext x
      simp
      omega

theorem get_cons (e : Ent) (es : List Ent) (k : ByteArray) : get (e :: es) k = if k == e.1 then some e.2.1 else get es k := by
  simp only [get, fnd]
  split
  · rfl
  · rw [fnd_shift, Option.map_map]
    rfl

theorem get_none_iff (m : List Ent) (k : ByteArray) : get m k = none ↔ k ∉ m.map (·.1) := by
  induction m with
  | nil => simp [get, fnd]
  | cons e es ih =>
    rw [get_cons]
    by_cases h : k = e.1
    · subst h; simp [ba_self]
    · rw [ba_ne h]; simp [ih, h]

theorem fnd_none_of_get {m : List Ent} {k : ByteArray} (h : get m k = none) : fnd k m 0 = none := by
  unfold get at h
  cases e : fnd k m 0 with
  | none => rfl
  | some x => rw [e] at h; cases h

theorem get_append (a b : List Ent) (k : ByteArray) : get (a ++ b) k = (get a k).or (get b k) := by
  induction a with
  | nil => simp [get, fnd]
  | cons e es ih =>
    rw [List.cons_append, get_cons, get_cons]
    split
    · rfl
    · exact ih

theorem keys_modify (m : List Ent) (j b : Nat) : (m.modify j fun e => (e.1, b, e.2.2)).map (·.1) = m.map (·.1) := by
  apply List.ext_getElem?
  intro i
  simp only [List.getElem?_map, List.getElem?_modify]
  by_cases h : j = i
  · subst h
    cases m[j]? <;> simp
  · simp [h]

theorem uniq_upd {m : List Ent} (h : Uniq m) (k : ByteArray) (b c : Nat) : Uniq (upd m k b c) := by
  unfold upd Uniq
  cases hf : fnd k m 0 with
  | some x => rw [keys_modify]; exact h
  | none =>
    have : get m k = none := by unfold get; rw [hf]; rfl
    rw [get_none_iff] at this
    simp only [List.map_append, List.map_cons, List.map_nil]
    rw [List.nodup_append]
    refine ⟨h, by simp, ?_⟩
    intro a ha b' hb e
    simp at hb
    subst hb e
    exact this ha

theorem get_of_mem {m : List Ent} (h : Uniq m) {d : Nat} {e : Ent} (he : m[d]? = some e) : get m e.1 = some e.2.1 := by
  induction m generalizing d with
  | nil => simp at he
  | cons x xs ih =>
    rw [get_cons]
    unfold Uniq at h
    rw [List.map_cons, List.nodup_cons] at h
    cases d with
    | zero => simp at he; subst he; simp [ba_self]
    | succ d =>
      have hm : xs[d]? = some e := by simpa using he
      have hmem : e.1 ∈ xs.map (·.1) := List.mem_map.2 ⟨e, List.mem_of_getElem? hm, rfl⟩
      have hne : e.1 ≠ x.1 := fun hh => h.1 (hh ▸ hmem)
      rw [ba_ne hne]
      exact ih h.2 hm

theorem get_ext {m m' : List Ent} (h : Uniq m) (h' : Uniq m') (k : ByteArray) (hiff : ∀ b : Nat, (∃ (d : Nat) (e : Ent), m[d]? = some e ∧ e.1 = k ∧ e.2.1 = b) ↔ (∃ (d : Nat) (e : Ent), m'[d]? = some e ∧ e.1 = k ∧ e.2.1 = b)) : get m k = get m' k := by
  have key : ∀ {m : List Ent}, Uniq m → ∀ b, get m k = some b ↔ ∃ (d : Nat) (e : Ent), m[d]? = some e ∧ e.1 = k ∧ e.2.1 = b := by
    intro m hm b
    constructor
    · intro hg
      unfold get at hg
      cases hf : fnd k m 0 with
      | none => rw [hf] at hg; cases hg
      | some x =>
        rw [hf] at hg
        obtain ⟨j, b0⟩ := x
        obtain ⟨d, _, e, h1, h2, h3⟩ := fnd_spec k m 0 j b0 hf
        simp at hg
        exact ⟨d, e, h1, h2, h3.trans hg⟩
    · rintro ⟨d, e, h1, rfl, rfl⟩
      exact get_of_mem hm h1
  apply Option.ext
  intro b
  rw [key h b, key h' b]
  exact hiff b

theorem get_upd {m : List Ent} (h : Uniq m) (k k' : ByteArray) (b c : Nat) : get (upd m k b c) k' = if k' = k then some b else get m k' := by
  have hu := uniq_upd h k b c
  by_cases hk : k' = k
  · subst hk
    rw [if_pos rfl]
    cases hf : fnd k' m 0 with
    | none =>
      have e : upd m k' b c = m ++ [(k', b, c)] := by unfold upd; rw [hf]
      have hg : get m k' = none := by unfold get; rw [hf]; rfl
      rw [e, get_append, hg, get_cons]
      simp [ba_self]
    | some x =>
      obtain ⟨j, b0⟩ := x
      have e : upd m k' b c = m.modify j fun e => (e.1, b, e.2.2) := by unfold upd; rw [hf]
      obtain ⟨d, hd, e0, h1, h2, h3⟩ := fnd_spec k' m 0 j b0 hf
      have hj : j = d := by omega
      subst hj
      have hm : (upd m k' b c)[j]? = some (e0.1, b, e0.2.2) := by rw [e, List.getElem?_modify, h1]; simp
      have := get_of_mem hu hm
      rw [h2] at this
      exact this
  · rw [if_neg hk]
    apply get_ext hu h
    intro b'
    cases hf : fnd k m 0 with
    | none =>
      have e : upd m k b c = m ++ [(k, b, c)] := by unfold upd; rw [hf]
      rw [e]
      constructor
      · rintro ⟨d, e0, h1, h2, h3⟩
        rw [List.getElem?_append] at h1
        split at h1
        · exact ⟨d, e0, h1, h2, h3⟩
        · have := List.mem_of_getElem? h1
          simp at this
          subst this
          exact absurd h2.symm hk
      · rintro ⟨d, e0, h1, h2, h3⟩
        have hl : d < m.length := by
          rcases Nat.lt_or_ge d m.length with h' | h'
          · exact h'
          · rw [List.getElem?_eq_none h'] at h1; cases h1
        exact ⟨d, e0, by rw [List.getElem?_append_left hl]; exact h1, h2, h3⟩
    | some x =>
      obtain ⟨j, b0⟩ := x
      have e : upd m k b c = m.modify j fun e => (e.1, b, e.2.2) := by unfold upd; rw [hf]
      obtain ⟨d', hd', e1, g1, g2, g3⟩ := fnd_spec k m 0 j b0 hf
      have hj : j = d' := by omega
      subst hj
      rw [e]
      constructor
      · rintro ⟨d, e0, h1, h2, h3⟩
        rw [List.getElem?_modify] at h1
        by_cases hjd : j = d
        · subst hjd
          rw [g1] at h1
          simp at h1
          subst h1
          exact absurd (h2.symm.trans g2) hk
        · simp [hjd] at h1
          exact ⟨d, e0, h1, h2, h3⟩
      · rintro ⟨d, e0, h1, h2, h3⟩
        have hjd : j ≠ d := fun hh => by
          subst hh
          rw [g1] at h1
          simp at h1
          subst h1
          exact hk (h2.symm.trans g2)
        exact ⟨d, e0, by rw [List.getElem?_modify]; simp [hjd, h1], h2, h3⟩

theorem uniq_del {m : List Ent} (h : Uniq m) (k : ByteArray) : Uniq (del m k) := by
  unfold del Uniq
  cases fnd k m 0 with
  | none => exact h
  | some x =>
    simp only []
    rw [← eraseIdx_mapped]
    exact List.Nodup.sublist (List.eraseIdx_sublist _ _) h

theorem get_del {m : List Ent} (h : Uniq m) (k k' : ByteArray) : get (del m k) k' = if k' = k then none else get m k' := by
  have hu := uniq_del h k
  cases hf : fnd k m 0 with
  | none =>
    have hg : get m k = none := by unfold get; rw [hf]; rfl
    have e : del m k = m := by unfold del; rw [hf]
    rw [e]
    by_cases hk : k' = k
    · subst hk; rw [if_pos rfl]; exact hg
    · rw [if_neg hk]
  | some x =>
    obtain ⟨j, b0⟩ := x
    obtain ⟨d', hd', e1, g1, g2, g3⟩ := fnd_spec k m 0 j b0 hf
    have hj : j = d' := by omega
    subst hj
    have e : del m k = m.eraseIdx j := by unfold del; rw [hf]
    by_cases hk : k' = k
    · subst hk
      rw [if_pos rfl, get_none_iff, e]
      intro hmem
      obtain ⟨x, hx, hxk⟩ := List.mem_map.1 hmem
      rw [List.mem_eraseIdx_iff_getElem?] at hx
      obtain ⟨i, hij, hi⟩ := hx
      have hl1 : i < m.length := by
        rcases Nat.lt_or_ge i m.length with h' | h'
        · exact h'
        · rw [List.getElem?_eq_none h'] at hi; cases hi
      have n1 : ∀ i j, i < j → j < (m.map (·.1)).length → (m.map (·.1))[i]? ≠ (m.map (·.1))[j]? := by
        intro i j h1 h2 h3
        rw [List.getElem?_eq_getElem h2, List.getElem?_eq_getElem (Nat.lt_trans h1 h2)] at h3
        exact (List.pairwise_iff_getElem.1 h) i j (Nat.lt_trans h1 h2) h2 h1 (Option.some.inj h3)
      rcases Nat.lt_or_ge i j with hlt | hge
      · have hjl : j < (m.map (·.1)).length := by
          rw [List.length_map]
          rcases Nat.lt_or_ge j m.length with h' | h'
          · exact h'
          · rw [List.getElem?_eq_none h'] at g1; cases g1
        exact n1 i j hlt hjl (by simp [hi, g1, hxk, g2])
      · exact n1 j i (by omega) (by simpa using hl1) (by simp [hi, g1, hxk, g2])
    · rw [if_neg hk]
      apply get_ext hu h
      intro b'
      rw [e]
      constructor
      · rintro ⟨d, e0, h1, h2, h3⟩
        have hmem := List.mem_of_getElem? h1
        rw [List.mem_eraseIdx_iff_getElem?] at hmem
        obtain ⟨i, hij, hi⟩ := hmem
        exact ⟨i, e0, hi, h2, h3⟩
      · rintro ⟨d, e0, h1, h2, h3⟩
        have hjd : d ≠ j := fun hh => by
          subst hh
          rw [g1] at h1
          simp at h1
          subst h1
          exact hk (h2.symm.trans g2)
        have hmem : e0 ∈ m.eraseIdx j := by
          rw [List.mem_eraseIdx_iff_getElem?]
          exact ⟨d, hjd, h1⟩
        obtain ⟨i, hi, hie⟩ := List.getElem_of_mem hmem
        exact ⟨i, e0, by rw [List.getElem?_eq_getElem hi, hie], h2, h3⟩

theorem length_del {m : List Ent} {k : ByteArray} {b : Nat} (h : get m k = some b) : (del m k).length + 1 = m.length := by
  unfold get at h
  cases hf : fnd k m 0 with
  | none => rw [hf] at h; cases h
  | some x =>
    obtain ⟨j, b0⟩ := x
    obtain ⟨d', hd', e1, g1, g2, g3⟩ := fnd_spec k m 0 j b0 hf
    have hj : j = d' := by omega
    subst hj
    have hl1 : j < m.length := by
      rcases Nat.lt_or_ge j m.length with h' | h'
      · exact h'
      · rw [List.getElem?_eq_none h'] at g1; cases g1
    unfold del
    rw [hf]
    simp only []
    rw [List.length_eraseIdx_of_lt hl1]
    omega
end Go.Proofs.Ybulkmjy
