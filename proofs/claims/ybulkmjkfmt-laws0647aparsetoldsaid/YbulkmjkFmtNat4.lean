import Derived.Test.YbulkmjkFmtNat3
namespace Go.Proofs.YbulkmjkFmt
open Go.RowKit

set_option maxRecDepth 100000 in
set_option maxHeartbeats 1000000 in
theorem setWord_any (B : Nat) (v : Value) (r : Nat) (w : World) (hB : B ≤ w.heap.size) (hr : r < W64) (hv : NatV w B v []) :
    Calls Ybaf.prog 40 #[v, .int .u64 r] w fun e w' => ∃ v', e = .returned v' ∧ Hid (∃ ws', NatV w' B v' ws' ∧ val ws' = r ∧ ws'.length ≤ 1 ∧ Below B w w') := by
  obtain ⟨_, _, hv⟩ := hv
  by_cases h0 : r = 0
  · subst h0
    rcases hv with ⟨rfl, _⟩ | ⟨g, cap, rfl, R, _⟩
    · go_enter Ybaf.func40, Ybaf.ntmps40
      go_wp2
      go_ret
      exact ⟨_, rfl, [], ⟨norm_nil, by simp, Or.inl ⟨rfl, rfl⟩⟩, rfl, by simp, Below.refl _ _⟩
    · have hl := R.len
      have hm := R.most
      go_enter Ybaf.func40, Ybaf.ntmps40
      go_wp2
      go_ret
      exact ⟨_, rfl, [], ⟨norm_nil, by simp, Or.inr ⟨g, cap, rfl, R, by simp⟩⟩, rfl, by simp, Below.refl _ _⟩
  · have hb : ((r : Int) == 0) = false := by simp; omega
    have fin : ∀ w' g cap, Room w' B g 1 cap → Below w.heap.size w w' → NatV (w'.setCell ⟨g, 0, none⟩ (.int .u64 r)) B (.slice (some ⟨g, 0, none⟩) 1 cap) [r] ∧ Below B w (w'.setCell ⟨g, 0, none⟩ (.int .u64 r)) := by
      intro w' g cap R hbl
      refine ⟨⟨fun _ => by simpa using h0, ?_, Or.inr ⟨g, cap, rfl, ?_, ?_⟩⟩, (hbl.mono hB).setCell R.base _⟩
      · intro j h
        have : j = 0 := by simp at h; omega
        subst this
        exact hr
      · exact ⟨R.base, by simpa using R.lt, R.len, R.most, fun j hj => (R.there j hj).elim fun _ hv => cell?_setCell_some hv, fun j => by simpa using R.free j⟩
      · intro j h
        have : j = 0 := by simp at h; omega
        subst this
        obtain ⟨v, hv⟩ := R.there 0 (by have := R.len; omega)
        exact World.cell?_setCell_same _ _ _ hv
    rcases hv with ⟨rfl, _⟩ | ⟨g, cap, rfl, R, _⟩
    · go_enter Ybaf.func40, Ybaf.ntmps40
      go_wp2_with fail
      refine (make_nil B 1 w hB (by omega) (by omega)).mono ?_
      rintro e w' ⟨g, cap, rfl, R, hbl⟩
      obtain ⟨f1, f2⟩ := fin w' g cap R hbl
      obtain ⟨v0, hv0⟩ := R.there 0 (by have := R.len; omega)
      have hf0 := R.free 0
      have H1 : Hid (NatV (w'.setCell ⟨g, 0, none⟩ (.int .u64 r)) B (.slice (some ⟨g, 0, none⟩) 1 cap) [r] ∧ Below B w (w'.setCell ⟨g, 0, none⟩ (.int .u64 r))) := ⟨f1, f2⟩
      clear f1 f2 fin R
      go_wp2
      go_ret
      exact ⟨_, rfl, [r], H1.out.1, by simp [val], by simp, H1.out.2⟩
    · go_enter Ybaf.func40, Ybaf.ntmps40
      go_wp2_with fail
      refine (make_some B 1 g 0 cap w hB (by omega) (by omega) R).mono ?_
      rintro e w' ⟨g, cap, rfl, R, hbl⟩
      obtain ⟨f1, f2⟩ := fin w' g cap R hbl
      obtain ⟨v0, hv0⟩ := R.there 0 (by have := R.len; omega)
      have hf0 := R.free 0
      have H1 : Hid (NatV (w'.setCell ⟨g, 0, none⟩ (.int .u64 r)) B (.slice (some ⟨g, 0, none⟩) 1 cap) [r] ∧ Below B w (w'.setCell ⟨g, 0, none⟩ (.int .u64 r))) := ⟨f1, f2⟩
      clear f1 f2 fin R
      go_wp2
      go_ret
      exact ⟨_, rfl, [r], H1.out.1, by simp [val], by simp, H1.out.2⟩

/-- behind mulAddVWW and the store of the carry: the row holds out ++ [c] -/
theorem row_stored {w1 w' : World} {B g cap : Nat} {ws : List Nat} {y r : Nat} {out : List Nat} {c : Nat} (R : Room w1 B g (ws.length + 1) cap) (ho : out.length = ws.length) (M : MInv w1 g ws y r out c w') :
    Room (w'.setCell ⟨g, ws.length, none⟩ (.int .u64 c)) B g (out ++ [c]).length cap ∧
    (∀ j (h : j < (out ++ [c]).length), (w'.setCell ⟨g, ws.length, none⟩ (.int .u64 c)).cell? ⟨g, j, none⟩ = some (.int .u64 ((out ++ [c])[j] : Nat))) ∧
    (∀ j (h : j < (out ++ [c]).length), (out ++ [c])[j] < W64) ∧ val (out ++ [c]) = val ws * y + r ∧ w'.cell? ⟨g, ws.length, none⟩ = w1.cell? ⟨g, ws.length, none⟩ ∧ w'.frozen? ⟨g, ws.length, none⟩ = false := by
  have hl := R.len
  obtain ⟨v0, hv0⟩ := R.there ws.length (by omega)
  have e0 := M.other g ws.length (Or.inr (by omega))
  refine ⟨⟨R.base, by simpa [M.size] using R.lt, by simp; omega, R.most, fun j hj => ?_, fun j => by simpa [M.frozen] using R.free j⟩, ?_, ?_, ?_, e0, by simpa [M.frozen] using R.free ws.length⟩
  · by_cases hj2 : j < out.length
    · exact cell?_setCell_some (M.cells j hj2)
    · obtain ⟨v, hv⟩ := R.there j hj
      exact cell?_setCell_some ((M.other g j (Or.inr (by omega))).trans hv)
  · intro j h
    rw [List.getElem_append]
    split
    · rename_i hj
      rw [World.cell?_setCell_other _ _ _ _ (fun e => by simp at e <;> omega)]
      exact M.cells j hj
    · rename_i hj
      have : j = ws.length := by simp at h; omega
      subst this
      simpa using World.cell?_setCell_same w' ⟨g, ws.length, none⟩ (.int .u64 c) (e0.trans hv0)
  · intro j h
    rw [List.getElem_append]
    split
    · exact M.small j _
    · simpa using M.qs
  · have := M.eq
    rw [ho, List.take_length] at this
    rw [val_snoc, ho]
    exact this

set_option maxRecDepth 100000 in
set_option maxHeartbeats 1000000 in
theorem mulAddWW_any (B : Nat) (v : Value) (ws : List Nat) (y r : Nat) (w : World) (hB : B ≤ w.heap.size) (hy : y < W64) (hy0 : 0 < y) (hr : r < W64) (hlen : ws.length ≤ 2000) (hv : NatV w B v ws) :
    Calls Ybaf.prog 35 #[v, v, .int .u64 y, .int .u64 r] w fun e w' => ∃ v', e = .returned v' ∧ Hid (∃ ws', NatV w' B v' ws' ∧ val ws' = val ws * y + r ∧ ws'.length ≤ ws.length + 1 ∧ Below B w w') := by
  by_cases he : ws = []
  · subst he
    have hl : (v = .slice none 0 0) ∨ ∃ g cap, v = .slice (some ⟨g, 0, none⟩) 0 cap := by
      rcases hv.2.2 with ⟨h, _⟩ | ⟨g, cap, h, _⟩
      · exact Or.inl h
      · exact Or.inr ⟨g, cap, h⟩
    have H : Hid (NatV w B v []) := hv
    clear hv
    rcases hl with rfl | ⟨g, cap, rfl⟩
    · go_enter Ybaf.func35, Ybaf.ntmps35
      go_wp2_with fail
      refine (setWord_any B _ r w hB hr H.out).mono ?_
      rintro e w' ⟨v', rfl, hq⟩
      go_wp2
      go_ret
      obtain ⟨ws', h1, h2, h3, h4⟩ := hq.out
      exact ⟨_, rfl, ws', h1, by simp [val, h2], by simpa using h3, h4⟩
    · go_enter Ybaf.func35, Ybaf.ntmps35
      go_wp2_with fail
      refine (setWord_any B _ r w hB hr H.out).mono ?_
      rintro e w' ⟨v', rfl, hq⟩
      go_wp2
      go_ret
      obtain ⟨ws', h1, h2, h3, h4⟩ := hq.out
      exact ⟨_, rfl, ws', h1, by simp [val, h2], by simpa using h3, h4⟩
  · obtain ⟨hnorm, hsm, h | ⟨g, cap, rfl, R, hc⟩⟩ := hv
    · exact absurd h.2 he
    have hpos : 0 < ws.length := List.length_pos_iff.2 he
    have hk0 : ((ws.length : Int) == 0) = false := by simp; omega
    have hk1 : ((y : Int) == 0) = false := by simp; omega
    go_enter Ybaf.func35, Ybaf.ntmps35
    go_wp2_with fail
    refine (make_some B (ws.length + 1) g ws.length cap w hB (by omega) (by omega) R).mono ?_
    rintro e w1 ⟨g', cap', rfl, R', hbl⟩
    have hl' := R'.len
    have hm' := R'.most
    have hgl := R.lt
    have hc1 : ∀ j (h : j < ws.length), w1.cell? ⟨g, j, none⟩ = some (.int .u64 (ws[j] : Nat)) := fun j h => (hbl.cell (p := ⟨g, j, none⟩) hgl).trans (hc j h)
    have hent := mulAddVWW_enters
    have HC : Hid (∀ j (h : j < ws.length), w1.cell? ⟨g, j, none⟩ = some (.int .u64 (ws[j] : Nat))) := hc1
    have HR : Hid (Room w1 B g' (ws.length + 1) cap') := R'
    have HB : Hid (Below w.heap.size w w1) := hbl
    have h0le : (0 : Int) ≤ (ws.length : Int) := by omega
    have hle1 : (ws.length : Int) ≤ (cap' : Int) := by omega
    clear hc1 hc R R' hbl
    go_wp2_with fail
    refine (mulAddVWW_any g' g cap' cap ws y r w1 hy hr (by omega) HC.out hsm (fun j hj => HR.out.there j (by omega)) HR.out.free).mono ?_
    rintro e w2 ⟨out, c, rfl, ho, M⟩
    obtain ⟨s1, s2, s3, s4, s5, s6⟩ := row_stored HR.out ho M
    obtain ⟨v0, hv0⟩ := HR.out.there ws.length (by omega)
    have s7 := s5.trans hv0
    have HS : Hid (Room (w2.setCell ⟨g', ws.length, none⟩ (.int .u64 c)) B g' (out ++ [c]).length cap' ∧ (∀ j (h : j < (out ++ [c]).length), (w2.setCell ⟨g', ws.length, none⟩ (.int .u64 c)).cell? ⟨g', j, none⟩ = some (.int .u64 ((out ++ [c])[j] : Nat))) ∧ (∀ j (h : j < (out ++ [c]).length), (out ++ [c])[j] < W64) ∧ val (out ++ [c]) = val ws * y + r ∧ (out ++ [c]).length = ws.length + 1) := ⟨s1, s2, s3, s4, by simp; exact ho⟩
    have HB2 : Hid (Below B w (w2.setCell ⟨g', ws.length, none⟩ (.int .u64 c))) := ((HB.out.mono hB).trans (M.below.mono HR.out.base)).setCell HR.out.base _
    clear s1 s2 s3 s4 s5 M ho hv0
    have hlt2 : (ws.length : Int) < (ws.length : Int) + 1 := by omega
    go_wp2_with fail
    rw [← HS.out.2.2.2.2]
    refine (norm_any B g' cap' (out ++ [c]) _ HS.out.1 HS.out.2.1).mono ?_
    rintro e w3 ⟨rfl, k, rfl, HN⟩
    go_wp2
    go_ret
    obtain ⟨n1, n2, n3⟩ := HN.out
    obtain ⟨R3, c3, m3, v3, l3⟩ := HS.out
    have hlk : ((out ++ [c]).take k).length = k := by rw [List.length_take]; omega
    refine ⟨_, rfl, (out ++ [c]).take k, ⟨n2, ?_, Or.inr ⟨g', cap', ?_, ?_, ?_⟩⟩, n3.trans v3, by omega, HB2.out⟩
    · intro j h
      rw [List.getElem_take]
      exact m3 j (by omega)
    · rw [hlk]; rfl
    · exact ⟨R3.base, R3.lt, by have := R3.len; omega, R3.most, R3.there, R3.free⟩
    · intro j h
      rw [List.getElem_take]
      exact c3 j (by omega)
end Go.Proofs.YbulkmjkFmt
