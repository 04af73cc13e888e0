import Derived.Test.Qxb6614820aDoorUse
namespace Go.Proofs.Qxb6614820aDoor.Wr
open Go.RowKit Go.Proofs.Qxb6614820aDoor.Eq Go.Proofs.Qxb6614820aDoor.Clone
set_option linter.unusedVariables false
set_option linter.unusedSimpArgs false

theorem posCells_set (ps : List (Bool × ByteArray × Int)) (a : Bool) (nm : ByteArray) (ix iy : Int) : (posCells (ps ++ [(a, nm, ix)])).set (ps.length * 3 + 2) (.int .i64 iy) = posCells (ps ++ [(a, nm, iy)]) := by
  rw [pos_snoc, pos_snoc, List.set_append_right _ _ (by rw [posCells_length]; omega), posCells_length, show ps.length * 3 + 2 - ps.length * 3 = 2 by omega]
  rfl

/-- 'w.at[len(w.at)-1].index = ..'. -/
theorem IsW.index {B p ga M capa : Nat} {bv : Value} {zs : List Int} {first : Bool} {ps : List (Bool × ByteArray × Int)} {a : Bool} {nm : ByteArray} {ix : Int} {w : World} (hM : ps.length = M)
    (h : IsW B p bv (.slice (some ⟨ga, 0, none⟩) (M + 1) capa) zs first (ps ++ [(a, nm, ix)]) w) (iy : Int) :
    IsW B p bv (.slice (some ⟨ga, 0, none⟩) (M + 1) capa) zs first (ps ++ [(a, nm, iy)]) (w.setCell ⟨ga, M * 3 + 2, none⟩ (.int .i64 iy)) ∧ Below B w (w.setCell ⟨ga, M * 3 + 2, none⟩ (.int .i64 iy)) := by
  have hao := h.ao
  rw [len_snoc, hM] at hao
  have hst := hao.stored (M * 3 + 2) (.int .i64 iy)
  rw [← hM, posCells_set, hM] at hst
  have hp : p ≠ ga := fun e => h.apart hao (by decide) (by simp [Value.ownBlock, e])
  refine ⟨⟨?_, h.low, ?_, ?_⟩, (Below.refl B w).setCell (hao.lt ga rfl).1 _⟩
  · rw [Below.heap_setCell _ _ _ _ hp]; exact h.blk
  · refine ownsRow_block h.bo (fun g hg => Below.heap_setCell _ _ _ _ ?_)
    rintro rfl
    rcases rows_apart h.bo hao (by decide) with h1 | h1
    · rw [h1] at hg; cases hg
    · exact h1 (by rw [hg]; rfl)
  · rw [len_snoc, hM]; exact hst.1

set_option maxHeartbeats 400000 in
set_option maxRecDepth 100000 in
/-- (*JSONWriter).Element, 'first' set. -/
theorem elem_first (B p : Nat) (zs : List Int) (ps : List (Bool × ByteArray × Int)) (a : Bool) (nm : ByteArray) (ix : Int) (hi0 : -9223372036854775808 ≤ ix) (hi1 : ix < 9223372036854775807) (w : World) (h : Wr B p zs true (ps ++ [(a, nm, ix)]) w) :
    Calls Tryd.prog 9 #[.pointer (some ⟨p, 0, none⟩)] w fun e w' => e = .returned (.tuple #[]) ∧ Wr B p zs false (ps ++ [(a, nm, ix + 1)]) w' ∧ Below B w w' := by
  obtain ⟨bv, av, h⟩ := h
  have hlt := h.lt
  have hBw := h.hB
  obtain ⟨ao, cap, rfl⟩ := shape h.bo
  obtain ⟨M, hM⟩ : ∃ M, ps.length = M := ⟨_, rfl⟩
  have hao := h.ao
  rw [len_snoc, hM] at hao
  obtain ⟨ga, capa, rfl, hcapa, hcapm⟩ := shape_some hao (by omega)
  unfold maxLen at hcapm
  obtain ⟨d0, e0⟩ := cell_blk h.blk 0
  obtain ⟨d1, e1⟩ := cell_blk h.blk 1
  obtain ⟨d3, e3⟩ := cell_blk h.blk 3
  obtain ⟨IW2, bel2⟩ := h.flag false
  obtain ⟨d4, e4⟩ := cell_blk IW2.blk 4
  have hao2 := IW2.ao
  rw [len_snoc, hM] at hao2
  have hx := (at_cells hao2 M (a, nm, ix) (by rw [← hM]; simp) (by omega)).2.2
  have hy := hao2.frozenAt (M * 3 + 2)
  obtain ⟨IW3, bel3⟩ := IW2.index hM (ix + 1)
  have hfin := hide (And.intro IW3 (bel2.trans bel3))
  simp only [List.getElem?_toArray, List.getElem?_cons_zero, List.getElem?_cons_succ] at d0 d1 d3 d4
  clear h hao hao2 IW2 IW3 bel2 bel3
  generalize hN : zs.length = N at *
  have HM := hide hM
  clear hN hM
  go_enter Tryd.func9, Tryd.ntmps9
  go_wp2
  generalize w.setCell ⟨p, 3, none⟩ (.bool false) = W2 at d4 e4 hx hy hfin ⊢
  clear d0 e0 d1 e1 d3 e3
  have hm0 : (0 : Int) ≤ (M : Int) := by omega
  go_region
  go_end0
  exact ⟨rfl, ⟨_, _, hfin.out.1.drewN 1⟩, hfin.out.2.drew⟩

set_option maxHeartbeats 400000 in
set_option maxRecDepth 100000 in
/-- (*JSONWriter).Element, 'first' clear: a comma ahead. -/
theorem elem_more (B p : Nat) (zs : List Int) (ps : List (Bool × ByteArray × Int)) (a : Bool) (nm : ByteArray) (ix : Int) (hi0 : -9223372036854775808 ≤ ix) (hi1 : ix < 9223372036854775807) (hz : zs.length ≤ 1099511627776) (w : World) (h : Wr B p zs false (ps ++ [(a, nm, ix)]) w) :
    Calls Tryd.prog 9 #[.pointer (some ⟨p, 0, none⟩)] w fun e w' => e = .returned (.tuple #[]) ∧ Wr B p (zs ++ [44]) false (ps ++ [(a, nm, ix + 1)]) w' ∧ Below B w w' := by
  obtain ⟨bv, av, h⟩ := h
  have hlt := h.lt
  have hBw := h.hB
  obtain ⟨i5, hi5, hz50, hz51, hz52⟩ := info_parts info5
  obtain ⟨ao, cap, rfl⟩ := shape h.bo
  obtain ⟨M, hM⟩ : ∃ M, ps.length = M := ⟨_, rfl⟩
  have hao := h.ao
  rw [len_snoc, hM] at hao
  obtain ⟨ga, capa, rfl, hcapa, hcapm⟩ := shape_some hao (by omega)
  unfold maxLen at hcapm
  obtain ⟨d0, e0⟩ := cell_blk h.blk 0
  obtain ⟨d1, e1⟩ := cell_blk h.blk 1
  obtain ⟨d3, e3⟩ := cell_blk h.blk 3
  simp only [List.getElem?_toArray, List.getElem?_cons_zero, List.getElem?_cons_succ] at d0 d1 d3
  have H := hide h
  clear h hao
  generalize hN : zs.length = N at *
  have HM := hide hM
  have HN := hide hN
  clear hN hM
  go_enter Tryd.func9, Tryd.ntmps9
  go_wp2_with (at_builtin; refine wpList_append_lies _ rfl _ _ 28 rfl B 5 i5 (.int .u8 0) 1 1 Tryd.underlying28 hi5 hz50 hz51 hz52 rfl (by decide) _ _ _ rfl (HN.out ▸ H.out.bo.alloc _) ⟨w.heap.size, 0, none⟩ 1 1 [Value.int .u8 44] rfl rfl (cell_one_new _ _ _) (by intro u hu; simp at hu; subst hu; rfl) (by omega) (by unfold maxLen; omega) (by omega) (by simp; omega) (w.heap.size + 1) (by simp) ?_)
  intro g cap1 w1 hown1 hgrow1 hat1 hlt1
  clear d0 e0 d1 e1 d3 e3
  obtain ⟨IW, bel⟩ := (H.out.alloc (.cells #[Value.int .u8 44] 5)).bytes hgrow1 (bv' := .slice (some ⟨g, 0, none⟩) (N + 1) cap1) (zs' := zs ++ [44]) (by rw [map_snoc, len_snoc, HN.out]; exact hown1)
  obtain ⟨IW2, bel2⟩ := IW.flag false
  have hb1 := (H.out.alloc (.cells #[Value.int .u8 44] 5)).blk_grown hgrow1 (H.out.apart H.out.bo (by decide))
  rw [(H.out.alloc (.cells #[Value.int .u8 44] 5)).blk] at hb1
  obtain ⟨d0, e0⟩ := cell_blk hb1 0
  obtain ⟨d3, e3⟩ := cell_blk hb1 3
  obtain ⟨d4, e4⟩ := cell_blk IW2.blk 4
  have bel3 := (((Below.refl B w).alloc hBw (.cells #[Value.int .u8 44] 5)).trans bel).trans bel2
  have hao2 := IW2.ao
  rw [len_snoc, HM.out] at hao2
  have hx := (at_cells hao2 M (a, nm, ix) (by rw [← HM.out]; simp) (by omega)).2.2
  have hy := hao2.frozenAt (M * 3 + 2)
  obtain ⟨IW3, bel4⟩ := IW2.index HM.out (ix + 1)
  have hfin := hide (And.intro IW3 (bel3.trans bel4))
  simp only [List.getElem?_toArray, List.getElem?_cons_zero, List.getElem?_cons_succ] at d0 d3 d4
  clear hao2 IW IW2 IW3 bel bel2 bel3 bel4 hb1 hown1 hgrow1 hat1
  go_wp2
  generalize (w1.setCell ⟨p, 0, none⟩ (.slice (some ⟨g, 0, none⟩) (N + 1) cap1)).setCell ⟨p, 3, none⟩ (.bool false) = W2 at d4 e4 hx hy hfin ⊢
  clear d0 e0 d3 e3
  have hm0 : (0 : Int) ≤ (M : Int) := by omega
  go_region
  go_end0
  exact ⟨rfl, ⟨_, _, hfin.out.1.drewN 1⟩, hfin.out.2.drew⟩

end Go.Proofs.Qxb6614820aDoor.Wr
