import Derived.Test.Qxb6614820aDoorElem
import Derived.Test.Qxb6614820aDoorDec
import Derived.Lib.AppendStr
namespace Go.Proofs.Qxb6614820aDoor.Wr
open Go.RowKit Go.Proofs.Qxb6614820aDoor.Eq Go.Proofs.Qxb6614820aDoor.Clone Go.Proofs.Qxb6614820aDoor.Dec
set_option linter.unusedVariables false
set_option linter.unusedSimpArgs false

/-- The comma that Element lays. -/
def cma (first : Bool) : List Int := if first then [] else [44]

theorem elemY (B p : Nat) (zs : List Int) (first : Bool) (ps : List (Bool × ByteArray × Int)) (a : Bool) (nm : ByteArray) (ix : Int) (hi0 : -9223372036854775808 ≤ ix) (hi1 : ix < 9223372036854775807) (hz : zs.length ≤ 1099511627776) (w : World) (h : Wr B p zs first (ps ++ [(a, nm, ix)]) w) :
    Calls Tryd.prog 9 #[.pointer (some ⟨p, 0, none⟩)] w fun e w' => e = .returned (.tuple #[]) ∧ Wr B p (zs ++ cma first) false (ps ++ [(a, nm, ix + 1)]) w' ∧ Below B w w' := by
  cases first
  · exact elem_more B p zs ps a nm ix hi0 hi1 hz w h
  · show Calls _ _ _ _ fun e w' => _ ∧ Wr B p (zs ++ []) false _ w' ∧ _
    rw [List.append_nil]
    exact elem_first B p zs ps a nm ix hi0 hi1 w h

theorem posCells_setn (ps : List (Bool × ByteArray × Int)) (a : Bool) (nm nm' : ByteArray) (ix : Int) : (posCells (ps ++ [(a, nm, ix)])).set (ps.length * 3 + 1) (.string nm') = posCells (ps ++ [(a, nm', ix)]) := by
  rw [pos_snoc, pos_snoc, List.set_append_right _ _ (by rw [posCells_length]; omega), posCells_length, show ps.length * 3 + 1 - ps.length * 3 = 1 by omega]
  rfl

/-- 'w.at[len(w.at)-1].name = ..'. -/
theorem IsW.named {B p ga M capa : Nat} {bv : Value} {zs : List Int} {first : Bool} {ps : List (Bool × ByteArray × Int)} {a : Bool} {nm : ByteArray} {ix : Int} {w : World} (hM : ps.length = M)
    (h : IsW B p bv (.slice (some ⟨ga, 0, none⟩) (M + 1) capa) zs first (ps ++ [(a, nm, ix)]) w) (nm' : ByteArray) :
    IsW B p bv (.slice (some ⟨ga, 0, none⟩) (M + 1) capa) zs first (ps ++ [(a, nm', ix)]) (w.setCell ⟨ga, M * 3 + 1, none⟩ (.string nm')) ∧ Below B w (w.setCell ⟨ga, M * 3 + 1, none⟩ (.string nm')) := by
  have hao := h.ao
  rw [len_snoc, hM] at hao
  have hst := hao.stored (M * 3 + 1) (.string nm')
  rw [← hM, posCells_setn, hM] at hst
  have hp : p ≠ ga := fun e => h.apart hao (by decide) (by simp [Value.ownBlock, e])
  refine ⟨⟨?_, h.low, ?_, ?_⟩, (Below.refl B w).setCell (hao.lt ga rfl).1 _⟩
  · rw [Below.heap_setCell _ _ _ _ hp]; exact h.blk
  · refine ownsRow_block h.bo (fun g hg => Below.heap_setCell _ _ _ _ ?_)
    rintro rfl
    rcases rows_apart h.bo hao (by decide) with h1 | h1
    · rw [h1] at hg; cases hg
    · exact h1 (by rw [hg]; rfl)
  · rw [len_snoc, hM]; exact hst.1

theorem strCells_ofB (s : ByteArray) : Lib.strCells s = (ofB s.data.toList).map (Value.int .u8) := by simp [Lib.strCells, ofB]
theorem size_ofB (s : ByteArray) : (ofB s.data.toList).length = s.size := by simp [ofB]

/-- What a load and a store of the bytes' field ask. -/
theorem IsW.cell0 {B p : Nat} {bv av : Value} {zs : List Int} {first : Bool} {ps : List (Bool × ByteArray × Int)} {w : World} (h : IsW B p bv av zs first ps w) : w.cell? ⟨p, 0, none⟩ = some bv ∧ w.frozen? ⟨p, 0, none⟩ = false := cell_blk h.blk 0

theorem IsW.grown0 {B p : Nat} {bv av : Value} {zs : List Int} {first : Bool} {ps : List (Bool × ByteArray × Int)} {w w1 : World} (h : IsW B p bv av zs first ps w) (hg : w.grownBy w1 bv.ownBlock) : w1.cell? ⟨p, 0, none⟩ = some bv ∧ w1.frozen? ⟨p, 0, none⟩ = false := by
  have hb := h.blk_grown hg (h.apart h.bo (by decide))
  rw [h.blk] at hb
  exact cell_blk hb 0

set_option maxHeartbeats 800000 in
set_option maxRecDepth 100000 in
/-- (*JSONWriter).Name -/
theorem name_any (B p : Nat) (zs : List Int) (first : Bool) (ps : List (Bool × ByteArray × Int)) (a : Bool) (nm : ByteArray) (ix : Int) (hi0 : -9223372036854775808 ≤ ix) (hi1 : ix < 9223372036854775807) (hz : zs.length ≤ 549755813888) (name : ByteArray) (hn : name.size ≤ 1048576) (w : World) (h : Wr B p zs first (ps ++ [(a, nm, ix)]) w) :
    Calls Tryd.prog 28 #[.pointer (some ⟨p, 0, none⟩), .string name] w fun e w' => e = .returned (.tuple #[]) ∧ Wr B p (zs ++ cma first ++ [34] ++ ofB name.data.toList ++ [34, 58]) false (ps ++ [(a, name, ix + 1)]) w' ∧ Below B w w' := by
  obtain ⟨i5, hi5, hz50, hz51, hz52⟩ := info_parts info5
  have HC := hide (elemY B p zs first ps a nm ix hi0 hi1 (by omega) w h)
  clear h
  have hzl : (zs ++ cma first).length ≤ 549755813889 := by
    rw [List.length_append]
    have : (cma first).length ≤ 1 := by unfold cma; split <;> simp
    omega
  generalize zs ++ cma first = us at *
  clear hz
  go_enter Tryd.func28, Tryd.ntmps28
  go_wp2_with fail
  refine HC.out.mono ?_
  rintro e w1 ⟨rfl, hw1, hb1⟩
  obtain ⟨bv, av, h⟩ := hw1
  obtain ⟨M, hM⟩ : ∃ M, ps.length = M := ⟨_, rfl⟩
  have hao := h.ao
  rw [len_snoc, hM] at hao
  obtain ⟨ga, capa, rfl, hcapa, hcapm⟩ := shape_some hao (by omega)
  unfold maxLen at hcapm
  obtain ⟨ao, cap, rfl⟩ := Wr.shape h.bo
  obtain ⟨d4, e4⟩ := cell_blk h.blk 4
  have hx := (at_cells hao M (a, nm, ix + 1) (by rw [← hM]; simp) (by omega)).2.1
  have hy := hao.frozenAt (M * 3 + 1)
  obtain ⟨IW1, bel1⟩ := h.named hM name
  have H1 := hide (And.intro IW1 (hb1.trans bel1))
  simp only [List.getElem?_toArray, List.getElem?_cons_zero, List.getElem?_cons_succ] at d4
  have HM := hide hM
  generalize hN : us.length = N at *
  have HN := hide hN
  clear h hao IW1 bel1 hb1 hM hN HC
  have hm0 : (0 : Int) ≤ (M : Int) := by omega
  go_wp2_with fail
  go_region
  clear d4 e4 hx hy
  have H2 : Hid (IsW B p (.slice ao N cap) (.slice (some ⟨ga, 0, none⟩) (M + 1) capa) us false (ps ++ [(a, name, ix + 1)]) (w1.setCell ⟨ga, M * 3 + 1, none⟩ (.string name)).drew ∧ Below B w (w1.setCell ⟨ga, M * 3 + 1, none⟩ (.string name)).drew) := ⟨H1.out.1.drewN 1, H1.out.2.drew⟩
  clear H1
  generalize (w1.setCell ⟨ga, M * 3 + 1, none⟩ (.string name)).drew = W at H2 ⊢
  have hBW : B ≤ W.heap.size := H2.out.1.hB
  obtain ⟨c0, f0⟩ := H2.out.1.cell0
  go_wp2_with (at_builtin; refine wpList_append_lies _ rfl _ _ 28 rfl B 5 i5 (.int .u8 0) 1 1 Tryd.underlying28 hi5 hz50 hz51 hz52 rfl (by decide) _ _ _ rfl (HN.out ▸ H2.out.1.bo.alloc _) ⟨W.heap.size, 0, none⟩ 1 1 [Value.int .u8 34] rfl rfl (cell_one_new _ _ _) (by intro u hu; simp at hu; subst hu; rfl) (by omega) (by unfold maxLen; omega) (by omega) (by rw [World.size_alloc]; omega) (W.heap.size + 1) (by simp) ?_)
  intro g2 cap2 w2 hown2 hgrow2 hat2 hlt2
  have I2 := H2.out.1.alloc (.cells #[Value.int .u8 34] 5)
  obtain ⟨c1, f1⟩ := I2.grown0 hgrow2
  obtain ⟨J2, bel2⟩ := I2.bytes hgrow2 (bv' := .slice (some ⟨g2, 0, none⟩) (N + 1) cap2) (zs' := us ++ [34]) (by rw [map_snoc, len_snoc, HN.out]; exact hown2)
  have H3 := hide (And.intro J2 ((H2.out.2.alloc hBW _).trans bel2))
  clear hown2 hgrow2 hat2 I2 J2 bel2 H2 c0 f0
  have hb3 := H3.out.1.bo
  rw [len_snoc, HN.out] at hb3
  have HB3 := hide hb3
  have hsz3 : (w2.setCell ⟨p, 0, none⟩ (.slice (some ⟨g2, 0, none⟩) (N + 1) cap2)).heap.size = w2.heap.size := by simp [World.setCell]
  have HS3 := hide hsz3
  have hBw2 : B ≤ w2.heap.size := by rw [← hsz3]; exact H3.out.1.hB
  clear hb3 hsz3
  go_wp2_with (at_builtin; refine Lib.wpList_append_own_string _ rfl _ _ 28 9 rfl B 5 i5 Tryd.underlying28 Tryd.underlying9 hi5 hz50 hz51 hz52 _ _ _ rfl HB3.out name rfl (by unfold maxLen; omega) (by omega) ?q1 ?_)
  case q1 => rw [HS3.out]; exact hBw2
  intro v4 w4 hown4 hgrow4 hat4
  obtain ⟨ao4, cap4, rfl⟩ := Wr.shape hown4
  obtain ⟨c4, f4⟩ := H3.out.1.grown0 hgrow4
  obtain ⟨J4, bel4⟩ := H3.out.1.bytes hgrow4 (bv' := .slice ao4 (N + 1 + name.size) cap4) (zs' := us ++ [34] ++ ofB name.data.toList) (by rw [List.map_append, List.length_append, len_snoc, HN.out, size_ofB, ← strCells_ofB]; simpa using hown4)
  have H5 := hide (And.intro J4 (H3.out.2.trans bel4))
  clear hown4 hgrow4 hat4 J4 bel4 H3 HB3 HS3 c1 f1
  have hb5 := H5.out.1.bo
  rw [List.length_append, len_snoc, HN.out, size_ofB] at hb5
  have HB5 := hide hb5
  have hsz5 : (w4.setCell ⟨p, 0, none⟩ (.slice ao4 (N + 1 + name.size) cap4)).heap.size = w4.heap.size := by simp [World.setCell]
  have HS5 := hide hsz5
  have hBw4 : B ≤ w4.heap.size := by rw [← hsz5]; exact H5.out.1.hB
  clear hb5 hsz5
  go_wp2_with (at_builtin; refine wpList_append_lies _ rfl _ _ 28 rfl B 5 i5 (.int .u8 0) 1 1 Tryd.underlying28 hi5 hz50 hz51 hz52 rfl (by decide) _ _ _ rfl (HB5.out.alloc _) ⟨w4.heap.size, 0, none⟩ 2 2 [Value.int .u8 34, Value.int .u8 58] rfl rfl ?q2 (by intro u hu; simp at hu; rcases hu with rfl | rfl <;> rfl) (by omega) (by unfold maxLen; omega) (by omega) ?q3 (w4.heap.size + 1) ?q4 ?_)
  case q2 =>
    rw [← HS5.out]
    exact World.news_of_block (heap_alloc_new _ _)
  case q3 => rw [World.size_alloc, HS5.out]; omega
  case q4 => rw [World.size_alloc, HS5.out]
  intro g6 cap6 w6 hown6 hgrow6 hat6 hlt6
  have I6 := H5.out.1.alloc (.cells #[Value.int .u8 34, Value.int .u8 58] 5)
  obtain ⟨c6, f6⟩ := I6.grown0 hgrow6
  obtain ⟨J6, bel6⟩ := I6.bytes hgrow6 (bv' := .slice (some ⟨g6, 0, none⟩) (N + 1 + name.size + 2) cap6) (zs' := us ++ [34] ++ ofB name.data.toList ++ [34, 58]) (by rw [List.map_append, List.length_append, List.length_append, len_snoc, HN.out, size_ofB]; simpa using hown6)
  have hfin := hide (And.intro J6 ((H5.out.2.alloc H5.out.1.hB _).trans bel6))
  clear hown6 hgrow6 hat6 I6 J6 bel6 H5 HB5 HS5 c4 f4
  go_wp2
  go_end0
  exact ⟨rfl, ⟨_, _, hfin.out.1⟩, hfin.out.2⟩

end Go.Proofs.Qxb6614820aDoor.Wr
