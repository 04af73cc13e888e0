import Derived.Test.Qxb6614820aDoorWr
import Derived.WalkSmall
namespace Go.Proofs.Qxb6614820aDoor.Wr
open Go.RowKit Go.Proofs.Qxb6614820aDoor.Eq Go.Proofs.Qxb6614820aDoor.Clone
set_option linter.unusedVariables false
set_option linter.unusedSimpArgs false

/-- What a stack that is not empty looks like. -/
theorem shape_some {w : World} {B : Nat} {e : TypeId} {k n : Nat} {v : Value} {xs : List Value} (hv : w.ownsRow B e k v n xs) (hn : 0 < n) : ∃ g cap, v = .slice (some ⟨g, 0, none⟩) n cap ∧ n ≤ cap ∧ cap ≤ maxLen := by
  rcases hv.2 with ⟨rfl, rfl⟩ | ⟨g, cap, cur, rfl, _, _, h1, h2, _⟩
  · omega
  · exact ⟨g, cap, rfl, h1, h2⟩

theorem pop {w : World} {B : Nat} {e : TypeId} {k n g cap : Nat} {xs ys : List Value} (hv : w.ownsRow B e k (.slice (some ⟨g, 0, none⟩) (n + 1) cap) (n + 1) (xs ++ ys)) (hx : xs.length = n * k) : w.ownsRow B e k (.slice (some ⟨g, 0, none⟩) n cap) n xs := by
  refine ⟨hx, .inr ?_⟩
  rcases hv.2 with ⟨h0, _⟩ | ⟨g', cap', cur, h0, hb, hg, h1, h2, h3, h4⟩
  · cases h0
  · cases h0
    refine ⟨g, cap, cur, rfl, hb, hg, by omega, h2, h3, ?_⟩
    have := congrArg (List.take (n * k)) h4
    rw [List.take_take, Nat.min_eq_left (Nat.mul_le_mul_right _ (by omega)), ← hx, List.take_left] at this
    rw [← hx]; exact this

set_option maxHeartbeats 400000 in
/-- (*JSONWriter).End -/
theorem end_any (B p : Nat) (zs : List Int) (first : Bool) (ps : List (Bool × ByteArray × Int)) (q : Bool × ByteArray × Int) (c : Int) (w : World) (h : Wr B p zs first (ps ++ [q]) w) (hz : zs.length ≤ 1099511627776) :
    Calls Tryd.prog 11 #[.pointer (some ⟨p, 0, none⟩), .int .u8 c] w fun e w' => e = .returned (.tuple #[]) ∧ Wr B p (zs ++ [c]) false ps w' ∧ Below B w w' := by
  obtain ⟨bv, av, h⟩ := h
  have hlt := h.lt
  have hBw := h.hB
  obtain ⟨i5, hi5, hz50, hz51, hz52⟩ := info_parts info5
  obtain ⟨ao, cap, rfl⟩ := shape h.bo
  obtain ⟨M, hM⟩ : ∃ M, ps.length = M := ⟨_, rfl⟩
  have hao := h.ao
  rw [len_snoc, hM] at hao
  obtain ⟨ga, capa, rfl, hcapa, hcapm⟩ := shape_some hao (by omega)
  have c0 := (cell_blk h.blk 0).1
  unfold maxLen at hcapm
  have H := hide h
  clear h hao
  generalize hN : zs.length = N at *
  have HN := hide hN
  have HM := hide hM
  clear hN hM
  go_enter Tryd.func11, Tryd.ntmps11
  go_wp2_with (at_builtin; refine wpList_append_lies _ rfl _ _ 28 rfl B 5 i5 (.int .u8 0) 1 1 Tryd.underlying28 hi5 hz50 hz51 hz52 rfl (by decide) _ _ _ rfl (HN.out ▸ H.out.bo.alloc _) ⟨w.heap.size, 0, none⟩ 1 1 [Value.int .u8 c] rfl rfl (cell_one_new _ _ _) (by intro u hu; simp at hu; subst hu; rfl) (by omega) (by unfold maxLen; omega) (by omega) (by simp; omega) (w.heap.size + 1) (by simp) ?_)
  intro g cap1 w1 hown1 hgrow1 hat1 hlt1
  obtain ⟨IW, bel⟩ := (H.out.alloc (.cells #[Value.int .u8 c] 5)).bytes hgrow1 (bv' := .slice (some ⟨g, 0, none⟩) (N + 1) cap1) (zs' := zs ++ [c]) (by rw [map_snoc, len_snoc, HN.out]; exact hown1)
  obtain ⟨IW2, bel2⟩ := IW.flag false
  have hb1 := (H.out.alloc (.cells #[Value.int .u8 c] 5)).blk_grown hgrow1 (H.out.apart H.out.bo (by decide))
  rw [(H.out.alloc (.cells #[Value.int .u8 c] 5)).blk] at hb1
  obtain ⟨d0, e0⟩ := cell_blk hb1 0
  obtain ⟨d3, e3⟩ := cell_blk hb1 3
  have hb2 := IW2.blk
  obtain ⟨d4, e4⟩ := cell_blk hb2 4
  have bel3 := (((Below.refl B w).alloc hBw (.cells #[Value.int .u8 c] 5)).trans bel).trans bel2
  have hpop := IW2.ao
  rw [posCells_append] at hpop
  have hpop2 := pop (n := M) (by simpa [HM.out] using hpop) (by rw [posCells_length, HM.out])
  obtain ⟨IW3, bel4⟩ := IW2.stack (World.grownBy.refl _ _) (av' := .slice (some ⟨ga, 0, none⟩) M capa) (ps' := ps) (by rw [HM.out]; exact hpop2)
  have hfin := hide (And.intro IW3 (bel3.trans bel4))
  clear hown1 hgrow1 hat1 hb1 hb2 IW IW2 bel bel2 c0 bel3 hpop hpop2 IW3 bel4
  simp only [List.getElem?_toArray, List.getElem?_cons_zero, List.getElem?_cons_succ] at d0 d3 d4
  go_wp2
  generalize (w1.setCell ⟨p, 0, none⟩ (.slice (some ⟨g, 0, none⟩) (N + 1) cap1)).setCell ⟨p, 3, none⟩ (.bool false) = W2 at d4 e4 hfin ⊢
  clear d0 e0 d3 e3
  have hm0 : (0 : Int) ≤ (M : Int) := by omega
  have hm1 : (M : Int) + 1 ≤ (capa : Int) := by omega
  have hm2 : (M : Int) ≤ (capa : Int) := by omega
  go_region
  go_end0
  exact ⟨rfl, ⟨_, _, hfin.out.1.drewN 1⟩, hfin.out.2.drew⟩

/-! ### The readers -/

set_option maxHeartbeats 400000 in
theorem atLen (B p : Nat) (zs : List Int) (first : Bool) (ps : List (Bool × ByteArray × Int)) (w : World) (h : Wr B p zs first ps w) :
    Calls Tryd.prog 15 #[.pointer (some ⟨p, 0, none⟩)] w fun e w' => e = .returned (.int .i64 ps.length) ∧ w' = w := by
  obtain ⟨bv, av, h⟩ := h
  obtain ⟨aa, capa, rfl⟩ := shape h.ao
  have d4 := (cell_blk h.blk 4).1
  simp only [List.getElem?_toArray, List.getElem?_cons_zero, List.getElem?_cons_succ] at d4
  clear h
  generalize ps.length = M at *
  go_enter Tryd.func15, Tryd.ntmps15
  go_wp2
  go_ret
  exact ⟨rfl, rfl⟩

set_option maxHeartbeats 400000 in
theorem first_any (B p : Nat) (zs : List Int) (first : Bool) (ps : List (Bool × ByteArray × Int)) (w : World) (h : Wr B p zs first ps w) :
    Calls Tryd.prog 16 #[.pointer (some ⟨p, 0, none⟩)] w fun e w' => e = .returned (.bool first) ∧ w' = w := by
  obtain ⟨bv, av, h⟩ := h
  have d3 := (cell_blk h.blk 3).1
  simp only [List.getElem?_toArray, List.getElem?_cons_zero, List.getElem?_cons_succ] at d3
  clear h
  go_enter Tryd.func16, Tryd.ntmps16
  go_wp2
  go_ret
  exact ⟨rfl, rfl⟩

set_option maxHeartbeats 400000 in
theorem bytes_any (B p : Nat) (zs : List Int) (first : Bool) (ps : List (Bool × ByteArray × Int)) (w : World) (h : Wr B p zs first ps w) :
    Calls Tryd.prog 14 #[.pointer (some ⟨p, 0, none⟩)] w fun e w' => ∃ ao cap, e = .returned (.slice ao zs.length cap) ∧ w' = w ∧ w.ownsRow B 5 1 (.slice ao zs.length cap) zs.length (zs.map (Value.int .u8)) := by
  obtain ⟨bv, av, h⟩ := h
  obtain ⟨ao, cap, rfl⟩ := shape h.bo
  have d0 := (cell_blk h.blk 0).1
  simp only [List.getElem?_toArray, List.getElem?_cons_zero, List.getElem?_cons_succ] at d0
  have H := hide h.bo
  clear h
  generalize hN : zs.length = N at *
  clear hN
  go_enter Tryd.func14, Tryd.ntmps14
  go_wp2
  go_ret
  exact ⟨ao, cap, rfl, rfl, H.out⟩

/-- The bytes of an owned row, as 'Rd' has them. -/
theorem rd_own {w : World} {B : Nat} {ao : Option Addr} {n cap : Nat} {zs : List Int} (h : w.ownsRow B 5 1 (.slice ao n cap) n (zs.map (Value.int .u8))) : Rd w ao zs := by
  intro k hk
  rcases h.2 with ⟨h0, hn⟩ | ⟨g, cap', cur, h0, hb, hg, h1, h2, h3, h4⟩
  · have := h.1
    simp [hn] at this
    subst this
    simp at hk
  · cases h0
    refine ⟨_, rfl, ?_⟩
    refine h.cells (g := g) rfl k _ ?_
    simp [List.getD, hk]
end Go.Proofs.Qxb6614820aDoor.Wr
