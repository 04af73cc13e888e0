import Derived.Test.Qxb6614820aDoorClone
import Derived.Deep.AppendLies
namespace Go.Proofs.Qxb6614820aDoor.Wr
open Go.RowKit Go.Proofs.Qxb6614820aDoor.Eq Go.Proofs.Qxb6614820aDoor.Clone
set_option linter.unusedVariables false

theorem info49 : (Tryd.prog.info? 54).map (fun i => (i.zero, i.size, i.bytes)) = some (some (.agg #[.bool false, .string ⟨#[]⟩, .int .i64 0]), 3, 32) := by kernel_rfl

/-- The cells of one position: array, name, index. -/
def posV (q : Bool × ByteArray × Int) : List Value := [.bool q.1, .string q.2.1, .int .i64 q.2.2]
/-- The cells of the stack of positions. -/
def posCells (l : List (Bool × ByteArray × Int)) : List Value := l.flatMap posV

theorem posCells_length (l : List (Bool × ByteArray × Int)) : (posCells l).length = l.length * 3 := by
  induction l with
  | nil => rfl
  | cons q l ih =>
    have e : posCells (q :: l) = posV q ++ posCells l := rfl
    rw [e, List.length_append, ih]
    simp [posV]; omega

theorem posCells_append (a b : List (Bool × ByteArray × Int)) : posCells (a ++ b) = posCells a ++ posCells b := by simp [posCells]

/-- Block p is a JSONWriter without an io.Writer, of the call's own (as its two rows are: from block B on): it holds the bytes zs; 'first'; the open positions ps. -/
structure IsW (B p : Nat) (bv av : Value) (zs : List Int) (first : Bool) (ps : List (Bool × ByteArray × Int)) (w : World) : Prop where
  blk : w.heap[p]? = some (.cells #[bv, .nilIface, .nilIface, .bool first, av, .nilFunc, .slice none 0 0, .pointer none] 52 (0, 0))
  low : B ≤ p
  bo : w.ownsRow B 5 1 bv zs.length (zs.map (Value.int .u8))
  ao : w.ownsRow B 54 3 av ps.length (posCells ps)

def Wr (B p : Nat) (zs : List Int) (first : Bool) (ps : List (Bool × ByteArray × Int)) (w : World) : Prop := ∃ bv av, IsW B p bv av zs first ps w

theorem shape {w : World} {B : Nat} {e : TypeId} {k n : Nat} {v : Value} {xs : List Value} (hv : w.ownsRow B e k v n xs) : ∃ ao cap, v = .slice ao n cap := by
  rcases hv.2 with ⟨rfl, rfl⟩ | ⟨g, cap, cur, rfl, _⟩
  · exact ⟨none, 0, rfl⟩
  · exact ⟨_, _, rfl⟩

theorem IsW.lt {B p : Nat} {bv av : Value} {zs : List Int} {first : Bool} {ps : List (Bool × ByteArray × Int)} {w : World} (h : IsW B p bv av zs first ps w) : p < w.heap.size :=
  (Array.getElem?_eq_some_iff.1 h.blk).1

/-- The writer's block is none of a row of another type's. -/
theorem IsW.apart {B p : Nat} {bv av : Value} {zs : List Int} {first : Bool} {ps : List (Bool × ByteArray × Int)} {w : World} (h : IsW B p bv av zs first ps w)
    {B' : Nat} {e : TypeId} {k n : Nat} {v : Value} {xs : List Value} (hv : w.ownsRow B' e k v n xs) (he : e ≠ 52) : some p ≠ v.ownBlock := by
  intro hp
  rcases hv.2 with ⟨rfl, _⟩ | ⟨g, cap, cur, rfl, _, hg, _⟩
  · cases hp
  · have : p = g := by simpa [Value.ownBlock] using hp
    subst this
    rw [h.blk] at hg
    cases hg
    exact he rfl

/-- Two rows of different types lie in different blocks. -/
theorem rows_apart {w : World} {B B' : Nat} {e e' : TypeId} {k k' n n' : Nat} {v v' : Value} {xs xs' : List Value} (h : w.ownsRow B e k v n xs) (h' : w.ownsRow B' e' k' v' n' xs') (he : e ≠ e') : v.ownBlock = none ∨ v.ownBlock ≠ v'.ownBlock := by
  rcases h.2 with ⟨rfl, _⟩ | ⟨g, cap, cur, rfl, _, hg, _⟩
  · exact .inl rfl
  · right
    rcases h'.2 with ⟨rfl, _⟩ | ⟨g', cap', cur', rfl, _, hg', _⟩
    · intro hh; cases hh
    · intro hh
      have : g = g' := by simpa [Value.ownBlock] using hh
      subst this
      rw [hg] at hg'
      cases hg'
      exact he rfl

/-- What the call owns stays owned in a world in which its block is as it was. -/
theorem ownsRow_block {w w' : World} {B : Nat} {e : TypeId} {k n : Nat} {v : Value} {xs : List Value} (h : w.ownsRow B e k v n xs) (hb : ∀ g, v.ownBlock = some g → w'.heap[g]? = w.heap[g]?) : w'.ownsRow B e k v n xs := by
  refine ⟨h.1, ?_⟩
  rcases h.2 with h0 | ⟨g, cap, cur, rfl, hB, hg, r⟩
  · exact .inl h0
  · exact .inr ⟨g, cap, cur, rfl, hB, by rw [hb g rfl]; exact hg, r⟩

theorem ownsRow_mono {w : World} {B B' : Nat} {e : TypeId} {k n : Nat} {v : Value} {xs : List Value} (h : w.ownsRow B e k v n xs) (hB : B' ≤ B) : w.ownsRow B' e k v n xs := by
  refine ⟨h.1, ?_⟩
  rcases h.2 with h0 | ⟨g, cap, cur, rfl, hb, r⟩
  · exact .inl h0
  · exact .inr ⟨g, cap, cur, rfl, by omega, r⟩

/-- A store into the writer's own block. -/
theorem heap_set (w : World) (p off : Nat) (cs : Array Value) (T : TypeId) (fz : Nat × Nat) (v : Value) (h : w.heap[p]? = some (.cells cs T fz)) :
    (w.setCell ⟨p, off, none⟩ v).heap[p]? = some (.cells (cs.setIfInBounds off v) T fz) := by
  simp [World.setCell, Array.getElem?_modify, h]

theorem Wr.below {B p : Nat} {zs : List Int} {first : Bool} {ps : List (Bool × ByteArray × Int)} {w w' : World} (h : Wr B p zs first ps w) (hb : Below w.heap.size w w') : Wr B p zs first ps w' := by
  obtain ⟨bv, av, h⟩ := h
  exact ⟨bv, av, by rw [hb.block p h.lt]; exact h.blk, h.low, ownsRow_block h.bo (fun g hg => hb.block g (h.bo.lt g hg).2), ownsRow_block h.ao (fun g hg => hb.block g (h.ao.lt g hg).2)⟩

set_option maxHeartbeats 400000 in
/-- asn1.ZZnewJSONWriterAt -/
theorem newAt (v : Value) (first array : Bool) (name : ByteArray) (index : Int) (zs : List Int) (B : Nat) (w : World) (hB : B ≤ w.heap.size) (hv : w.ownsRow B 5 1 v zs.length (zs.map (Value.int .u8))) :
    Calls Tryd.prog 18 #[v, .bool first, .bool array, .string name, .int .i64 index] w fun e w' => ∃ p, e = .returned (.pointer (some ⟨p, 0, none⟩)) ∧ Wr B p zs first [(array, name, index)] w' ∧ Below w.heap.size w w' := by
  obtain ⟨ao, cap, rfl⟩ := shape hv
  have HV := hide hv
  clear hv
  go_enter Tryd.func18, Tryd.ntmps18
  go_wp2
  go_ret
  have hv := HV.out
  refine ⟨_, rfl, ⟨_, .slice (some ⟨w.heap.size, 0, none⟩) 1 1, ?_, ?_, (hv.alloc _).alloc _, ?_⟩, ((Below.refl _ _).alloc (Nat.le_refl _) _).alloc (by simp) _⟩
  · rw [show w.heap.size + 1 = (w.alloc (.cells #[.bool array, .string name, .int .i64 index] 54)).heap.size by simp]
    exact heap_alloc_new _ _
  · omega
  · refine World.ownsRow.alloc ?_ _
    exact ⟨rfl, .inr ⟨w.heap.size, 1, _, rfl, hB, heap_alloc_new _ _, Nat.le_refl _, by unfold maxLen; omega, rfl, rfl⟩⟩


theorem cell_blk {w : World} {p : Nat} {cs : Array Value} {T : TypeId} (h : w.heap[p]? = some (.cells cs T (0, 0))) (k : Nat) : w.cell? ⟨p, k, none⟩ = cs[k]? ∧ w.frozen? ⟨p, k, none⟩ = false :=
  ⟨cell_of_row w p k cs T (0, 0) h, by simp [World.frozen?, h]⟩

section
variable {B p : Nat} {bv av : Value} {zs : List Int} {first : Bool} {ps : List (Bool × ByteArray × Int)} {w : World}

theorem IsW.hB (h : IsW B p bv av zs first ps w) : B ≤ w.heap.size := by have := h.lt; have := h.low; omega

/-- The writer's block behind an append to one of its rows. -/
theorem IsW.blk_grown (h : IsW B p bv av zs first ps w) {w1 : World} {row : Option Nat} (hg : w.grownBy w1 row) (hr : some p ≠ row) : w1.heap[p]? = w.heap[p]? := hg.block p h.lt hr

theorem IsW.alloc (h : IsW B p bv av zs first ps w) (o : Obj) : IsW B p bv av zs first ps (w.alloc o) :=
  ⟨by rw [Below.heap_alloc _ _ _ h.lt]; exact h.blk, h.low, h.bo.alloc o, h.ao.alloc o⟩

theorem IsW.drewN (h : IsW B p bv av zs first ps w) (n : Nat) : IsW B p bv av zs first ps (w.drewN n) := ⟨h.blk, h.low, h.bo, h.ao⟩

theorem IsW.below (h : IsW B p bv av zs first ps w) {w' : World} (hb : Below w.heap.size w w') : IsW B p bv av zs first ps w' :=
  ⟨by rw [hb.block p h.lt]; exact h.blk, h.low, ownsRow_block h.bo (fun g hg => hb.block g (h.bo.lt g hg).2), ownsRow_block h.ao (fun g hg => hb.block g (h.ao.lt g hg).2)⟩

/-- 'w.b = append(w.b, ..)'. -/
theorem IsW.bytes (h : IsW B p bv av zs first ps w) {w1 : World} (hg : w.grownBy w1 bv.ownBlock) {bv' : Value} {zs' : List Int} (ho : w1.ownsRow B 5 1 bv' zs'.length (zs'.map (Value.int .u8))) :
    IsW B p bv' av zs' first ps (w1.setCell ⟨p, 0, none⟩ bv') ∧ Below B w (w1.setCell ⟨p, 0, none⟩ bv') := by
  have hp1 : w1.heap[p]? = _ := (h.blk_grown hg (h.apart h.bo (by decide))).trans h.blk
  have hap : ∀ {e : TypeId} {k n : Nat} {v : Value} {xs : List Value}, e ≠ 52 → w1.ownsRow B e k v n xs → (w1.setCell ⟨p, 0, none⟩ bv').ownsRow B e k v n xs := by
    intro e k n v xs he hv
    refine ownsRow_block hv (fun g hgg => Below.heap_setCell _ _ _ _ ?_)
    intro hgp
    rw [hgp] at hgg
    rcases hv.2 with ⟨rfl, _⟩ | ⟨g', cap', cur', rfl, _, hg', _⟩
    · cases hgg
    · have : g' = p := by simpa [Value.ownBlock] using hgg
      rw [this, hp1] at hg'
      cases hg'
      exact he rfl
  refine ⟨⟨?_, h.low, hap (by decide) ho, hap (by decide) (h.ao.kept hg (rows_apart h.ao h.bo (by decide)))⟩, ?_⟩
  · rw [heap_set _ _ _ _ _ _ _ hp1]; rfl
  · exact ((Below.refl B w).grown hg h.hB (fun k hk => (h.bo.lt k hk).1)).setCell h.low _

/-- 'w.at = append(w.at, ..)', 'w.at = w.at[:n]'. -/
theorem IsW.stack (h : IsW B p bv av zs first ps w) {w1 : World} (hg : w.grownBy w1 av.ownBlock) {av' : Value} {ps' : List (Bool × ByteArray × Int)} (ho : w1.ownsRow B 54 3 av' ps'.length (posCells ps')) :
    IsW B p bv av' zs first ps' (w1.setCell ⟨p, 4, none⟩ av') ∧ Below B w (w1.setCell ⟨p, 4, none⟩ av') := by
  have hp1 : w1.heap[p]? = _ := (h.blk_grown hg (h.apart h.ao (by decide))).trans h.blk
  have hap : ∀ {e : TypeId} {k n : Nat} {v : Value} {xs : List Value}, e ≠ 52 → w1.ownsRow B e k v n xs → (w1.setCell ⟨p, 4, none⟩ av').ownsRow B e k v n xs := by
    intro e k n v xs he hv
    refine ownsRow_block hv (fun g hgg => Below.heap_setCell _ _ _ _ ?_)
    intro hgp
    rw [hgp] at hgg
    rcases hv.2 with ⟨rfl, _⟩ | ⟨g', cap', cur', rfl, _, hg', _⟩
    · cases hgg
    · have : g' = p := by simpa [Value.ownBlock] using hgg
      rw [this, hp1] at hg'
      cases hg'
      exact he rfl
  refine ⟨⟨?_, h.low, hap (by decide) (h.bo.kept hg (rows_apart h.bo h.ao (by decide))), hap (by decide) ho⟩, ?_⟩
  · rw [heap_set _ _ _ _ _ _ _ hp1]; rfl
  · exact ((Below.refl B w).grown hg h.hB (fun k hk => (h.ao.lt k hk).1)).setCell h.low _

/-- 'w.first = b'. -/
theorem IsW.flag (h : IsW B p bv av zs first ps w) (b : Bool) : IsW B p bv av zs b ps (w.setCell ⟨p, 3, none⟩ (.bool b)) ∧ Below B w (w.setCell ⟨p, 3, none⟩ (.bool b)) := by
  have hap : ∀ {e : TypeId} {k n : Nat} {v : Value} {xs : List Value}, e ≠ 52 → w.ownsRow B e k v n xs → (w.setCell ⟨p, 3, none⟩ (.bool b)).ownsRow B e k v n xs := by
    intro e k n v xs he hv
    refine ownsRow_block hv (fun g hgg => Below.heap_setCell _ _ _ _ ?_)
    rintro rfl
    exact h.apart hv he hgg.symm
  exact ⟨⟨by rw [heap_set _ _ _ _ _ _ _ h.blk]; rfl, h.low, hap (by decide) h.bo, hap (by decide) h.ao⟩, (Below.refl B w).setCell h.low _⟩
end

theorem map_snoc (zs : List Int) (c : Int) : (zs ++ [c]).map (Value.int .u8) = zs.map (Value.int .u8) ++ [Value.int .u8 c] := by simp
theorem len_snoc {α : Type} (zs : List α) (c : α) : (zs ++ [c]).length = zs.length + 1 := by simp
theorem pos_snoc (ps : List (Bool × ByteArray × Int)) (q : Bool × ByteArray × Int) : posCells (ps ++ [q]) = posCells ps ++ posV q := by simp [posCells]

set_option maxHeartbeats 400000 in
/-- (*JSONWriter).Begin -/
theorem begin_any (B p : Nat) (zs : List Int) (first : Bool) (ps : List (Bool × ByteArray × Int)) (c : Int) (w : World) (h : Wr B p zs first ps w) (hz : zs.length ≤ 1099511627776) (hp : ps.length ≤ 1099511627776) :
    Calls Tryd.prog 8 #[.pointer (some ⟨p, 0, none⟩), .int .u8 c] w fun e w' => e = .returned (.tuple #[]) ∧ Wr B p (zs ++ [c]) true (ps ++ [(c == 91, ⟨#[]⟩, -1)]) w' ∧ Below B w w' := by
  obtain ⟨bv, av, h⟩ := h
  have hlt := h.lt
  have hBw := h.hB
  obtain ⟨i5, hi5, hz50, hz51, hz52⟩ := info_parts info5
  obtain ⟨i49, hi49, hz490, hz491, hz492⟩ := info_parts info49
  obtain ⟨ao, cap, rfl⟩ := shape h.bo
  obtain ⟨aa, capa, rfl⟩ := shape h.ao
  have c0 := (cell_blk h.blk 0).1
  have H := hide h
  clear h
  generalize hN : zs.length = N at *
  generalize hM : ps.length = M at *
  have HN := hide hN
  have HM := hide hM
  clear hN hM
  go_enter Tryd.func8, Tryd.ntmps8
  go_wp2_with (at_builtin; refine wpList_append_lies _ rfl _ _ 28 rfl B 5 i5 (.int .u8 0) 1 1 Tryd.underlying28 hi5 hz50 hz51 hz52 rfl (by decide) _ _ _ rfl (HN.out ▸ H.out.bo.alloc _) ⟨w.heap.size, 0, none⟩ 1 1 [Value.int .u8 c] rfl rfl (cell_one_new _ _ _) (by intro u hu; simp at hu; subst hu; rfl) (by omega) (by unfold maxLen; omega) (by omega) (by simp; omega) (w.heap.size + 1) (by simp) ?_)
  intro g cap1 w1 hown1 hgrow1 hat1 hlt1
  have HA := hide (And.intro hown1 (And.intro hgrow1 hat1))
  obtain ⟨IW, bel⟩ := (H.out.alloc (.cells #[Value.int .u8 c] 5)).bytes hgrow1 (bv' := .slice (some ⟨g, 0, none⟩) (N + 1) cap1) (zs' := zs ++ [c]) (by rw [map_snoc, len_snoc, HN.out]; exact hown1)
  obtain ⟨IW2, bel2⟩ := IW.flag true
  have hb1 := (H.out.alloc (.cells #[Value.int .u8 c] 5)).blk_grown hgrow1 (H.out.apart H.out.bo (by decide))
  rw [(H.out.alloc (.cells #[Value.int .u8 c] 5)).blk] at hb1
  obtain ⟨d0, e0⟩ := cell_blk hb1 0
  obtain ⟨d3, e3⟩ := cell_blk hb1 3
  obtain ⟨d4, e4⟩ := cell_blk hb1 4
  have hp1 : p < w1.heap.size := (Array.getElem?_eq_some_iff.1 hb1).1
  have hB1 : B ≤ w1.heap.size := by have := H.out.low; omega
  have HB1 := hide hb1
  have bel3 := (((Below.refl B w).alloc hBw (.cells #[Value.int .u8 c] 5)).trans bel).trans bel2
  have HW := hide IW2
  have hao2 := IW2.ao
  rw [HM.out] at hao2
  have HO := hide hao2
  have hsz : ((w1.setCell ⟨p, 0, none⟩ (.slice (some ⟨g, 0, none⟩) (N + 1) cap1)).setCell ⟨p, 3, none⟩ (.bool true)).heap.size = w1.heap.size := by simp [World.setCell]
  have HS := hide hsz
  clear hown1 hgrow1 hat1 hb1 IW IW2 bel bel2 c0 hao2 hsz
  simp only [List.getElem?_toArray, List.getElem?_cons_zero, List.getElem?_cons_succ] at d0 d3 d4
  go_wp2_with (at_builtin; refine wpList_append_lies _ rfl _ _ 47 rfl B 54 i49 (.agg #[.bool false, .string ⟨#[]⟩, .int .i64 0]) 3 32 Tryd.underlying47 hi49 hz490 hz491 hz492 rfl (by decide) _ _ _ rfl (HO.out.alloc _) ⟨w1.heap.size, 0, none⟩ 1 1 [.bool (c == 91), .string ⟨#[]⟩, .int .i64 (-1)] rfl rfl ?q1 ?q2 (by omega) (by unfold maxLen; omega) (by omega) ?q3 (w1.heap.size + 1) ?q4 ?_)
  case q1 =>
    rw [← HS.out]
    exact World.news_of_block (heap_alloc_new _ _)
  case q2 => intro u hu; simp at hu; rcases hu with rfl | rfl | rfl <;> rfl
  case q3 => rw [World.size_alloc, HS.out]; omega
  case q4 => rw [World.size_alloc, HS.out]
  intro g2 cap2 w3 hown3 hgrow3 hat3 hlt3
  have IA := HW.out.alloc (.cells #[.bool (c == 91), .string ⟨#[]⟩, .int .i64 (-1)] 54)
  obtain ⟨IW3, bel4⟩ := IA.stack hgrow3 (av' := .slice (some ⟨g2, 0, none⟩) (M + 1) cap2) (ps' := ps ++ [(c == 91, ⟨#[]⟩, -1)]) (by rw [pos_snoc, len_snoc, HM.out]; exact hown3)
  have hb3 := IA.blk_grown hgrow3 (IA.apart IA.ao (by decide))
  rw [IA.blk] at hb3
  obtain ⟨k4, l4⟩ := cell_blk hb3 4
  have hB2 : B ≤ ((w1.setCell ⟨p, 0, none⟩ (.slice (some ⟨g, 0, none⟩) (N + 1) cap1)).setCell ⟨p, 3, none⟩ (.bool true)).heap.size := by rw [HS.out]; exact hB1
  have hfin := hide (And.intro IW3 ((bel3.alloc hB2 (.cells #[.bool (c == 91), .string ⟨#[]⟩, .int .i64 (-1)] 54)).trans bel4))
  clear hown3 hgrow3 hat3 IW3 bel4 hb3 IA HO HW HS hB2 bel3
  simp only [List.getElem?_toArray, List.getElem?_cons_zero, List.getElem?_cons_succ] at k4
  go_wp2
  go_end0
  exact ⟨rfl, ⟨_, _, hfin.out.1⟩, hfin.out.2⟩

end Go.Proofs.Qxb6614820aDoor.Wr
