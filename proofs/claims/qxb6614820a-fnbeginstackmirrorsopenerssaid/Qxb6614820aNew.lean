import Derived.Test.Qxb6614820aUse
import Derived.Laws.AppendOwnNone
namespace Go.Proofs.Qxb6614820a.Wr
open Go.RowKit Go.Proofs.Qxb6614820a.Eq Go.Proofs.Qxb6614820a.Clone
set_option linter.unusedVariables false
set_option linter.unusedSimpArgs false

def row1024 : Array Value := madeCells #[.int .u8 0] 1024
def row16 : Array Value := madeCells #[.bool false, .string ⟨#[]⟩, .int .i64 0] 48

theorem mk_bytes (w : World) : (Instr.makeSlice 27 (.int .i64 0) (.int .i64 1024)).run Try.prog w = .ok (.slice (some ⟨w.heap.size, 0, none⟩) 0 1024) (w.alloc (.cells row1024 5)) := by
  obtain ⟨i5, hi5, hz50, hz51, hz52⟩ := info_parts info5
  have h := run_make (P := Try.prog) w 27 5 i5 (.int .u8 0) Try.underlying27 hi5 hz50 .i64 .i64 0 1024 (by omega) (by omega) (by rw [hz52]; decide) (by omega)
  rw [hz51] at h
  exact h

theorem mk_stack (w : World) : (Instr.makeSlice 50 (.int .i64 0) (.int .i64 16)).run Try.prog w = .ok (.slice (some ⟨w.heap.size, 0, none⟩) 0 16) (w.alloc (.cells row16 49)) := by
  obtain ⟨i49, hi49, hz490, hz491, hz492⟩ := info_parts info49
  have h := run_make (P := Try.prog) w 50 49 i49 _ Try.underlying50 hi49 hz490 .i64 .i64 0 16 (by omega) (by omega) (by rw [hz492]; decide) (by omega)
  rw [hz491] at h
  exact h

theorem size1024 : row1024.size = 1024 * 1 := by unfold row1024; rw [size_madeCells]
theorem size16 : row16.size = 16 * 3 := by unfold row16; rw [size_madeCells]

theorem fresh1 (w : World) (cs : Array Value) : (((w.alloc (.cells row1024 5)).alloc (.cells row16 49)).alloc (.cells cs 59)).ownsRow w.heap.size 5 1 (.slice (some ⟨w.heap.size, 0, none⟩) 0 1024) 0 [] ∧
    (((w.alloc (.cells row1024 5)).alloc (.cells row16 49)).alloc (.cells cs 59)).ownsRow w.heap.size 49 3 (.slice (some ⟨w.heap.size + 1, 0, none⟩) 0 16) 0 [] := by
  refine ⟨((World.ownsRow_made w row1024 1024 (Nat.le_refl _) (by unfold maxLen; omega) size1024).alloc _).alloc _, ?_⟩
  have h := World.ownsRow_made (base := w.heap.size) (e := 49) (size := 3) (w.alloc (.cells row1024 5)) row16 16 (by simp) (by unfold maxLen; omega) size16
  rw [World.size_alloc] at h
  exact h.alloc _

theorem fresh2 (w : World) (cs : Array Value) : (((w.alloc (.cells row16 49)).alloc (.cells row1024 5)).alloc (.cells cs 59)).ownsRow w.heap.size 5 1 (.slice (some ⟨w.heap.size + 1, 0, none⟩) 0 1024) 0 [] ∧
    (((w.alloc (.cells row16 49)).alloc (.cells row1024 5)).alloc (.cells cs 59)).ownsRow w.heap.size 49 3 (.slice (some ⟨w.heap.size, 0, none⟩) 0 16) 0 [] := by
  refine ⟨?_, ((World.ownsRow_made w row16 16 (Nat.le_refl _) (by unfold maxLen; omega) size16).alloc _).alloc _⟩
  have h := World.ownsRow_made (base := w.heap.size) (e := 5) (size := 1) (w.alloc (.cells row16 49)) row1024 1024 (by simp) (by unfold maxLen; omega) size1024
  rw [World.size_alloc] at h
  exact h.alloc _

theorem third (w : World) (o1 o2 o3 : Obj) : (((w.alloc o1).alloc o2).alloc o3).heap[w.heap.size + 2]? = some o3 := by
  rw [show w.heap.size + 2 = ((w.alloc o1).alloc o2).heap.size by simp]
  exact heap_alloc_new _ _

set_option maxHeartbeats 400000 in
theorem new_inner (w : World) :
    Calls Try.prog 32 #[.nilIface, .nilFunc] w fun e w' => ∃ p, e = .returned (.pointer (some ⟨p, 0, none⟩)) ∧ Wr w.heap.size p [] false [] w' ∧ Below w.heap.size w w' := by
  have h1 := mk_bytes
  have h2 := mk_stack
  go_enter Try.func32, Try.ntmps32
  go_wp2
  go_region
  all_goals
    go_wp2
    go_ret
  · refine ⟨_, rfl, ⟨_, _, third _ _ _ _, ?_, (fresh1 w _).1, (fresh1 w _).2⟩, ((((Below.refl _ w).alloc (Nat.le_refl _) _).alloc (by simp) _).alloc (by simp; omega) _).drew⟩
    omega
  · refine ⟨_, rfl, ⟨_, _, third _ _ _ _, ?_, (fresh2 w _).1, (fresh2 w _).2⟩, ((((Below.refl _ w).alloc (Nat.le_refl _) _).alloc (by simp) _).alloc (by simp; omega) _).drew⟩
    omega

set_option maxHeartbeats 400000 in
/-- asn1.ZZnewJSONWriter -/
theorem new_any (w : World) :
    Calls Try.prog 26 #[] w fun e w' => ∃ p, e = .returned (.pointer (some ⟨p, 0, none⟩)) ∧ Wr w.heap.size p [] false [] w' ∧ Below w.heap.size w w' := by
  go_enter Try.func26, Try.ntmps26
  go_wp2_with (go_at_call 32; refine (new_inner _).mono ?_; rintro e w' ⟨p, rfl, hw, hb⟩)
  have H := hide (And.intro hw hb)
  clear hw hb
  go_wp2
  go_ret
  exact ⟨p, rfl, H.out.1, H.out.2⟩

set_option maxHeartbeats 400000 in
theorem closer (c : Int) (w : World) :
    Calls Try.prog 28 #[.int .u8 c] w fun e w' => e = .returned (.int .u8 (if c == 91 then 93 else 125)) ∧ w' = w := by
  by_cases h : (c == 91) = true
  · rw [if_pos h]
    go_enter Try.func28, Try.ntmps28
    go_wp2
    go_ret
    exact ⟨rfl, rfl⟩
  · rw [if_neg h]
    have h' : (c == 91) = false := by simpa using h
    clear h
    go_enter Try.func28, Try.ntmps28
    go_wp2
    go_ret
    exact ⟨rfl, rfl⟩

set_option maxHeartbeats 400000 in
theorem raw_some (B p : Nat) (zs xs : List Int) (x : Addr) (c : Nat) (first : Bool) (ps : List (Bool × ByteArray × Int)) (w : World) (h : Wr B p zs first ps w) (hr : Rd w (some x) xs) (hz : zs.length + xs.length ≤ 1099511627776) :
    Calls Try.prog 27 #[.pointer (some ⟨p, 0, none⟩), .slice (some x) xs.length c] w fun e w' => e = .returned (.tuple #[]) ∧ Wr B p (zs ++ xs) first ps w' ∧ Below B w w' := by
  obtain ⟨bv, av, h⟩ := h
  have hBw := h.hB
  obtain ⟨i5, hi5, hz50, hz51, hz52⟩ := info_parts info5
  obtain ⟨ao, cap, rfl⟩ := shape h.bo
  have c0 := (cell_blk h.blk 0).1
  simp only [List.getElem?_toArray, List.getElem?_cons_zero, List.getElem?_cons_succ] at c0
  have H := hide h
  have HR := hide (news_of_rd hr)
  have H1 := hide (ints_oneCell .u8 xs)
  clear h hr
  generalize hN : zs.length = N at *
  generalize hM : xs.length = M at *
  have HN := hide hN
  have HM := hide hM
  clear hN hM
  go_enter Try.func27, Try.ntmps27
  go_wp2_with (at_builtin; refine wpList_append_own _ rfl _ _ 27 rfl B 5 i5 (.int .u8 0) 1 1 Try.underlying27 hi5 hz50 hz51 hz52 rfl (by decide) _ _ _ rfl (HN.out ▸ H.out.bo) x M c (xs.map (Value.int .u8)) rfl (by rw [List.length_map, HM.out, Nat.mul_one]) HR.out H1.out (by unfold maxLen; omega) (by omega) hBw ?_)
  intro v1 w1 hown1 hgrow1 hat1
  obtain ⟨a1, cap1, rfl⟩ := shape hown1
  obtain ⟨IW, bel⟩ := H.out.bytes hgrow1 (zs' := zs ++ xs) (by rw [List.map_append, List.length_append, HN.out, HM.out]; exact hown1)
  have hb1 := H.out.blk_grown hgrow1 (H.out.apart H.out.bo (by decide))
  rw [H.out.blk] at hb1
  obtain ⟨d0, e0⟩ := cell_blk hb1 0
  simp only [List.getElem?_toArray, List.getElem?_cons_zero, List.getElem?_cons_succ] at d0
  have hfin := hide (And.intro IW bel)
  clear hown1 hgrow1 hat1 IW bel hb1 c0
  go_wp2
  go_end0
  exact ⟨rfl, ⟨_, _, hfin.out.1⟩, hfin.out.2⟩

set_option maxHeartbeats 400000 in
theorem raw_nil (B p : Nat) (zs : List Int) (first : Bool) (ps : List (Bool × ByteArray × Int)) (w : World) (h : Wr B p zs first ps w) :
    Calls Try.prog 27 #[.pointer (some ⟨p, 0, none⟩), .slice none 0 0] w fun e w' => e = .returned (.tuple #[]) ∧ Wr B p zs first ps w' ∧ Below B w w' := by
  obtain ⟨bv, av, h⟩ := h
  obtain ⟨i5, hi5, hz50, hz51, hz52⟩ := info_parts info5
  obtain ⟨ao, cap, rfl⟩ := shape h.bo
  obtain ⟨d0, e0⟩ := cell_blk h.blk 0
  simp only [List.getElem?_toArray, List.getElem?_cons_zero, List.getElem?_cons_succ] at d0
  obtain ⟨IW, bel⟩ := h.bytes (World.grownBy.refl w _) (zs' := zs) h.bo
  have hfin := hide (And.intro IW bel)
  have HO := hide h.bo
  clear h IW bel
  generalize hN : zs.length = N at *
  clear hN
  go_enter Try.func27, Try.ntmps27
  go_wp2_with (at_builtin; refine wpList_append_own_none rfl _ _ 27 rfl B 5 i5 1 Try.underlying27 hi5 _ _ _ rfl HO.out rfl ?_)
  go_wp2
  go_end0
  exact ⟨rfl, ⟨_, _, hfin.out.1⟩, hfin.out.2⟩

/-- (*JSONWriter).Raw -/
theorem raw_any (B p : Nat) (zs xs : List Int) (a : Option Addr) (n c : Nat) (hn : n = xs.length) (hnil : a = none → n = 0 ∧ c = 0) (first : Bool) (ps : List (Bool × ByteArray × Int)) (w : World) (h : Wr B p zs first ps w) (hr : Rd w a xs) (hz : zs.length + xs.length ≤ 1099511627776) :
    Calls Try.prog 27 #[.pointer (some ⟨p, 0, none⟩), .slice a n c] w fun e w' => e = .returned (.tuple #[]) ∧ Wr B p (zs ++ xs) first ps w' ∧ Below B w w' := by
  subst hn
  cases a with
  | none =>
    obtain ⟨h1, rfl⟩ := hnil rfl
    have e : xs = [] := List.eq_nil_of_length_eq_zero h1
    subst e
    rw [List.append_nil]
    exact raw_nil B p zs first ps w h
  | some x => exact raw_some B p zs xs x c first ps w h hr hz

end Go.Proofs.Qxb6614820a.Wr
