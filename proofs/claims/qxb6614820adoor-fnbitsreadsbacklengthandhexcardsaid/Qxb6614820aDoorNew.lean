import Derived.Test.Qxb6614820aDoorUse
import Derived.Laws.AppendOwnNone
namespace Go.Proofs.Qxb6614820aDoor.Wr
open Go.RowKit Go.Proofs.Qxb6614820aDoor.Eq Go.Proofs.Qxb6614820aDoor.Clone
set_option linter.unusedVariables false
set_option linter.unusedSimpArgs false

def row1024 : Array Value := madeCells #[.int .u8 0] 1024
def row16 : Array Value := madeCells #[.bool false, .string ⟨#[]⟩, .int .i64 0] 48

theorem mk_bytes (w : World) : (Instr.makeSlice 28 (.int .i64 0) (.int .i64 1024)).run Tryd.prog w = .ok (.slice (some ⟨w.heap.size, 0, none⟩) 0 1024) (w.alloc (.cells row1024 5)) := by
  obtain ⟨i5, hi5, hz50, hz51, hz52⟩ := info_parts info5
  have h := run_make (P := Tryd.prog) w 28 5 i5 (.int .u8 0) Tryd.underlying28 hi5 hz50 .i64 .i64 0 1024 (by omega) (by omega) (by rw [hz52]; decide) (by omega)
  rw [hz51] at h
  exact h

theorem mk_stack (w : World) : (Instr.makeSlice 47 (.int .i64 0) (.int .i64 16)).run Tryd.prog w = .ok (.slice (some ⟨w.heap.size, 0, none⟩) 0 16) (w.alloc (.cells row16 54)) := by
  obtain ⟨i49, hi49, hz490, hz491, hz492⟩ := info_parts info49
  have h := run_make (P := Tryd.prog) w 47 54 i49 _ Tryd.underlying47 hi49 hz490 .i64 .i64 0 16 (by omega) (by omega) (by rw [hz492]; decide) (by omega)
  rw [hz491] at h
  exact h

theorem size1024 : row1024.size = 1024 * 1 := by unfold row1024; rw [size_madeCells]
theorem size16 : row16.size = 16 * 3 := by unfold row16; rw [size_madeCells]

theorem fresh1 (w : World) (cs : Array Value) : (((w.alloc (.cells row1024 5)).alloc (.cells row16 54)).alloc (.cells cs 52)).ownsRow w.heap.size 5 1 (.slice (some ⟨w.heap.size, 0, none⟩) 0 1024) 0 [] ∧
    (((w.alloc (.cells row1024 5)).alloc (.cells row16 54)).alloc (.cells cs 52)).ownsRow w.heap.size 54 3 (.slice (some ⟨w.heap.size + 1, 0, none⟩) 0 16) 0 [] := by
  refine ⟨((World.ownsRow_made w row1024 1024 (Nat.le_refl _) (by unfold maxLen; omega) size1024).alloc _).alloc _, ?_⟩
  have h := World.ownsRow_made (base := w.heap.size) (e := 54) (size := 3) (w.alloc (.cells row1024 5)) row16 16 (by simp) (by unfold maxLen; omega) size16
  rw [World.size_alloc] at h
  exact h.alloc _

theorem fresh2 (w : World) (cs : Array Value) : (((w.alloc (.cells row16 54)).alloc (.cells row1024 5)).alloc (.cells cs 52)).ownsRow w.heap.size 5 1 (.slice (some ⟨w.heap.size + 1, 0, none⟩) 0 1024) 0 [] ∧
    (((w.alloc (.cells row16 54)).alloc (.cells row1024 5)).alloc (.cells cs 52)).ownsRow w.heap.size 54 3 (.slice (some ⟨w.heap.size, 0, none⟩) 0 16) 0 [] := by
  refine ⟨?_, ((World.ownsRow_made w row16 16 (Nat.le_refl _) (by unfold maxLen; omega) size16).alloc _).alloc _⟩
  have h := World.ownsRow_made (base := w.heap.size) (e := 5) (size := 1) (w.alloc (.cells row16 54)) row1024 1024 (by simp) (by unfold maxLen; omega) size1024
  rw [World.size_alloc] at h
  exact h.alloc _

theorem third (w : World) (o1 o2 o3 : Obj) : (((w.alloc o1).alloc o2).alloc o3).heap[w.heap.size + 2]? = some o3 := by
  rw [show w.heap.size + 2 = ((w.alloc o1).alloc o2).heap.size by simp]
  exact heap_alloc_new _ _

set_option maxHeartbeats 400000 in
theorem new_inner (w : World) :
    Calls Tryd.prog 25 #[.nilIface, .nilFunc] w fun e w' => ∃ p, e = .returned (.pointer (some ⟨p, 0, none⟩)) ∧ Wr w.heap.size p [] false [] w' ∧ Below w.heap.size w w' := by
  have h1 := mk_bytes
  have h2 := mk_stack
  go_enter Tryd.func25, Tryd.ntmps25
  go_wp2
  go_region
  all_goals
    go_wp2
    go_ret
  · refine ⟨_, rfl, ⟨_, _, third _ _ _ _, ?_, (fresh1 w _).1, (fresh1 w _).2⟩, ((((Below.refl _ w).alloc (Nat.le_refl _) _).alloc (by simp) _).alloc (by simp; omega) _).drew⟩
    omega
  · refine ⟨_, rfl, ⟨_, _, third _ _ _ _, ?_, (fresh2 w _).1, (fresh2 w _).2⟩, ((((Below.refl _ w).alloc (Nat.le_refl _) _).alloc (by simp) _).alloc (by simp; omega) _).drew⟩
    omega

set_option maxHeartbeats 400000 in
/-- asn1.ZZnewJSONWriter -/
theorem new_any (w : World) :
    Calls Tryd.prog 7 #[] w fun e w' => ∃ p, e = .returned (.pointer (some ⟨p, 0, none⟩)) ∧ Wr w.heap.size p [] false [] w' ∧ Below w.heap.size w w' := by
  go_enter Tryd.func7, Tryd.ntmps7
  go_wp2_with (go_at_call 25; refine (new_inner _).mono ?_; rintro e w' ⟨p, rfl, hw, hb⟩)
  have H := hide (And.intro hw hb)
  clear hw hb
  go_wp2
  go_ret
  exact ⟨p, rfl, H.out.1, H.out.2⟩

end Go.Proofs.Qxb6614820aDoor.Wr
