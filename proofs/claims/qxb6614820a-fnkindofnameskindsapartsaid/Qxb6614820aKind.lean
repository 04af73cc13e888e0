import Derived.Test.Qxb6614820aProg
import Derived.WalkKit
import Derived.WalkSpells
import Derived.WalkLawsBesides
import Derived.RowKit3
namespace Go.Proofs.Qxb6614820a.Kind
open Go.RowKit

theorem as4_4 (v : Value) (w : World) : (Instr.typeAssert (.iface 4 v) 20 4 true).run Try.prog w = .ok (.tuple #[v, .bool true]) w := by kernel_rfl
theorem as9_4 (v : Value) (w : World) : (Instr.typeAssert (.iface 9 v) 20 4 true).run Try.prog w = .ok (.tuple #[.bool false, .bool false]) w := by kernel_rfl
theorem as9_45 (v : Value) (w : World) : (Instr.typeAssert (.iface 9 v) 20 45 true).run Try.prog w = .ok (.tuple #[.string ⟨#[]⟩, .bool false]) w := by kernel_rfl
theorem as9_9 (v : Value) (w : World) : (Instr.typeAssert (.iface 9 v) 20 9 true).run Try.prog w = .ok (.tuple #[v, .bool true]) w := by kernel_rfl
theorem as45_4 (v : Value) (w : World) : (Instr.typeAssert (.iface 45 v) 20 4 true).run Try.prog w = .ok (.tuple #[.bool false, .bool false]) w := by kernel_rfl
theorem as45_45 (v : Value) (w : World) : (Instr.typeAssert (.iface 45 v) 20 45 true).run Try.prog w = .ok (.tuple #[v, .bool true]) w := by kernel_rfl
theorem as46_4 (v : Value) (w : World) : (Instr.typeAssert (.iface 46 v) 20 4 true).run Try.prog w = .ok (.tuple #[.bool false, .bool false]) w := by kernel_rfl
theorem as46_45 (v : Value) (w : World) : (Instr.typeAssert (.iface 46 v) 20 45 true).run Try.prog w = .ok (.tuple #[.string ⟨#[]⟩, .bool false]) w := by kernel_rfl
theorem as46_9 (v : Value) (w : World) : (Instr.typeAssert (.iface 46 v) 20 9 true).run Try.prog w = .ok (.tuple #[.string ⟨#[]⟩, .bool false]) w := by kernel_rfl
theorem as46_46 (v : Value) (w : World) : (Instr.typeAssert (.iface 46 v) 20 46 true).run Try.prog w = .ok (.tuple #[v, .bool true]) w := by kernel_rfl
theorem as47_4 (v : Value) (w : World) : (Instr.typeAssert (.iface 47 v) 20 4 true).run Try.prog w = .ok (.tuple #[.bool false, .bool false]) w := by kernel_rfl
theorem as47_45 (v : Value) (w : World) : (Instr.typeAssert (.iface 47 v) 20 45 true).run Try.prog w = .ok (.tuple #[.string ⟨#[]⟩, .bool false]) w := by kernel_rfl
theorem as47_9 (v : Value) (w : World) : (Instr.typeAssert (.iface 47 v) 20 9 true).run Try.prog w = .ok (.tuple #[.string ⟨#[]⟩, .bool false]) w := by kernel_rfl
theorem as47_46 (v : Value) (w : World) : (Instr.typeAssert (.iface 47 v) 20 46 true).run Try.prog w = .ok (.tuple #[.slice none 0 0, .bool false]) w := by kernel_rfl
set_option maxHeartbeats 400000 in
theorem kindStr (s : ByteArray) (w : World) :
    Calls Try.prog 8 #[.string s] w fun e w' => e = .returned (.string ⟨#[97, 32, 115, 116, 114, 105, 110, 103]⟩) ∧ w' = w := by
  have h9_4 := as9_4
  have h9_45 := as9_45
  have h9_9 := as9_9
  go_enter Try.func8, Try.ntmps8
  go_wp2
  go_ret
  exact ⟨rfl, rfl⟩

set_option maxHeartbeats 400000 in
theorem kindNum (s : ByteArray) (w : World) :
    Calls Try.prog 9 #[.string s] w fun e w' => e = .returned (.string ⟨#[97, 32, 110, 117, 109, 98, 101, 114]⟩) ∧ w' = w := by
  have h45_4 := as45_4
  have h45_45 := as45_45
  go_enter Try.func9, Try.ntmps9
  go_wp2
  go_ret
  exact ⟨rfl, rfl⟩

set_option maxHeartbeats 400000 in
theorem kindNil (w : World) :
    Calls Try.prog 10 #[] w fun e w' => e = .returned (.string ⟨#[110, 117, 108, 108]⟩) ∧ w' = w := by
  go_enter Try.func10, Try.ntmps10
  go_wp2
  go_ret
  exact ⟨rfl, rfl⟩

set_option maxHeartbeats 400000 in
theorem kindFalse (w : World) :
    Calls Try.prog 11 #[.bool false] w fun e w' => e = .returned (.string ⟨#[102, 97, 108, 115, 101]⟩) ∧ w' = w := by
  have h4_4 := as4_4
  go_enter Try.func11, Try.ntmps11
  go_wp2
  go_ret
  exact ⟨rfl, rfl⟩

set_option maxHeartbeats 400000 in
theorem kindTrue (w : World) :
    Calls Try.prog 11 #[.bool true] w fun e w' => e = .returned (.string ⟨#[116, 114, 117, 101]⟩) ∧ w' = w := by
  have h4_4 := as4_4
  go_enter Try.func11, Try.ntmps11
  go_wp2
  go_ret
  exact ⟨rfl, rfl⟩

set_option maxHeartbeats 400000 in
theorem kindArr (w : World) :
    Calls Try.prog 12 #[] w fun e w' => e = .returned (.string ⟨#[97, 110, 32, 97, 114, 114, 97, 121]⟩) ∧ ∃ o, w' = w.alloc o := by
  have h46_4 := as46_4
  have h46_45 := as46_45
  have h46_9 := as46_9
  have h46_46 := as46_46
  go_enter Try.func12, Try.ntmps12
  go_wp2
  go_ret
  exact ⟨rfl, _, rfl⟩

set_option maxHeartbeats 400000 in
theorem kindObj (w : World) :
    Calls Try.prog 13 #[] w fun e w' => e = .returned (.string ⟨#[97, 110, 32, 111, 98, 106, 101, 99, 116]⟩) ∧ ∃ o, w' = w.alloc o := by
  have h47_4 := as47_4
  have h47_45 := as47_45
  have h47_9 := as47_9
  have h47_46 := as47_46
  have hmm := @run_makeMap Try.prog
  go_enter Try.func13, Try.ntmps13
  go_wp2
  go_ret
  exact ⟨rfl, _, rfl⟩

end Go.Proofs.Qxb6614820a.Kind
