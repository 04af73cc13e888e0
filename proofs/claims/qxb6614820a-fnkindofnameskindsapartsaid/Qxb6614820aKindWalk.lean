import Derived.Test.Qxb6614820aKind
import Derived.Deep.QuietTactic
import Derived.BigQuiet
import Derived.Deep.RegionWith
namespace Go.Proofs.Qxb6614820a.Kind
open Go.RowKit

set_option maxHeartbeats 400000 in
theorem walk_long (a0 : ByteArray) (a1 : ByteArray) (w0 : a0.size ≤ maxLen) (w1 : a1.size ≤ maxLen) (h : 65536 < a0.size ∨ 65536 < a1.size) (w : World) :
    Calls Try.prog 3 #[.string a0, .string a1] w fun e w' => e = .returned (.bool true) ∧ w' = w := by
  unfold maxLen at w0 w1
  by_cases h1 : a0.size ≤ 1048576
  · by_cases h2 : a1.size ≤ 1048576
    · by_cases h3 : a0.size + a1.size ≤ 1048576
      · by_cases h4 : 65536 < a0.size
        · go_enter Try.func3, Try.ntmps3
          go_wp2
          go_ret
          exact ⟨rfl, rfl⟩
        · have h5 : 65536 < a1.size := by omega
          go_enter Try.func3, Try.ntmps3
          go_wp2
          go_ret
          exact ⟨rfl, rfl⟩
      · go_enter Try.func3, Try.ntmps3
        go_wp2
        go_ret
        exact ⟨rfl, rfl⟩
    · go_enter Try.func3, Try.ntmps3
      go_wp2
      go_ret
      exact ⟨rfl, rfl⟩
  · go_enter Try.func3, Try.ntmps3
    go_wp2
    go_ret
    exact ⟨rfl, rfl⟩

/-- The seven names. -/
def nm : Nat → ByteArray
  | 0 => ⟨#[110, 117, 108, 108]⟩
  | 1 => ⟨#[102, 97, 108, 115, 101]⟩
  | 2 => ⟨#[116, 114, 117, 101]⟩
  | 3 => ⟨#[97, 32, 115, 116, 114, 105, 110, 103]⟩
  | 4 => ⟨#[97, 32, 110, 117, 109, 98, 101, 114]⟩
  | 5 => ⟨#[97, 110, 32, 97, 114, 114, 97, 121]⟩
  | _ => ⟨#[97, 110, 32, 111, 98, 106, 101, 99, 116]⟩

theorem nm_some (k : Nat) (h : k < 7) : (nm k).toList.isEmpty = false := by
  rw [ByteArray.toList_eq]
  match k, h with
  | 0, _ => rfl
  | 1, _ => rfl
  | 2, _ => rfl
  | 3, _ => rfl
  | 4, _ => rfl
  | 5, _ => rfl
  | 6, _ => rfl

theorem nm_apart (k j : Nat) (h : k < j) (hj : j < 7) : ((nm k).toList == (nm j).toList) = false := by
  have H : ∀ j : Fin 7, ∀ k : Fin 7, k < j → ((nm k).data.toList == (nm j).data.toList) = false := by decide
  rw [ByteArray.toList_eq, ByteArray.toList_eq]
  exact H ⟨j, hj⟩ ⟨k, by omega⟩ h

theorem cells7 (w : World) (o1 o2 : Obj) (k : Nat) (hk : k < 7) :
    (((w.alloc (.cells #[.string (nm 0), .string (nm 1), .string (nm 2), .string (nm 3), .string (nm 4), .string (nm 5), .string (nm 6)] 24)).alloc o1).alloc o2).cell? ⟨w.heap.size, k, none⟩ = some (.string (nm k)) := by
  have hh : (((w.alloc (.cells #[.string (nm 0), .string (nm 1), .string (nm 2), .string (nm 3), .string (nm 4), .string (nm 5), .string (nm 6)] 24)).alloc o1).alloc o2).heap[w.heap.size]? = some (.cells #[.string (nm 0), .string (nm 1), .string (nm 2), .string (nm 3), .string (nm 4), .string (nm 5), .string (nm 6)] 24) := by
    rw [Below.heap_alloc _ _ _ (by simp; omega), Below.heap_alloc _ _ _ (by simp), Go.heap_alloc_new]
  rw [cell_of_row _ w.heap.size k _ 24 (0, 0) hh]
  match k, hk with
  | 0, _ => rfl
  | 1, _ => rfl
  | 2, _ => rfl
  | 3, _ => rfl
  | 4, _ => rfl
  | 5, _ => rfl
  | 6, _ => rfl

theorem below_drewN {B : Nat} {a w : World} (h : Below B a w) (n : Nat) : Below B a (w.drewN n) := ⟨h.os, h.tape, h.output, h.size, h.block⟩

set_option maxHeartbeats 400000 in
theorem walk_short (a0 : ByteArray) (a1 : ByteArray) (h0 : a0.size ≤ 65536) (h1 : a1.size ≤ 65536) (w : World) :
    Calls Try.prog 3 #[.string a0, .string a1] w fun e w' => e = .returned (.bool true) ∧ Below w.heap.size w w' := by
  go_enter Try.func3, Try.ntmps3
  go_wp2_with (first
    | (go_at_call 8; refine (kindStr _ _).mono ?_; rintro e w' ⟨rfl, rfl⟩)
    | (go_at_call 9; refine (kindNum _ _).mono ?_; rintro e w' ⟨rfl, rfl⟩)
    | (go_at_call 10; refine (kindNil _).mono ?_; rintro e w' ⟨rfl, rfl⟩)
    | (go_at_call_of 11 (Value.bool false); refine (kindFalse _).mono ?_; rintro e w' ⟨rfl, rfl⟩)
    | (go_at_call_of 11 (Value.bool true); refine (kindTrue _).mono ?_; rintro e w' ⟨rfl, rfl⟩)
    | (go_at_call 12; refine (kindArr _).mono ?_; rintro e w' ⟨rfl, o1, rfl⟩)
    | (go_at_call 13; refine (kindObj _).mono ?_; rintro e w' ⟨rfl, o2, rfl⟩)
    | go_in)
  obtain ⟨W, hW, hc, hb⟩ : ∃ W, (((w'.alloc (.cells #[.string (nm 0), .string (nm 1), .string (nm 2), .string (nm 3), .string (nm 4), .string (nm 5), .string (nm 6)] 24)).alloc o1).alloc o2) = W ∧ (∀ k, k < 7 → W.cell? ⟨w'.heap.size, k, none⟩ = some (.string (nm k))) ∧ Below w'.heap.size w' W :=
    ⟨_, rfl, cells7 w' o1 o2, (((Below.refl _ _).alloc (Nat.le_refl _) _).alloc (by simp) _).alloc (by simp; omega) _⟩
  simp only [nm] at hW
  rw [hW]
  clear hW
  have HB := fun (e : Ending) n (he : e = .returned (.bool true)) => (⟨he, below_drewN hb n⟩ : e = .returned (.bool true) ∧ Below w'.heap.size w' (W.drewN n))
  clear hb
  go_loopw [10] (fun i wr => ∃ k : Nat, k ≤ 7 ∧ i = .int .i64 k ∧ ∃ n, wr = W.drewN n) (fun i _ => 7 - (intOf i).toNat)
  case atStart => exact ⟨0, by omega, rfl, 0, rfl⟩
  case round =>
    obtain ⟨k, hk, rfl, n, rfl⟩ := hrel
    by_cases hlt : k < 7
    · have hck := hc k hlt
      have hne := nm_some k hlt
      go_wp2
      go_loopw [11] (fun i wr => ∃ j : Nat, k < j ∧ j ≤ 7 ∧ i = .int .i64 j ∧ ∃ n, wr = W.drewN n) (fun i _ => 7 - (intOf i).toNat)
      case atStart => exact ⟨k + 1, by omega, by omega, by go_num, n, rfl⟩
      case round =>
        obtain ⟨j, hkj, hj, rfl, m, rfl⟩ := hrel
        by_cases hjl : j < 7
        · have hcj := hc j hjl
          have hap := nm_apart k j hkj hjl
          go_wp2
          go_quiet (fail)
          go_wp2
          go_roundw
          case rel => exact ⟨j + 1, by omega, by omega, by go_num, _, rfl⟩
          case measure => simp [intOf]; omega
        · go_wp2
          go_roundw
          case rel => exact ⟨k + 1, by omega, by go_num, _, rfl⟩
          case measure => simp [intOf]; omega
    · go_wp2
      go_ret
      exact HB _ n rfl
end Go.Proofs.Qxb6614820a.Kind
