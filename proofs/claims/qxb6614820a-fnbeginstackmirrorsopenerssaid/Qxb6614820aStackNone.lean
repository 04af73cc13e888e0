import Derived.Test.Qxb6614820aStack
namespace Go.Proofs.Qxb6614820a.Stack
open Go.RowKit Go.Proofs.Qxb6614820a.Eq Go.Proofs.Qxb6614820a.Clone Go.Proofs.Qxb6614820a.Wr
set_option linter.unusedVariables false
set_option linter.unusedSimpArgs false

theorem cap_of {w : World} {B : Nat} {e : TypeId} {k n n' cap : Nat} {ao : Option Addr} {xs : List Value} (hv : w.ownsRow B e k (.slice ao n' cap) n xs) : n ≤ cap ∧ cap ≤ maxLen ∧ (ao = none → cap = 0) ∧ (∀ x, ao = some x → ∃ g, x = ⟨g, 0, none⟩) := by
  rcases hv.2 with ⟨h, rfl⟩ | ⟨g, cap', cur, h, _, _, h1, h2, _⟩
  · cases h; exact ⟨Nat.le_refl _, Nat.zero_le _, fun _ => rfl, fun x h => nomatch h⟩
  · cases h; exact ⟨h1, h2, (fun h => nomatch h), fun x h => ⟨g, by cases h; rfl⟩⟩

theorem rd_nil (w : World) (a : Option Addr) : Rd w a [] := fun k hk => absurd hk (by simp)

set_option maxHeartbeats 2000000 in
set_option maxRecDepth 100000 in
theorem walk_none (a0 : Option Addr) (xs : List Int) (cap0 : Nat) (hnil : a0 = none → xs.length = 0 ∧ cap0 = 0) (a1 : Option Addr) (cap1 : Nat) (w : World) (hr : Rd w a0 xs)
    (h1 : xs.length ≤ 1048576) :
    Calls Try.prog 5 #[.slice a0 xs.length cap0, .slice a1 0 cap1] w fun e w' => e = .returned (.bool true) ∧ Below w.heap.size w w' := by
  have HR := hide (And.intro hr hnil)
  clear hr hnil
  generalize hN : xs.length = N at *
  have HN := hide hN
  clear hN
  go_enter Try.func5, Try.ntmps5
  go_wp2_with (first | (go_at_call 25; go_in))
  refine (new_any w).mono ?_
  rintro e w1 ⟨p, rfl, hw1, hb1⟩
  have HW1 := hide (And.intro hw1 hb1)
  clear hw1 hb1
  go_wp2_with fail
  refine (raw_any w.heap.size p [] xs a0 N cap0 HN.out.symm (HN.out ▸ HR.out.2) false [] w1 HW1.out.1 (rd_on HR.out.1 HW1.out.2) (by simp [HN.out]; omega)).mono ?_
  rintro e w2 ⟨rfl, hw2, hb2⟩
  rw [List.nil_append] at hw2
  have HW2 := hide (And.intro hw2 (HW1.out.2.trans hb2))
  clear hw2 hb2 HW1
  go_wp2_with fail
  go_loop [6] (fun i => i = .int .i64 0) (fun _ => 0)
  case atStart => rfl
  case round =>
    obtain rfl := hrel
    go_wp2_with fail
    refine (atLenY w.heap.size p _ _ _ 0 (by simp) w2 HW2.out.1).mono ?_
    rintro e w4 ⟨rfl, rfl⟩
    go_wp2_with fail
    refine (first_any w.heap.size p _ _ _ w4 HW2.out.1).mono ?_
    rintro e w5 ⟨rfl, rfl⟩
    go_wp2_with fail
    go_loop [7] (fun i => i = .int .i64 0) (fun _ => 0)
    case atStart => rfl
    case round =>
      obtain rfl := hrel
      go_wp2_with fail
      refine (bytesY w.heap.size p _ _ _ N HN.out w5 HW2.out.1).mono ?_
      rintro e w7 ⟨ao, cap7, rfl, rfl, hown7⟩
      obtain ⟨hc7, hm7, hz7, hs7⟩ := cap_of hown7
      unfold maxLen at hm7
      have hc7a : (N : Int) ≤ (cap7 : Int) := by omega
      have HO7 := hide hown7
      clear hown7
      go_wp2_with fail
      refine (eqY _ a0 N N _ _ xs (by rw [HN.out]; unfold maxLen; omega) HN.out.symm HN.out.symm w7 (rd_own HO7.out) (rd_on HR.out.1 HW2.out.2)).mono ?_
      rintro e w8 ⟨rfl, hb8⟩
      have HW8 := hide (And.intro (HW2.out.1.below hb8) (HW2.out.2.trans (hb8.mono HW2.out.2.size)))
      clear hb8 HW2 HO7
      go_wp2_with fail
      all_goals
        refine (eqY _ a1 0 0 _ _ [] (by simp) rfl rfl w8 (rd_nil _ _) (rd_nil _ _)).mono ?_
        rintro e w9 ⟨rfl, hb9⟩
        have HW9 := hide (And.intro (HW8.out.1.below hb9) (HW8.out.2.trans (hb9.mono HW8.out.2.size)))
        clear hb9 HW8
        go_wp2_with fail
        go_loop [12] (fun i => i = .int .i64 (-1)) (fun _ => 0)
        case atStart => rfl
        case round =>
          obtain rfl := hrel
          go_wp2_with fail
          refine (atLenY w.heap.size p _ _ _ 0 (by simp) w9 HW9.out.1).mono ?_
          rintro e w12 ⟨rfl, rfl⟩
          go_wp2_with fail
          refine (first_any w.heap.size p _ _ _ w12 HW9.out.1).mono ?_
          rintro e w13 ⟨rfl, rfl⟩
          go_wp2_with fail
          refine (bytesY w.heap.size p _ _ _ N HN.out w13 HW9.out.1).mono ?_
          rintro e w14 ⟨ao2, cap14, rfl, rfl, hown14⟩
          obtain ⟨hc14, hm14, _, _⟩ := cap_of hown14
          unfold maxLen at hm14
          have hc14a : (N : Int) ≤ (cap14 : Int) := by omega
          have HO14 := hide hown14
          clear hown14
          go_wp2_with fail
          refine (eqY _ a0 N N _ _ xs (by rw [HN.out]; unfold maxLen; omega) HN.out.symm HN.out.symm w14 (rd_own HO14.out) (rd_on HR.out.1 HW9.out.2)).mono ?_
          rintro e w15 ⟨rfl, hb15⟩
          have HW15 := hide (HW9.out.2.trans (hb15.mono HW9.out.2.size))
          clear hb15 HW9 HO14
          go_wp2_with fail
          all_goals
            refine (eqY _ a1 0 0 _ _ [] (by simp) rfl rfl w15 (rd_nil _ _) (rd_nil _ _)).mono ?_
            rintro e w16 ⟨rfl, hb16⟩
            have HW16 := hide (HW15.out.trans (hb16.mono HW15.out.size))
            clear hb16 HW15
            go_wp2_with fail
            go_loop [13] (fun i => i = .int .i64 0) (fun _ => 0)
            case atStart => rfl
            case round =>
              obtain rfl := hrel
              go_wp2
              go_ret
              exact ⟨rfl, HW16.out⟩
end Go.Proofs.Qxb6614820a.Stack
