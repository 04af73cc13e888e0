import Derived.Test.Qxb6614820aUse
namespace Go.Proofs.Qxb6614820a.RoundTrip
open Go.RowKit Go.Proofs.Qxb6614820a.Eq Go.Proofs.Qxb6614820a.Clone Go.Proofs.Qxb6614820a.Wr
set_option linter.unusedVariables false
set_option linter.unusedSimpArgs false

set_option maxHeartbeats 1000000 in
set_option maxRecDepth 100000 in
theorem walk_out (a0 : Option Addr) (len0 cap0 : Nat) (a1 a2 : Bool) (a3 : ByteArray) (a4 a5 a6 : Int) (w : World) (hl : len0 ≤ maxLen) (w3 : a3.size ≤ maxLen)
    (h : ¬ (len0 ≤ 1048576 ∧ a3.size ≤ 65536 ∧ len0 + a3.size ≤ 1048576 ∧ -1 ≤ a4 ∧ (a1 = true → a4 = -1))) :
    Calls Try.prog 4 #[.slice a0 len0 cap0, .bool a1, .bool a2, .string a3, .int .i64 a4, .int .u8 a5, .int .u8 a6] w fun e w' => e = .returned (.bool true) ∧ w' = w := by
  unfold maxLen at hl w3
  by_cases h1 : len0 ≤ 1048576
  · by_cases h2 : a3.size ≤ 1048576
    · by_cases h3 : len0 + a3.size ≤ 1048576
      · by_cases h4 : a3.size ≤ 65536
        · by_cases h5 : -1 ≤ a4
          · have h6 : a1 = true ∧ a4 ≠ -1 := by
              cases a1
              · exact absurd ⟨h1, h4, h3, h5, by simp⟩ h
              · exact ⟨rfl, fun e => h ⟨h1, h4, h3, h5, fun _ => e⟩⟩
            obtain ⟨rfl, h7⟩ := h6
            have h8 : (a4 != -1) = true := by simpa using h7
            clear h
            go_enter Try.func4, Try.ntmps4
            go_wp2
            go_ret
            exact ⟨rfl, rfl⟩
          · clear h
            go_enter Try.func4, Try.ntmps4
            go_wp2
            go_ret
            exact ⟨rfl, rfl⟩
        · clear h
          go_enter Try.func4, Try.ntmps4
          go_wp2
          go_ret
          exact ⟨rfl, rfl⟩
      · clear h
        go_enter Try.func4, Try.ntmps4
        go_wp2
        go_ret
        exact ⟨rfl, rfl⟩
    · clear h
      go_enter Try.func4, Try.ntmps4
      go_wp2
      go_ret
      exact ⟨rfl, rfl⟩
  · clear h
    go_enter Try.func4, Try.ntmps4
    go_wp2
    go_ret
    exact ⟨rfl, rfl⟩

set_option maxHeartbeats 2000000 in
set_option maxRecDepth 100000 in
theorem walk_in (a0 : Option Addr) (xs : List Int) (cap0 : Nat) (hnil : a0 = none → xs.length = 0 ∧ cap0 = 0) (a1 a2 : Bool) (a3 : ByteArray) (a4 a5 a6 : Int) (w : World) (hr : Rd w a0 xs)
    (h1 : xs.length ≤ 1048576) (h2 : a3.size ≤ 65536) (h3 : xs.length + a3.size ≤ 1048576) (h4 : -1 ≤ a4) (h5 : a1 = true → (a4 != -1) = false) :
    Calls Try.prog 4 #[.slice a0 xs.length cap0, .bool a1, .bool a2, .string a3, .int .i64 a4, .int .u8 a5, .int .u8 a6] w fun e w' => e = .returned (.bool true) ∧ Below w.heap.size w w' := by
  have HR := hide (And.intro hr hnil)
  clear hr hnil
  generalize hN : xs.length = N at *
  have HN := hide hN
  clear hN
  have h6 : a1 = false ∨ (a1 = true ∧ (a4 != -1) = false) := by
    cases a1
    · exact .inl rfl
    · exact .inr ⟨rfl, h5 rfl⟩
  clear h5
  rcases h6 with rfl | ⟨rfl, h6⟩
  all_goals
    go_enter Try.func4, Try.ntmps4
    go_wp2_with (first | (go_at_call 14; go_in))
    refine (clone_any a0 xs cap0 N HN.out.symm (HN.out ▸ HR.out.2) h1 w HR.out.1).mono ?_
    rintro e w1 ⟨v, rfl, hv1, hb1⟩
    have HV1 := hide (And.intro hv1 hb1)
    clear hv1 hb1
    go_wp2_with fail
    refine (newAt v _ a2 a3 a4 xs w.heap.size w1 HV1.out.2.size (HN.out ▸ HV1.out.1)).mono ?_
    rintro e w2 ⟨p, rfl, hw2, hb2⟩
    have HW2 := hide (And.intro hw2 (HV1.out.2.trans (hb2.mono HV1.out.2.size)))
    clear hw2 hb2 HV1
    go_wp2_with fail
    refine (begin_any w.heap.size p xs _ [(a2, a3, a4)] a5 w2 HW2.out.1 (by rw [HN.out]; omega) (by simp)).mono ?_
    rintro e w3 ⟨rfl, hw3, hb3⟩
    have HW3 := hide (And.intro hw3 (HW2.out.2.trans hb3))
    clear hw3 hb3 HW2
    go_wp2_with fail
    refine (atLenY w.heap.size p (xs ++ [a5]) true _ 2 (by simp) w3 HW3.out.1).mono ?_
    rintro e w4 ⟨rfl, rfl⟩
    go_wp2_with fail
    refine (first_any w.heap.size p (xs ++ [a5]) true _ w4 HW3.out.1).mono ?_
    rintro e w5 ⟨rfl, rfl⟩
    go_wp2_with fail
    refine (atY w.heap.size p (xs ++ [a5]) true _ 1 1 rfl (a5 == 91) ⟨#[]⟩ (-1) rfl w5 HW3.out.1).mono ?_
    rintro e w6 ⟨rfl, hb6⟩
    have HW6 := hide (And.intro (HW3.out.1.below hb6) (HW3.out.2.trans (hb6.mono HW3.out.2.size)))
    clear hb6 HW3
    go_wp2_with fail
    refine (outerY w.heap.size p (xs ++ [a5]) true _ a2 a3 a4 rfl w6 HW6.out.1).mono ?_
    rintro e w7 ⟨rfl, hb7⟩
    have HW7 := hide (And.intro (HW6.out.1.below hb7) (HW6.out.2.trans (hb7.mono HW6.out.2.size)))
    clear hb7 HW6
    go_wp2_with fail
    refine (bytesS w.heap.size p (xs ++ [a5]) true _ (N + 1) (by rw [len_snoc, HN.out]) (by omega) w7 HW7.out.1).mono ?_
    rintro e w8 ⟨g8, cap8, rfl, rfl, hown8, hc8, hm8⟩
    have hd8 := byte_at hown8 N a5 (by rw [← HN.out]; simp)
    have hr8 := rd_own hown8
    have HO8 := hide (rd_prefix hr8)
    unfold maxLen at hm8
    have hc8' : ((N : Int) + 1) ≤ (cap8 : Int) := by omega
    clear hown8 hr8
    go_wp2_with fail
    refine (eqY _ a0 N N _ _ xs (by rw [HN.out]; unfold maxLen; omega) HN.out.symm HN.out.symm w8 HO8.out (rd_on HR.out.1 HW7.out.2)).mono ?_
    rintro e w9 ⟨rfl, hb9⟩
    have HW9 := hide (And.intro (HW7.out.1.below hb9) (HW7.out.2.trans (hb9.mono HW7.out.2.size)))
    have hd9 : w9.cell? ⟨g8, N, none⟩ = some (.int .u8 a5) := by rw [hb9.cell (World.block_lt_of_cell? _ _ hd8)]; exact hd8
    clear hb9 HW7 hd8 HO8
    go_wp2_with fail
    refine (end_any w.heap.size p (xs ++ [a5]) true [(a2, a3, a4)] (a5 == 91, ⟨#[]⟩, -1) a6 w9 HW9.out.1 (by rw [len_snoc, HN.out]; omega)).mono ?_
    rintro e w10 ⟨rfl, hw10, hb10⟩
    have HW10 := hide (And.intro hw10 (HW9.out.2.trans hb10))
    clear hw10 hb10 HW9 hd9
    go_wp2_with fail
    refine (atLenY w.heap.size p (xs ++ [a5] ++ [a6]) false _ 1 (by simp) w10 HW10.out.1).mono ?_
    rintro e w11 ⟨rfl, rfl⟩
    go_wp2_with fail
    refine (first_any w.heap.size p (xs ++ [a5] ++ [a6]) false _ w11 HW10.out.1).mono ?_
    rintro e w12 ⟨rfl, rfl⟩
    go_wp2_with fail
    refine (outerY w.heap.size p (xs ++ [a5] ++ [a6]) false _ a2 a3 a4 rfl w12 HW10.out.1).mono ?_
    rintro e w13 ⟨rfl, hb13⟩
    have HW13 := hide (And.intro (HW10.out.1.below hb13) (HW10.out.2.trans (hb13.mono HW10.out.2.size)))
    clear hb13 HW10
    go_wp2_with fail
    refine (bytesS w.heap.size p (xs ++ [a5] ++ [a6]) false _ (N + 2) (by rw [len_snoc, len_snoc, HN.out]) (by omega) w13 HW13.out.1).mono ?_
    rintro e w14 ⟨g14, cap14, rfl, rfl, hown14, hc14, hm14⟩
    have hd14 := byte_at hown14 N a5 (by rw [← HN.out]; simp)
    have hf14 := byte_at hown14 (N + 1) a6 (by rw [← HN.out]; simp)
    have hr14 := rd_own hown14
    rw [List.append_assoc] at hr14
    have HO14 := hide (rd_prefix hr14)
    unfold maxLen at hm14
    have hc14' : ((N : Int) + 2) ≤ (cap14 : Int) := by omega
    clear hown14 hr14
    go_wp2_with fail
    refine (eqY _ a0 N N _ _ xs (by rw [HN.out]; unfold maxLen; omega) HN.out.symm HN.out.symm w14 HO14.out (rd_on HR.out.1 HW13.out.2)).mono ?_
    rintro e w15 ⟨rfl, hb15⟩
    have HB15 := hide (HW13.out.2.trans (hb15.mono HW13.out.2.size))
    have hd15 : w15.cell? ⟨g14, N, none⟩ = some (.int .u8 a5) := by rw [hb15.cell (World.block_lt_of_cell? _ _ hd14)]; exact hd14
    have hf15 : w15.cell? ⟨g14, N + 1, none⟩ = some (.int .u8 a6) := by rw [hb15.cell (World.block_lt_of_cell? _ _ hf14)]; exact hf14
    clear hb15 HW13 hd14 HO14 hf14
    go_wp2
    go_ret
    exact ⟨rfl, HB15.out⟩
end Go.Proofs.Qxb6614820a.RoundTrip
