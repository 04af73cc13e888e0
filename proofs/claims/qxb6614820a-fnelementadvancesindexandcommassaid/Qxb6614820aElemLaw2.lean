import Derived.Test.Qxb6614820aElemLaw
namespace Go.Proofs.Qxb6614820a.ElemLaw
open Go.RowKit Go.Proofs.Qxb6614820a.Eq Go.Proofs.Qxb6614820a.Clone Go.Proofs.Qxb6614820a.Wr
set_option linter.unusedVariables false
set_option linter.unusedSimpArgs false

theorem cm_at (xs : List Int) (first : Bool) (K j : Nat) (h1 : xs.length ≤ j) (h2 : j < xs.length + (cm first K).length) : (xs ++ cm first K)[j]? = some 44 := by
  rw [List.getElem?_append_right h1]
  unfold cm at h2 ⊢
  simp only [List.length_replicate] at h2
  rw [List.getElem?_replicate, if_pos (by omega)]

theorem cap_of {w : World} {B : Nat} {e : TypeId} {k n n' cap : Nat} {ao : Option Addr} {xs : List Value} (hv : w.ownsRow B e k (.slice ao n' cap) n xs) : n ≤ cap ∧ cap ≤ maxLen := by
  rcases hv.2 with ⟨h, rfl⟩ | ⟨g, cap', cur, h, _, _, h1, h2, _⟩
  · cases h; exact ⟨Nat.le_refl _, Nat.zero_le _⟩
  · cases h; exact ⟨h1, h2⟩

set_option maxHeartbeats 2000000 in
set_option maxRecDepth 100000 in
theorem walk_core (a0 : Option Addr) (xs : List Int) (cap0 : Nat) (hnil : a0 = none → xs.length = 0 ∧ cap0 = 0) (a1 F a2 : Bool) (a3 : ByteArray) (a4 : Int) (K C : Nat) (w : World) (hr : Rd w a0 xs)
    (h1 : xs.length ≤ 1048576) (h2 : a3.size ≤ 65536) (h3 : xs.length + a3.size ≤ 1048576) (h4 : -1 ≤ a4) (hk : K ≤ 65536) (h8 : a4 + K ≤ 9223372036854775807)
    (hcase : (a1 = false ∧ F = false ∧ C = K) ∨ (a1 = true ∧ F = true ∧ C = K ∧ ((K : Int) ≤ 0) ∧ (a4 != -1) = false) ∨ (a1 = true ∧ F = false ∧ K = C + 1 ∧ (a4 != -1) = false))
    (hC : (cm a1 K).length = C ∧ fl a1 K = F) :
    Calls Try.prog 6 #[.slice a0 xs.length cap0, .bool a1, .bool a2, .string a3, .int .i64 a4, .int .i64 K] w fun e w' => e = .returned (.bool true) ∧ Below w.heap.size w w' := by
  have HR := hide (And.intro hr hnil)
  have HC := hide hC
  clear hr hnil hC
  generalize hN : xs.length = N at *
  have HN := hide hN
  clear hN
  rcases hcase with ⟨rfl, rfl, rfl⟩ | ⟨rfl, rfl, rfl, hk0, h6⟩ | ⟨rfl, rfl, hKC, h6⟩
  · go_enter Try.func6, Try.ntmps6
    go_wp2_with (first | (go_at_call 29; go_in))
    refine (clone_any a0 xs cap0 N HN.out.symm (HN.out ▸ HR.out.2) h1 w HR.out.1).mono ?_
    rintro e w1 ⟨v, rfl, hv1, hb1⟩
    have HV1 := hide (And.intro hv1 hb1)
    clear hv1 hb1
    go_wp2_with fail
    refine (newAt v _ a2 a3 a4 xs w.heap.size w1 HV1.out.2.size (HN.out ▸ HV1.out.1)).mono ?_
    rintro e w2 ⟨p, rfl, hw2, hb2⟩
    have HW2 := hide (And.intro hw2 (HV1.out.2.trans (hb2.mono HV1.out.2.size)))
    clear hw2 hb2 HV1
    go_wp2_with fail
    go_loopw [14] (fun i wr => ∃ j : Nat, j ≤ C ∧ i = .int .i64 j ∧ Wr w.heap.size p (xs ++ cm false j) (fl false j) [(a2, a3, a4 + j)] wr ∧ Below w.heap.size w wr) (fun i _ => C - (intOf i).toNat)
    case atStart => exact ⟨0, by omega, rfl, by simpa [cm, fl] using HW2.out.1, HW2.out.2⟩
    case round =>
      obtain ⟨j, hj, rfl, hwr, hbr⟩ := hrel
      have HWR := hide (And.intro hwr hbr)
      clear hwr hbr
      by_cases hlt : j < C
      · go_wp2_with fail
        refine (elem_step w.heap.size p xs false j a2 a3 a4 h4 (by omega) (by rw [HN.out]; exact h1) (by omega) wr HWR.out.1).mono ?_
        rintro e w3 ⟨rfl, hw3, hb3⟩
        have HW3 := hide (And.intro hw3 (HWR.out.2.trans hb3))
        clear hw3 hb3
        go_wp2_with fail
        go_roundw
        case rel => exact ⟨j + 1, by omega, by go_num, HW3.out.1, HW3.out.2⟩
        case measure => simp [intOf]; omega
      · have hjK : j = C := by omega
        have HWR2 : Hid (Wr w.heap.size p (xs ++ cm false (C)) (fl false (C)) [(a2, a3, a4 + ((C : Nat) : Int))] wr ∧ Below w.heap.size w wr) := by rw [← hjK]; exact HWR
        have hjge : (C : Int) ≤ (j : Int) := by omega
        clear HWR hlt hjK
        go_wp2_with fail
        refine (bytesY w.heap.size p _ _ _ (N + C) (by rw [List.length_append, HN.out, HC.out.1]) wr HWR2.out.1).mono ?_
        rintro e w4 ⟨ao, cap4, rfl, rfl, hown4⟩
        obtain ⟨hc4, hm4⟩ := cap_of hown4
        unfold maxLen at hm4
        have hc4' : (N : Int) + C ≤ cap4 := by omega
        have hc4n : (N : Int) ≤ cap4 := by omega
        have HO4 := hide hown4
        clear hown4
        go_wp2_with fail
        refine (eqY _ a0 N N _ _ xs (by rw [HN.out]; unfold maxLen; omega) HN.out.symm HN.out.symm w4 (rd_prefix (rd_own HO4.out)) (rd_on HR.out.1 HWR2.out.2)).mono ?_
        rintro e w5 ⟨rfl, hb5⟩
        have HW5 := hide (And.intro (HWR2.out.1.below hb5) (HWR2.out.2.trans (hb5.mono HWR2.out.2.size)))
        have HO5 := hide (own_on HO4.out hb5)
        clear hb5 HWR2 HO4
        go_wp2_with fail
        go_loop [17] (fun i => ∃ t : Nat, N ≤ t ∧ t ≤ N + C ∧ i = .int .i64 t) (fun i => N + C - (intOf i).toNat)
        case atStart => exact ⟨N, by omega, by omega, rfl⟩
        case round =>
          obtain ⟨t, ht1, ht2, rfl⟩ := hrel
          by_cases hlt : t < N + C
          · obtain ⟨g, cap', hg1, hg2, hg3⟩ := shape_some HO5.out (by omega)
            cases hg1
            have hct := byte_at HO5.out t 44 (cm_at xs false (C) t (by rw [HN.out]; exact ht1) (by rw [HN.out, HC.out.1]; exact hlt))
            have hlt' : (t : Int) < (N : Int) + C := by omega
            go_wp2
            go_round
            case rel => exact ⟨t + 1, by omega, by omega, by go_num⟩
            case measure => simp [intOf]; omega
          · have hge : (N : Int) + C ≤ (t : Int) := by omega
            go_wp2_with fail
            refine (atLenY w.heap.size p _ _ _ 1 (by simp) w5 HW5.out.1).mono ?_
            rintro e w6 ⟨rfl, rfl⟩
            go_wp2_with fail
            refine (first_any w.heap.size p _ _ _ w6 HW5.out.1).mono ?_
            rw [HC.out.2]
            rintro e w7 ⟨rfl, rfl⟩
            go_wp2_with fail
            refine (outerY w.heap.size p _ _ _ a2 a3 _ (by rfl) w7 HW5.out.1).mono ?_
            rintro e w8 ⟨rfl, hb8⟩
            have HB8 := hide (HW5.out.2.trans (hb8.mono HW5.out.2.size))
            clear hb8
            go_wp2
            go_ret
            exact ⟨rfl, HB8.out⟩
  · go_enter Try.func6, Try.ntmps6
    go_wp2_with (first | (go_at_call 29; go_in))
    refine (clone_any a0 xs cap0 N HN.out.symm (HN.out ▸ HR.out.2) h1 w HR.out.1).mono ?_
    rintro e w1 ⟨v, rfl, hv1, hb1⟩
    have HV1 := hide (And.intro hv1 hb1)
    clear hv1 hb1
    go_wp2_with fail
    refine (newAt v _ a2 a3 a4 xs w.heap.size w1 HV1.out.2.size (HN.out ▸ HV1.out.1)).mono ?_
    rintro e w2 ⟨p, rfl, hw2, hb2⟩
    have HW2 := hide (And.intro hw2 (HV1.out.2.trans (hb2.mono HV1.out.2.size)))
    clear hw2 hb2 HV1
    go_wp2_with fail
    go_loopw [14] (fun i wr => ∃ j : Nat, j ≤ C ∧ i = .int .i64 j ∧ Wr w.heap.size p (xs ++ cm true j) (fl true j) [(a2, a3, a4 + j)] wr ∧ Below w.heap.size w wr) (fun i _ => C - (intOf i).toNat)
    case atStart => exact ⟨0, by omega, rfl, by simpa [cm, fl] using HW2.out.1, HW2.out.2⟩
    case round =>
      obtain ⟨j, hj, rfl, hwr, hbr⟩ := hrel
      have HWR := hide (And.intro hwr hbr)
      clear hwr hbr
      by_cases hlt : j < C
      · go_wp2_with fail
        refine (elem_step w.heap.size p xs true j a2 a3 a4 h4 (by omega) (by rw [HN.out]; exact h1) (by omega) wr HWR.out.1).mono ?_
        rintro e w3 ⟨rfl, hw3, hb3⟩
        have HW3 := hide (And.intro hw3 (HWR.out.2.trans hb3))
        clear hw3 hb3
        go_wp2_with fail
        go_roundw
        case rel => exact ⟨j + 1, by omega, by go_num, HW3.out.1, HW3.out.2⟩
        case measure => simp [intOf]; omega
      · have hjK : j = C := by omega
        have HWR2 : Hid (Wr w.heap.size p (xs ++ cm true (C)) (fl true (C)) [(a2, a3, a4 + ((C : Nat) : Int))] wr ∧ Below w.heap.size w wr) := by rw [← hjK]; exact HWR
        have hjge : (C : Int) ≤ (j : Int) := by omega
        clear HWR hlt hjK
        go_wp2_with fail
        refine (bytesY w.heap.size p _ _ _ (N + C) (by rw [List.length_append, HN.out, HC.out.1]) wr HWR2.out.1).mono ?_
        rintro e w4 ⟨ao, cap4, rfl, rfl, hown4⟩
        obtain ⟨hc4, hm4⟩ := cap_of hown4
        unfold maxLen at hm4
        have hc4' : (N : Int) + C ≤ cap4 := by omega
        have hc4n : (N : Int) ≤ cap4 := by omega
        have HO4 := hide hown4
        clear hown4
        go_wp2_with fail
        refine (eqY _ a0 N N _ _ xs (by rw [HN.out]; unfold maxLen; omega) HN.out.symm HN.out.symm w4 (rd_prefix (rd_own HO4.out)) (rd_on HR.out.1 HWR2.out.2)).mono ?_
        rintro e w5 ⟨rfl, hb5⟩
        have HW5 := hide (And.intro (HWR2.out.1.below hb5) (HWR2.out.2.trans (hb5.mono HWR2.out.2.size)))
        have HO5 := hide (own_on HO4.out hb5)
        clear hb5 HWR2 HO4
        go_wp2_with fail
        go_loop [17] (fun i => ∃ t : Nat, N ≤ t ∧ t ≤ N + C ∧ i = .int .i64 t) (fun i => N + C - (intOf i).toNat)
        case atStart => exact ⟨N, by omega, by omega, rfl⟩
        case round =>
          obtain ⟨t, ht1, ht2, rfl⟩ := hrel
          by_cases hlt : t < N + C
          · obtain ⟨g, cap', hg1, hg2, hg3⟩ := shape_some HO5.out (by omega)
            cases hg1
            have hct := byte_at HO5.out t 44 (cm_at xs true (C) t (by rw [HN.out]; exact ht1) (by rw [HN.out, HC.out.1]; exact hlt))
            have hlt' : (t : Int) < (N : Int) + C := by omega
            go_wp2
            go_round
            case rel => exact ⟨t + 1, by omega, by omega, by go_num⟩
            case measure => simp [intOf]; omega
          · have hge : (N : Int) + C ≤ (t : Int) := by omega
            go_wp2_with fail
            refine (atLenY w.heap.size p _ _ _ 1 (by simp) w5 HW5.out.1).mono ?_
            rintro e w6 ⟨rfl, rfl⟩
            go_wp2_with fail
            refine (first_any w.heap.size p _ _ _ w6 HW5.out.1).mono ?_
            rw [HC.out.2]
            rintro e w7 ⟨rfl, rfl⟩
            have hk0b : ((C : Int) == 0) = true := by simp; omega
            go_wp2_with fail
            refine (outerY w.heap.size p _ _ _ a2 a3 _ (by rfl) w7 HW5.out.1).mono ?_
            rintro e w8 ⟨rfl, hb8⟩
            have HB8 := hide (HW5.out.2.trans (hb8.mono HW5.out.2.size))
            clear hb8
            go_wp2
            go_ret
            exact ⟨rfl, HB8.out⟩
  · have hk1 : (C : Int) ≤ (K : Int) - 1 := by omega
    have hk2 : (K : Int) - 1 ≤ (C : Int) := by omega
    have hk3 : (0 : Int) < (K : Int) := by omega
    clear hKC
    go_enter Try.func6, Try.ntmps6
    go_wp2_with (first | (go_at_call 29; go_in))
    refine (clone_any a0 xs cap0 N HN.out.symm (HN.out ▸ HR.out.2) h1 w HR.out.1).mono ?_
    rintro e w1 ⟨v, rfl, hv1, hb1⟩
    have HV1 := hide (And.intro hv1 hb1)
    clear hv1 hb1
    go_wp2_with fail
    refine (newAt v _ a2 a3 a4 xs w.heap.size w1 HV1.out.2.size (HN.out ▸ HV1.out.1)).mono ?_
    rintro e w2 ⟨p, rfl, hw2, hb2⟩
    have HW2 := hide (And.intro hw2 (HV1.out.2.trans (hb2.mono HV1.out.2.size)))
    clear hw2 hb2 HV1
    go_wp2_with fail
    go_loopw [14] (fun i wr => ∃ j : Nat, j ≤ K ∧ i = .int .i64 j ∧ Wr w.heap.size p (xs ++ cm true j) (fl true j) [(a2, a3, a4 + j)] wr ∧ Below w.heap.size w wr) (fun i _ => K - (intOf i).toNat)
    case atStart => exact ⟨0, by omega, rfl, by simpa [cm, fl] using HW2.out.1, HW2.out.2⟩
    case round =>
      obtain ⟨j, hj, rfl, hwr, hbr⟩ := hrel
      have HWR := hide (And.intro hwr hbr)
      clear hwr hbr
      by_cases hlt : j < K
      · go_wp2_with fail
        refine (elem_step w.heap.size p xs true j a2 a3 a4 h4 (by omega) (by rw [HN.out]; exact h1) (by omega) wr HWR.out.1).mono ?_
        rintro e w3 ⟨rfl, hw3, hb3⟩
        have HW3 := hide (And.intro hw3 (HWR.out.2.trans hb3))
        clear hw3 hb3
        go_wp2_with fail
        go_roundw
        case rel => exact ⟨j + 1, by omega, by go_num, HW3.out.1, HW3.out.2⟩
        case measure => simp [intOf]; omega
      · have hjK : j = K := by omega
        have HWR2 : Hid (Wr w.heap.size p (xs ++ cm true (K)) (fl true (K)) [(a2, a3, a4 + (K : Int))] wr ∧ Below w.heap.size w wr) := by rw [← hjK]; exact HWR
        have hjge : (K : Int) ≤ (j : Int) := by omega
        clear HWR hlt hjK
        go_wp2_with fail
        refine (bytesY w.heap.size p _ _ _ (N + C) (by rw [List.length_append, HN.out, HC.out.1]) wr HWR2.out.1).mono ?_
        rintro e w4 ⟨ao, cap4, rfl, rfl, hown4⟩
        obtain ⟨hc4, hm4⟩ := cap_of hown4
        unfold maxLen at hm4
        have hc4' : (N : Int) + C ≤ cap4 := by omega
        have hc4n : (N : Int) ≤ cap4 := by omega
        have HO4 := hide hown4
        clear hown4
        go_wp2_with fail
        refine (eqY _ a0 N N _ _ xs (by rw [HN.out]; unfold maxLen; omega) HN.out.symm HN.out.symm w4 (rd_prefix (rd_own HO4.out)) (rd_on HR.out.1 HWR2.out.2)).mono ?_
        rintro e w5 ⟨rfl, hb5⟩
        have HW5 := hide (And.intro (HWR2.out.1.below hb5) (HWR2.out.2.trans (hb5.mono HWR2.out.2.size)))
        have HO5 := hide (own_on HO4.out hb5)
        clear hb5 HWR2 HO4
        go_wp2_with fail
        go_loop [17] (fun i => ∃ t : Nat, N ≤ t ∧ t ≤ N + C ∧ i = .int .i64 t) (fun i => N + C - (intOf i).toNat)
        case atStart => exact ⟨N, by omega, by omega, rfl⟩
        case round =>
          obtain ⟨t, ht1, ht2, rfl⟩ := hrel
          by_cases hlt : t < N + C
          · obtain ⟨g, cap', hg1, hg2, hg3⟩ := shape_some HO5.out (by omega)
            cases hg1
            have hct := byte_at HO5.out t 44 (cm_at xs true (K) t (by rw [HN.out]; exact ht1) (by rw [HN.out, HC.out.1]; exact hlt))
            have hlt' : (t : Int) < (N : Int) + C := by omega
            go_wp2
            go_round
            case rel => exact ⟨t + 1, by omega, by omega, by go_num⟩
            case measure => simp [intOf]; omega
          · have hge : (N : Int) + C ≤ (t : Int) := by omega
            go_wp2_with fail
            refine (atLenY w.heap.size p _ _ _ 1 (by simp) w5 HW5.out.1).mono ?_
            rintro e w6 ⟨rfl, rfl⟩
            go_wp2_with fail
            refine (first_any w.heap.size p _ _ _ w6 HW5.out.1).mono ?_
            rw [HC.out.2]
            rintro e w7 ⟨rfl, rfl⟩
            have hk1b : ((K : Int) == 0) = false := by simp; omega
            go_wp2_with fail
            refine (outerY w.heap.size p _ _ _ a2 a3 _ (by rfl) w7 HW5.out.1).mono ?_
            rintro e w8 ⟨rfl, hb8⟩
            have HB8 := hide (HW5.out.2.trans (hb8.mono HW5.out.2.size))
            clear hb8
            go_wp2
            go_ret
            exact ⟨rfl, HB8.out⟩
end Go.Proofs.Qxb6614820a.ElemLaw
