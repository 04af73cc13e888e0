import Derived.Test.Qxb6615762aDoorUse
namespace Go.Proofs.Qxb6615762aDoor.Law
open Go.RowKit Go.Proofs.Qxb6615762aDoor.Eq Go.Proofs.Qxb6615762aDoor.Clone Go.Proofs.Qxb6615762aDoor.Dec Go.Proofs.Qxb6615762aDoor.App Go.Proofs.Qxb6615762aDoor.Digs Go.Proofs.Qxb6615762aDoor.Help
set_option linter.unusedVariables false
set_option linter.unusedSimpArgs false

set_option maxHeartbeats 1000000 in
set_option maxRecDepth 100000 in
theorem walk_out (a0 : Option Addr) (len0 cap0 : Nat) (a b : Int) (w : World) (hl : len0 ≤ maxLen) (h : ¬ len0 ≤ 1048576) :
    Calls Tryd.prog 3 #[.slice a0 len0 cap0, .int .i64 a, .int .i64 b] w fun e w' => e = .returned (.bool true) ∧ w' = w := by
  unfold maxLen at hl
  go_enter Tryd.func3, Tryd.ntmps3
  go_wp2
  go_ret
  exact ⟨rfl, rfl⟩

set_option maxHeartbeats 4000000 in
set_option maxRecDepth 100000 in
theorem walk_in (a0 : Option Addr) (xs : List Int) (cap0 : Nat) (hnil : a0 = none → xs.length = 0 ∧ cap0 = 0) (a b : Int) (w : World) (hr : Rd w a0 xs) (h1 : xs.length ≤ 1048576)
    (i0 : -9223372036854775808 ≤ a) (i1 : a ≤ 9223372036854775807) (j0 : -9223372036854775808 ≤ b) (j1 : b ≤ 9223372036854775807) (htab : Tab w.heap.size w) :
    Calls Tryd.prog 3 #[.slice a0 xs.length cap0, .int .i64 a, .int .i64 b] w fun e w' => e = .returned (.bool true) ∧ Below w.heap.size w w' := by
  have HR := hide (And.intro hr (And.intro hnil htab))
  have hla := num_length a i0 i1
  have hlb := num_length b j0 j1
  have hpa := num_pos a
  have hpb := num_pos b
  have HI := hide (And.intro (And.intro i0 i1) (And.intro j0 j1))
  have hcase : (a == 0) = true ∨ ((a == 0) = false ∧ (a == -9223372036854775808) = true) ∨ ((a == 0) = false ∧ (a == -9223372036854775808) = false ∧ 0 < a) ∨ ((a == 0) = false ∧ (a == -9223372036854775808) = false ∧ a < 0) := by
    simp only [beq_iff_eq, beq_eq_false_iff_ne]
    omega
  have HCASE := hide hcase
  clear hr hnil htab i0 i1 j0 j1 hcase
  obtain ⟨La, hLa⟩ : ∃ L, (num a).length = L := ⟨_, rfl⟩
  obtain ⟨Lb, hLb⟩ : ∃ L, (num b).length = L := ⟨_, rfl⟩
  obtain ⟨UA, hUA⟩ : ∃ U, a.natAbs = U := ⟨_, rfl⟩
  obtain ⟨UB, hUB⟩ : ∃ U, b.natAbs = U := ⟨_, rfl⟩
  obtain ⟨NA, hNA⟩ : ∃ U, decide (a < 0) = U := ⟨_, rfl⟩
  obtain ⟨NB, hNB⟩ : ∃ U, decide (b < 0) = U := ⟨_, rfl⟩
  rw [hLa] at hla hpa
  rw [hLb] at hlb hpb
  generalize hN : xs.length = N at *
  have HN := hide hN
  have HL := hide (And.intro hLa hLb)
  have HU := hide (And.intro hUA hUB)
  clear hN hLa hLb hUA hUB
  go_enter Tryd.func3, Tryd.ntmps3
  go_wp2_with (first | (go_at_call 4; go_in))
  refine (clone_any a0 xs cap0 N HN.out.symm (HN.out ▸ HR.out.2.1) (by omega) w HR.out.1).mono ?_
  rintro e w1 ⟨v1, rfl, ho1, hb1⟩
  obtain ⟨ao1, cap1, rfl⟩ := own_shape ho1
  have H1 := hide (And.intro ho1 hb1)
  clear ho1 hb1
  go_wp2_with fail
  refine (clone_any ao1 xs cap1 N HN.out.symm (own_nil H1.out.1) (by omega) w1 (rd_own H1.out.1)).mono ?_
  rintro e w2 ⟨v2, rfl, ho2, hb2⟩
  obtain ⟨ao2, cap2, rfl⟩ := own_shape ho2
  have H2 := hide (And.intro (own_on H1.out.1 hb2) (And.intro ho2 (H1.out.2.trans (hb2.mono H1.out.2.size))))
  clear ho2 hb2
  go_wp2_with fail
  refine (out_any w.heap.size xs a HI.out.1.1 HI.out.1.2 N HN.out _ w2 H2.out.1 H2.out.2.2.size (by omega) (HR.out.2.2.on H2.out.2.2)).mono ?_
  rintro e w3 ⟨v3, rfl, ho3, hg3⟩
  rw [HL.out.1] at ho3
  obtain ⟨g3, cap3, rfl, hc3, hm3⟩ := own_some ho3 (by omega)
  unfold maxLen at hm3
  have H3 := hide (And.intro ho3 (And.intro (own_far H1.out.1 H2.out.2.1 hg3) (H2.out.2.2.trans (below_grown H2.out.1 H2.out.2.2.size hg3))))
  clear ho3 hg3 H1 H2
  go_wp2_with fail
  refine (prefix_any (some ⟨g3, 0, none⟩) ao2 (N + La) N cap3 cap2 xs (num a) (by rw [List.length_append, HN.out, HL.out.1]) HN.out (by unfold maxLen; omega) w3 (rd_own H3.out.1) (rd_own H3.out.2.1)).mono ?_
  rintro e w4 ⟨rfl, hb4⟩
  have H4 := hide (And.intro (own_on H3.out.1 hb4) (H3.out.2.2.trans (hb4.mono H3.out.2.2.size)))
  clear hb4 H3
  go_wp2_with fail
  refine (clone_any (some ⟨g3, N, none⟩) (num a) _ La HL.out.1.symm (fun h => nomatch h) (by omega) w4 (rd_right H4.out.1 HN.out)).mono ?_
  rintro e w5 ⟨v5, rfl, ho5, hb5⟩
  obtain ⟨g5, cap5, rfl, hc5, hm5⟩ := own_some ho5 hpa
  have H5 := hide (And.intro (own_on H4.out.1 hb5) (And.intro ho5 (And.intro (H4.out.2.trans (hb5.mono H4.out.2.size)) (And.intro hc5 hm5))))
  clear ho5 hb5 hc5 hm5 H4
  go_wp2_with fail
  refine (parse_any g5 La cap5 a HI.out.1.1 HI.out.1.2 UA HU.out.1 NA hNA HL.out.1 H5.out.2.2.2.1 H5.out.2.2.2.2 w5 (byte_at H5.out.2.1)).mono ?_
  rintro e w6 ⟨rfl, hb6⟩
  have H6 := hide (And.intro (own_on H5.out.1 hb6) (And.intro (own_on H5.out.2.1 hb6) (H5.out.2.2.1.trans (hb6.mono H5.out.2.2.1.size))))
  clear hb6 H5
  go_wp2_with fail
  refine (mag a HI.out.1.1 HI.out.1.2 UA HU.out.1 w6).mono ?_
  rintro e w6' ⟨rfl, rfl⟩
  go_wp2_with fail
  refine (clone_any (some ⟨g3, 0, none⟩) (xs ++ num a) cap3 (N + La) (by rw [List.length_append, HN.out, HL.out.1]) (fun h => nomatch h) (by omega) w6' (rd_own H6.out.1)).mono ?_
  rintro e w7 ⟨v7, rfl, ho7, hb7⟩
  obtain ⟨g7, cap7, rfl, _, _⟩ := own_some ho7 (by omega)
  have H7 := hide (And.intro (own_on H6.out.1 hb7) (And.intro (own_on H6.out.2.1 hb7) (And.intro ho7 (H6.out.2.2.trans (hb7.mono H6.out.2.2.size)))))
  clear ho7 hb7 H6
  go_wp2_with fail
  refine (clone_any (some ⟨g3, 0, none⟩) (xs ++ num a) cap3 (N + La) (by rw [List.length_append, HN.out, HL.out.1]) (fun h => nomatch h) (by omega) w7 (rd_own H7.out.1)).mono ?_
  rintro e w8 ⟨v8, rfl, ho8, hb8⟩
  obtain ⟨g8, cap8, rfl, _, _⟩ := own_some ho8 (by omega)
  have H8 := hide (And.intro ho8 (And.intro hb8 (H7.out.2.2.2.trans (hb8.mono H7.out.2.2.2.size))))
  clear ho8 hb8 hc3 hm3
  go_wp2_with fail
  refine (out_any w7.heap.size (xs ++ num a) b HI.out.2.1 HI.out.2.2 (N + La) (by rw [List.length_append, HN.out, HL.out.1]) _ w8 H8.out.1 H8.out.2.1.size (by omega) ((HR.out.2.2.on H8.out.2.2).up H7.out.2.2.2.size)).mono ?_
  rintro e w9 ⟨v9, rfl, ho9, hg9⟩
  rw [HL.out.2] at ho9
  obtain ⟨g9, cap9, rfl, hc9, hm9⟩ := own_some ho9 (by omega)
  unfold maxLen at hm9
  have hb79 := H8.out.2.1.trans (below_grown H8.out.1 H8.out.2.1.size hg9)
  have H9 := hide (And.intro ho9 (And.intro (own_on H7.out.2.2.1 hb79) (And.intro (own_on H7.out.2.1 hb79) (H7.out.2.2.2.trans (hb79.mono H7.out.2.2.2.size)))))
  clear ho9 hg9 hb79 H7 H8
  go_wp2_with fail
  refine (prefix_any (some ⟨g9, 0, none⟩) (some ⟨g7, 0, none⟩) (N + La + Lb) (N + La) cap9 cap7 (xs ++ num a) (num b) (by rw [List.length_append, List.length_append, HN.out, HL.out.1, HL.out.2]) (by rw [List.length_append, HN.out, HL.out.1]) (by unfold maxLen; omega) w9 (rd_own H9.out.1) (rd_own H9.out.2.1)).mono ?_
  rintro e w10 ⟨rfl, hb10⟩
  have H10 := hide (And.intro (own_on H9.out.1 hb10) (And.intro (own_on H9.out.2.2.1 hb10) (H9.out.2.2.2.trans (hb10.mono H9.out.2.2.2.size))))
  clear hb10 H9
  go_wp2_with fail
  refine (clone_any (some ⟨g9, N + La, none⟩) (num b) _ Lb HL.out.2.symm (fun h => nomatch h) (by omega) w10 (rd_right H10.out.1 (by rw [List.length_append, HN.out, HL.out.1]))).mono ?_
  rintro e w11 ⟨v11, rfl, ho11, hb11⟩
  obtain ⟨g11, cap11, rfl, hc11, hm11⟩ := own_some ho11 hpb
  have H11 := hide (And.intro (own_on H10.out.2.1 hb11) (And.intro ho11 (And.intro (H10.out.2.2.trans (hb11.mono H10.out.2.2.size)) (And.intro hc11 hm11))))
  clear ho11 hb11 hc11 hm11 H10 hc9 hm9
  go_wp2_with fail
  refine (parse_any g11 Lb cap11 b HI.out.2.1 HI.out.2.2 UB HU.out.2 NB hNB HL.out.2 H11.out.2.2.2.1 H11.out.2.2.2.2 w11 (byte_at H11.out.2.1)).mono ?_
  rintro e w12 ⟨rfl, hb12⟩
  have H12 := hide (And.intro (own_on H11.out.1 hb12) (And.intro (own_on H11.out.2.1 hb12) (H11.out.2.2.1.trans (hb12.mono H11.out.2.2.1.size))))
  clear hb12 H11
  go_wp2_with fail
  refine (mag b HI.out.2.1 HI.out.2.2 UB HU.out.2 w12).mono ?_
  rintro e w12' ⟨rfl, rfl⟩
  go_wp2_with fail
  refine (out_nil b HI.out.2.1 HI.out.2.2 Lb HL.out.2 w12' ((HR.out.2.2.on H12.out.2.2).up H12.out.2.2.size)).mono ?_
  rintro e w13 ⟨g13, cap13, rfl, ho13, hb13⟩
  have H13 := hide (And.intro (own_on H12.out.1 hb13) (And.intro (own_on H12.out.2.1 hb13) (And.intro ho13 (H12.out.2.2.trans (hb13.mono H12.out.2.2.size)))))
  clear ho13 hb13 H12
  go_wp2_with fail
  refine (eqY (some ⟨g13, 0, none⟩) (some ⟨g11, 0, none⟩) Lb Lb _ _ (num b) (by rw [HL.out.2]; unfold maxLen; omega) HL.out.2.symm HL.out.2.symm w13 (rd_own H13.out.2.2.1) (rd_own H13.out.2.1)).mono ?_
  rintro e w14 ⟨rfl, hb14⟩
  have H14 := hide (And.intro (own_on H13.out.1 hb14) (H13.out.2.2.2.trans (hb14.mono H13.out.2.2.2.size)))
  clear hb14 H13 hNA hNB
  rcases HCASE.out with hc | ⟨hc, hc2⟩ | ⟨hc, hc2, hc3⟩ | ⟨hc, hc2, hc3⟩
  · go_wp2
    go_ret
    exact ⟨rfl, H14.out.2⟩
  · go_wp2
    go_ret
    exact ⟨rfl, H14.out.2⟩
  · have hai := HI.out.1.2
    have ham : -9223372036854775807 ≤ a := by omega
    obtain ⟨U, rfl⟩ : ∃ u : Nat, a = (u : Int) := ⟨a.toNat, by omega⟩
    have hU : 1 ≤ U := by omega
    have HE := hide (And.intro (num_nonneg U) (num_neg U hU))
    have hdl : (dec U).length = La := by rw [← HL.out.1, HE.out.1]
    have HD := hide hdl
    clear hdl
    go_wp2_with fail
    refine (out_nil (-(U : Int)) (by omega) (by omega) (La + 1) (by rw [HE.out.2, List.length_cons, HD.out]) w14 ((HR.out.2.2.on H14.out.2).up H14.out.2.size)).mono ?_
    rintro e w15 ⟨g15, cap15, rfl, ho15, hb15⟩
    have ho5 := own_on H14.out.1 hb15
    rw [HE.out.1] at ho5
    rw [HE.out.2] at ho15
    have H15 := hide (And.intro ho15 (And.intro ho5 (H14.out.2.trans (hb15.mono H14.out.2.size))))
    clear ho15 ho5 hb15 H14
    go_wp2_with fail
    refine (minus_any (some ⟨g15, 0, none⟩) (some ⟨g5, 0, none⟩) (La + 1) La _ _ (dec U) rfl HD.out hpa (by omega) w15 (rd_own H15.out.1) (rd_own H15.out.2.1)).mono ?_
    rintro e w16 ⟨rfl, hb16⟩
    have HB := hide (H15.out.2.2.trans (hb16.mono H15.out.2.2.size))
    clear hb16 H15
    go_wp2
    go_ret
    exact ⟨rfl, HB.out⟩
  · have hai := HI.out.1.1
    have ham : -9223372036854775807 ≤ a := by simp at hc2; omega
    obtain ⟨U, rfl⟩ : ∃ u : Nat, a = -(u : Int) := ⟨a.natAbs, by omega⟩
    have hU : 1 ≤ U := by omega
    have HE := hide (And.intro (num_nonneg U) (num_neg U hU))
    obtain ⟨Ld, hLd⟩ : ∃ L, (dec U).length = L := ⟨_, rfl⟩
    have hdl : La = Ld + 1 := by rw [← HL.out.1, HE.out.2, List.length_cons, hLd]
    have hdp : 0 < Ld := by rw [← hLd, ← num_nonneg]; exact num_pos _
    have hdm : Ld ≤ 21 := by omega
    have HD := hide (And.intro hdl hLd)
    clear hdl hLd
    go_wp2_with fail
    refine (out_nil (U : Int) (by omega) (by omega) Ld (by rw [HE.out.1, HD.out.2]) w14 ((HR.out.2.2.on H14.out.2).up H14.out.2.size)).mono ?_
    rintro e w15 ⟨g15, cap15, rfl, ho15, hb15⟩
    have ho5 := own_on H14.out.1 hb15
    rw [HE.out.2] at ho5
    rw [HE.out.1] at ho15
    have H15 := hide (And.intro ho15 (And.intro ho5 (H14.out.2.trans (hb15.mono H14.out.2.size))))
    clear ho15 ho5 hb15 H14
    go_wp2_with fail
    refine (minus_any (some ⟨g5, 0, none⟩) (some ⟨g15, 0, none⟩) La Ld _ _ (dec U) HD.out.1 HD.out.2 hdp (by omega) w15 (rd_own H15.out.2.1) (rd_own H15.out.1)).mono ?_
    rintro e w16 ⟨rfl, hb16⟩
    have HB := hide (H15.out.2.2.trans (hb16.mono H15.out.2.2.size))
    clear hb16 H15
    go_wp2
    go_ret
    exact ⟨rfl, HB.out⟩
end Go.Proofs.Qxb6615762aDoor.Law
