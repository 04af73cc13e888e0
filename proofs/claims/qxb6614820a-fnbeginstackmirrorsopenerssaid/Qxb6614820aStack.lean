import Derived.Test.Qxb6614820aNew
namespace Go.Proofs.Qxb6614820a.Stack
open Go.RowKit Go.Proofs.Qxb6614820a.Eq Go.Proofs.Qxb6614820a.Clone Go.Proofs.Qxb6614820a.Wr
set_option linter.unusedVariables false
set_option linter.unusedSimpArgs false

/-- The positions that the openers l stack. -/
def posOf (l : List Int) : List (Bool × ByteArray × Int) := l.map fun c => (c == 91, ⟨#[]⟩, -1)
/-- The closer of an opener. -/
def cl (c : Int) : Int := if c == 91 then 93 else 125
/-- The closers of l, in reverse. -/
def cls (l : List Int) : List Int := l.reverse.map cl

theorem posOf_length (l : List Int) : (posOf l).length = l.length := by simp [posOf]
theorem cls_length (l : List Int) : (cls l).length = l.length := by simp [cls]

theorem take_snoc (ys : List Int) (i : Nat) (h : i < ys.length) : ys.take (i + 1) = ys.take i ++ [ys.getD i 0] := by
  rw [List.take_succ_eq_append_getElem h]
  simp [List.getD, h]

theorem posOf_snoc (l : List Int) (c : Int) : posOf (l ++ [c]) = posOf l ++ [(c == 91, ⟨#[]⟩, -1)] := by simp [posOf]

theorem posOf_at (l : List Int) (i : Nat) (h : i < l.length) : (posOf l)[i]? = some (l.getD i 0 == 91, ⟨#[]⟩, -1) := by simp [posOf, List.getD, h]

theorem cls_step (ys : List Int) (j : Nat) (h : j < ys.length) : cls (ys.drop j) = cls (ys.drop (j + 1)) ++ [cl (ys.getD j 0)] := by
  rw [List.drop_eq_getElem_cons h]
  unfold cls
  rw [List.reverse_cons, List.map_append]
  simp only [List.map_cons, List.map_nil, List.getD, List.getElem?_eq_getElem h, Option.getD_some]

theorem cls_at (ys : List Int) (j : Nat) (h : j < ys.length) : (cls ys)[j]? = some (cl (ys.getD (ys.length - 1 - j) 0)) := by
  have h2 : ys.length - 1 - j < ys.length := by omega
  simp [cls, List.getElem?_reverse, h, List.getD, h2]

/-- A stretch of an owned row, as 'Rd' has it. -/
theorem rd_mid {w : World} {B g n cap N : Nat} {xs ys zs : List Int} (h : w.ownsRow B 5 1 (.slice (some ⟨g, 0, none⟩) n cap) n ((xs ++ (ys ++ zs)).map (Value.int .u8))) (hN : xs.length = N) : Rd w (some ⟨g, N, none⟩) ys := by
  intro k hk
  refine ⟨_, rfl, ?_⟩
  rw [Addr.add_lit]
  refine byte_at h (N + k) _ ?_
  rw [← hN, List.getElem?_append_right (by omega), Nat.add_sub_cancel_left, List.getElem?_append_left hk]
  simp [List.getD, hk]

theorem closerY (c : Int) (w : World) : Calls Try.prog 28 #[.int .u8 c] w fun e w' => e = .returned (.int .u8 (cl c)) ∧ w' = w := closer c w

set_option maxHeartbeats 1000000 in
set_option maxRecDepth 100000 in
theorem walk_out (a0 : Option Addr) (len0 cap0 : Nat) (a1 : Option Addr) (len1 cap1 : Nat) (w : World) (hl0 : len0 ≤ maxLen) (hl1 : len1 ≤ maxLen)
    (h : ¬ (len0 ≤ 1048576 ∧ len1 ≤ 65536 ∧ len0 + len1 ≤ 1048576)) :
    Calls Try.prog 5 #[.slice a0 len0 cap0, .slice a1 len1 cap1] w fun e w' => e = .returned (.bool true) ∧ w' = w := by
  unfold maxLen at hl0 hl1
  by_cases h1 : len0 ≤ 1048576
  · by_cases h2 : len1 ≤ 1048576
    · by_cases h3 : len0 + len1 ≤ 1048576
      · have h4 : 65536 < len1 := by omega
        clear h
        go_enter Try.func5, Try.ntmps5
        go_wp2
        go_ret
        exact ⟨rfl, rfl⟩
      · clear h
        go_enter Try.func5, Try.ntmps5
        go_wp2
        go_ret
        exact ⟨rfl, rfl⟩
    · clear h
      go_enter Try.func5, Try.ntmps5
      go_wp2
      go_ret
      exact ⟨rfl, rfl⟩
  · clear h
    go_enter Try.func5, Try.ntmps5
    go_wp2
    go_ret
    exact ⟨rfl, rfl⟩

set_option maxHeartbeats 2000000 in
set_option maxRecDepth 100000 in
theorem walk_some (a0 : Option Addr) (xs : List Int) (cap0 : Nat) (hnil : a0 = none → xs.length = 0 ∧ cap0 = 0) (b1 o1 : Nat) (ys : List Int) (cap1 : Nat) (w : World) (hr : Rd w a0 xs)
    (hcs : ∀ k, k < ys.length → w.cell? ⟨b1, o1 + k, none⟩ = some (.int .u8 (ys.getD k 0))) (hpos : 0 < ys.length)
    (h1 : xs.length ≤ 1048576) (h2 : ys.length ≤ 65536) (h3 : xs.length + ys.length ≤ 1048576) :
    Calls Try.prog 5 #[.slice a0 xs.length cap0, .slice (some ⟨b1, o1, none⟩) ys.length cap1] w fun e w' => e = .returned (.bool true) ∧ Below w.heap.size w w' := by
  have HR := hide (And.intro hr hnil)
  have HCS := hide (And.intro hcs (show Rd w (some ⟨b1, o1, none⟩) ys from fun k hk => ⟨_, rfl, by rw [Addr.add_lit]; exact hcs k hk⟩))
  clear hr hnil hcs
  generalize hN : xs.length = N at *
  generalize hM : ys.length = M at *
  have HN := hide hN
  have HM := hide hM
  clear hN hM
  have hM0 : (0 : Int) < (M : Int) := by omega
  go_enter Try.func5, Try.ntmps5
  go_wp2_with (first | (go_at_call 25; go_in))
  refine (new_any w).mono ?_
  rintro e w1 ⟨p, rfl, hw1, hb1⟩
  have HW1 := hide (And.intro hw1 hb1)
  clear hw1 hb1
  go_wp2_with fail
  refine (raw_any w.heap.size p [] xs a0 N cap0 HN.out.symm (HN.out ▸ HR.out.2) false [] w1 HW1.out.1 (rd_on HR.out.1 HW1.out.2) (by simp [HN.out]; omega)).mono ?_
  rintro e w2 ⟨rfl, hw2, hb2⟩
  have HW2 := hide (And.intro hw2 (HW1.out.2.trans hb2))
  clear hw2 hb2 HW1
  go_wp2_with fail
  go_loopw [6] (fun i wr => ∃ j : Nat, j ≤ M ∧ i = .int .i64 j ∧ Wr w.heap.size p (xs ++ ys.take j) (decide (0 < j)) (posOf (ys.take j)) wr ∧ Below w.heap.size w wr) (fun i _ => M - (intOf i).toNat)
  case atStart => exact ⟨0, by omega, rfl, by simpa [posOf] using HW2.out.1, HW2.out.2⟩
  case round =>
    obtain ⟨j, hj, rfl, hwr, hbr⟩ := hrel
    have HWR := hide (And.intro hwr hbr)
    clear hwr hbr
    by_cases hlt : j < M
    · have hlt' : (j : Int) < (M : Int) := by omega
      obtain ⟨c, hc⟩ : ∃ c, ys.getD j 0 = c := ⟨_, rfl⟩
      have hcell : wr.cell? ⟨b1, o1 + j, none⟩ = some (.int .u8 c) := by
        have h0 := HCS.out.1 j hlt
        rw [hc] at h0
        rw [HWR.out.2.cell (World.block_lt_of_cell? _ _ h0)]
        exact h0
      have HC := hide hc
      clear hc
      go_wp2_with fail
      refine (begin_any w.heap.size p (xs ++ ys.take j) _ (posOf (ys.take j)) c wr HWR.out.1 (by rw [List.length_append, HN.out, List.length_take]; omega) (by rw [posOf_length, List.length_take]; omega)).mono ?_
      rintro e w3 ⟨rfl, hw3, hb3⟩
      have HW3 : Hid (Wr w.heap.size p (xs ++ ys.take (j + 1)) (decide (0 < j + 1)) (posOf (ys.take (j + 1))) w3 ∧ Below w.heap.size w w3) := by
        refine ⟨?_, HWR.out.2.trans hb3⟩
        rw [take_snoc ys j (by rw [HM.out]; exact hlt), HC.out, posOf_snoc, ← List.append_assoc]
        simpa using hw3
      clear hw3 hb3
      go_wp2_with fail
      go_roundw
      case rel => exact ⟨j + 1, by omega, by go_num, HW3.out.1, HW3.out.2⟩
      case measure => simp [intOf]; omega
    · have HWA : Hid (Wr w.heap.size p (xs ++ ys) true (posOf ys) wr ∧ Below w.heap.size w wr) := by
        have hjM : j = M := by omega
        have h0 := HWR.out
        rw [hjM, List.take_of_length_le (by rw [HM.out]; omega), decide_eq_true (show 0 < M by omega)] at h0
        exact h0
      have hge : (M : Int) ≤ (j : Int) := by omega
      clear HWR hlt hj HW2
      go_wp2_with fail
      refine (atLenY w.heap.size p _ _ _ (M : Int) (by rw [posOf_length, HM.out]) wr HWA.out.1).mono ?_
      rintro e w4 ⟨rfl, rfl⟩
      go_wp2_with fail
      refine (first_any w.heap.size p _ _ _ w4 HWA.out.1).mono ?_
      rintro e w5 ⟨rfl, rfl⟩
      go_wp2_with fail
      go_loopw [7] (fun i wr => ∃ j : Nat, j ≤ M ∧ i = .int .i64 j ∧ Wr w.heap.size p (xs ++ ys) true (posOf ys) wr ∧ Below w.heap.size w wr) (fun i _ => M - (intOf i).toNat)
      case atStart => exact ⟨0, by omega, rfl, HWA.out.1, HWA.out.2⟩
      case round =>
        clear HWA
        obtain ⟨k, hk, rfl, hwr, hbr⟩ := hrel
        have HWR := hide (And.intro hwr hbr)
        clear hwr hbr
        by_cases hlt : k < M
        · have hlt' : (k : Int) < (M : Int) := by omega
          obtain ⟨c, hc⟩ : ∃ c, ys.getD k 0 = c := ⟨_, rfl⟩
          have hc0 : w.cell? ⟨b1, o1 + k, none⟩ = some (.int .u8 c) := by
            have h0 := HCS.out.1 k hlt
            rwa [hc] at h0
          have HC := hide (And.intro hc hc0)
          clear hc hc0
          go_wp2_with fail
          refine (atY w.heap.size p _ _ _ k (k : Int) rfl (c == 91) ⟨#[]⟩ (-1) (by rw [← HC.out.1]; exact posOf_at ys k (by rw [HM.out]; exact hlt)) wr HWR.out.1).mono ?_
          rintro e w6 ⟨rfl, hb6⟩
          have HW6 := hide (And.intro (HWR.out.1.below hb6) (HWR.out.2.trans (hb6.mono HWR.out.2.size)))
          have hcell : w6.cell? ⟨b1, o1 + k, none⟩ = some (.int .u8 c) := by
            rw [HW6.out.2.cell (World.block_lt_of_cell? _ _ HC.out.2)]
            exact HC.out.2
          clear hb6
          go_wp2
          go_roundw
          case rel => exact ⟨k + 1, by omega, by go_num, HW6.out.1, HW6.out.2⟩
          case measure => simp [intOf]; omega
        · have hge2 : (M : Int) ≤ (k : Int) := by omega
          clear hlt hk
          go_wp2_with fail
          refine (bytesS w.heap.size p _ _ _ (N + M) (by rw [List.length_append, HN.out, HM.out]) (by omega) wr HWR.out.1).mono ?_
          rintro e w7 ⟨g, cap7, rfl, rfl, hown7, hc7, hm7⟩
          unfold maxLen at hm7
          have hc7a : (N : Int) + M ≤ (cap7 : Int) := by omega
          have hc7b : ¬ cap7 = N := by omega
          have HO7 := hide hown7
          clear hown7
          go_wp2_with fail
          refine (eqY _ a0 N N _ _ xs (by rw [HN.out]; unfold maxLen; omega) HN.out.symm HN.out.symm w7 (rd_prefix (rd_own HO7.out)) (rd_on HR.out.1 HWR.out.2)).mono ?_
          rintro e w8 ⟨rfl, hb8⟩
          have HW8 := hide (And.intro (HWR.out.1.below hb8) (And.intro (HWR.out.2.trans (hb8.mono HWR.out.2.size)) (own_on HO7.out hb8)))
          clear hb8 HWR HO7
          go_wp2_with fail
          refine (eqY _ (some ⟨b1, o1, none⟩) M M _ _ ys (by rw [HM.out]; unfold maxLen; omega) HM.out.symm HM.out.symm w8 (rd_mid (zs := []) (by rw [List.append_nil]; exact HW8.out.2.2) HN.out) (rd_on HCS.out.2 HW8.out.2.1)).mono ?_
          rintro e w9 ⟨rfl, hb9⟩
          have HW9 := hide (And.intro (HW8.out.1.below hb9) (HW8.out.2.1.trans (hb9.mono HW8.out.2.1.size)))
          clear hb9 HW8
          go_wp2_with fail
          go_loopw [12] (fun i wr => ∃ j : Nat, j ≤ M ∧ i = .int .i64 ((j : Int) - 1) ∧ Wr w.heap.size p (xs ++ (ys ++ cls (ys.drop j))) (decide (j = M)) (posOf (ys.take j)) wr ∧ Below w.heap.size w wr) (fun i _ => (intOf i + 1).toNat)
          case atStart =>
            refine ⟨M, by omega, rfl, ?_, HW9.out.2⟩
            rw [List.drop_of_length_le (by rw [HM.out]; omega), List.take_of_length_le (by rw [HM.out]; omega)]
            simpa [cls] using HW9.out.1
          case round =>
            clear HW9
            obtain ⟨j2, hj2, rfl, hwr, hbr⟩ := hrel
            have HWR := hide (And.intro hwr hbr)
            clear hwr hbr
            by_cases hlt : 0 < j2
            · obtain ⟨i2, rfl⟩ : ∃ i2, j2 = i2 + 1 := ⟨j2 - 1, by omega⟩
              have hi2 : (i2 : Int) < (M : Int) := by omega
              have ei2 : (((i2 + 1 : Nat) : Int) - 1) = (i2 : Int) := by omega
              obtain ⟨c, hc⟩ : ∃ c, ys.getD i2 0 = c := ⟨_, rfl⟩
              have hcell : wr.cell? ⟨b1, o1 + i2, none⟩ = some (.int .u8 c) := by
                have h0 := HCS.out.1 i2 (by omega)
                rw [hc] at h0
                rw [HWR.out.2.cell (World.block_lt_of_cell? _ _ h0)]
                exact h0
              have HC := hide hc
              clear hc
              rw [ei2]
              clear ei2
              go_wp2_with fail
              refine (closerY c wr).mono ?_
              rintro e w10 ⟨rfl, rfl⟩
              have HP : Hid (Wr w.heap.size p (xs ++ (ys ++ cls (ys.drop (i2 + 1)))) (decide (i2 + 1 = M)) (posOf (ys.take i2) ++ [(c == 91, ⟨#[]⟩, -1)]) w10 ∧ Below w.heap.size w w10) := by
                have h0 := HWR.out
                rw [take_snoc ys i2 (by rw [HM.out]; omega), HC.out, posOf_snoc] at h0
                exact h0
              clear HWR
              go_wp2_with fail
              refine (end_any w.heap.size p _ _ (posOf (ys.take i2)) (c == 91, ⟨#[]⟩, -1) (cl c) w10 HP.out.1 (by rw [List.length_append, List.length_append, HN.out, HM.out, cls_length, List.length_drop, HM.out]; omega)).mono ?_
              rintro e w11 ⟨rfl, hw11, hb11⟩
              have HW11 : Hid (Wr w.heap.size p (xs ++ (ys ++ cls (ys.drop i2))) (decide (i2 = M)) (posOf (ys.take i2)) w11 ∧ Below w.heap.size w w11) := by
                refine ⟨?_, HP.out.2.trans hb11⟩
                rw [cls_step ys i2 (by rw [HM.out]; omega), HC.out, decide_eq_false (show ¬ i2 = M by omega)]
                simpa using hw11
              clear hw11 hb11 HP
              go_wp2_with fail
              go_roundw
              case rel => exact ⟨i2, by omega, rfl, HW11.out.1, HW11.out.2⟩
              case measure => simp [intOf]
            · have ej : ((j2 : Int) - 1) = -1 := by omega
              have HWB : Hid (Wr w.heap.size p (xs ++ (ys ++ cls ys)) false [] wr ∧ Below w.heap.size w wr) := by
                have h0 := HWR.out
                have e0 : j2 = 0 := by omega
                rw [e0, decide_eq_false (show ¬ 0 = M by omega)] at h0
                show _ ∧ _
                simpa [posOf] using h0
              rw [ej]
              clear ej HWR hlt hj2
              go_wp2_with fail
              refine (atLenY w.heap.size p _ _ _ 0 (by simp) wr HWB.out.1).mono ?_
              rintro e w12 ⟨rfl, rfl⟩
              go_wp2_with fail
              refine (first_any w.heap.size p _ _ _ w12 HWB.out.1).mono ?_
              rintro e w13 ⟨rfl, rfl⟩
              go_wp2_with fail
              refine (bytesS w.heap.size p _ _ _ (N + (M + M)) (by rw [List.length_append, List.length_append, HN.out, HM.out, cls_length, HM.out]) (by omega) w13 HWB.out.1).mono ?_
              rintro e w14 ⟨g2, cap14, rfl, rfl, hown14, hc14, hm14⟩
              unfold maxLen at hm14
              have hc14a : (N : Int) + (M + M) ≤ (cap14 : Int) := by omega
              have hc14b : ¬ cap14 = N := by omega
              have HO14 := hide hown14
              clear hown14
              go_wp2_with fail
              refine (eqY _ a0 N N _ _ xs (by rw [HN.out]; unfold maxLen; omega) HN.out.symm HN.out.symm w14 (rd_prefix (rd_own HO14.out)) (rd_on HR.out.1 HWB.out.2)).mono ?_
              rintro e w15 ⟨rfl, hb15⟩
              have HW15 := hide (And.intro (HWB.out.2.trans (hb15.mono HWB.out.2.size)) (own_on HO14.out hb15))
              clear hb15 HWB HO14
              have hsz : (N : Int) + M ≤ (cap14 : Int) := by omega
              go_wp2_with fail
              refine (eqY _ (some ⟨b1, o1, none⟩) M M _ _ ys (by rw [HM.out]; unfold maxLen; omega) HM.out.symm HM.out.symm w15 (rd_mid HW15.out.2 HN.out) (rd_on HCS.out.2 HW15.out.1)).mono ?_
              rintro e w16 ⟨rfl, hb16⟩
              have HW16 := hide (And.intro (HW15.out.1.trans (hb16.mono HW15.out.1.size)) (own_on HW15.out.2 hb16))
              clear hb16 HW15
              go_wp2_with fail
              go_loopw [13] (fun i wr => ∃ t : Nat, t ≤ M ∧ i = .int .i64 t ∧ Below w.heap.size w wr ∧ wr.ownsRow w.heap.size 5 1 (.slice (some ⟨g2, 0, none⟩) (N + (M + M)) cap14) (N + (M + M)) ((xs ++ (ys ++ cls ys)).map (Value.int .u8))) (fun i _ => M - (intOf i).toNat)
              case atStart => exact ⟨0, by omega, rfl, HW16.out.1, HW16.out.2⟩
              case round =>
                clear HW16
                obtain ⟨t, ht, rfl, hbr, hor⟩ := hrel
                have HWR := hide (And.intro hbr hor)
                clear hbr hor
                by_cases hlt : t < M
                · obtain ⟨r, hr⟩ : ∃ r : Nat, (M : Int) - 1 - (t : Int) = (r : Int) := ⟨M - 1 - t, by omega⟩
                  obtain ⟨c, hc⟩ : ∃ c, ys.getD r 0 = c := ⟨_, rfl⟩
                  have hcell : wr.cell? ⟨b1, o1 + r, none⟩ = some (.int .u8 c) := by
                    have h0 := HCS.out.1 r (by omega)
                    rw [hc] at h0
                    rw [HWR.out.1.cell (World.block_lt_of_cell? _ _ h0)]
                    exact h0
                  have hcell2 : wr.cell? ⟨g2, N + M + t, none⟩ = some (.int .u8 (cl c)) := by
                    refine byte_at HWR.out.2 (N + M + t) _ ?_
                    rw [← HN.out, Nat.add_assoc, List.getElem?_append_right (by omega), Nat.add_sub_cancel_left, ← HM.out, List.getElem?_append_right (by omega), Nat.add_sub_cancel_left, cls_at ys t (by rw [HM.out]; exact hlt), HM.out, show M - 1 - t = r by omega, hc]
                  have hr1 : (r : Int) < (M : Int) := by omega
                  have ht1 : (t : Int) < (M : Int) := by omega
                  clear hc
                  go_wp2_with fail
                  go_quiet ((go_at_call 28; exact Calls.quiet_of_same (closerY _ _)))
                  go_wp2
                  go_roundw
                  case rel => exact ⟨t + 1, by omega, by go_num, HWR.out.1.trans ((below_draws _ _).mono HWR.out.1.size), HWR.out.2⟩
                  case measure => simp [intOf]; omega
                · have hge3 : (M : Int) ≤ (t : Int) := by omega
                  go_wp2
                  go_ret
                  exact ⟨rfl, HWR.out.1⟩
end Go.Proofs.Qxb6614820a.Stack
