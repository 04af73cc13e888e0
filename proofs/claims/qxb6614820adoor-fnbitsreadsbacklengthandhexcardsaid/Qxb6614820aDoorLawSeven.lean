import Derived.Test.Qxb6614820aDoorTxt
import Derived.Test.Qxb6614820aDoorOne
namespace Go.Proofs.Qxb6614820aDoor.Law7
open Go.RowKit Go.Proofs.Qxb6614820aDoor.Eq Go.Proofs.Qxb6614820aDoor.Clone Go.Proofs.Qxb6614820aDoor.Wr Go.Proofs.Qxb6614820aDoor.Dec Go.Proofs.Qxb6614820aDoor.Plain Go.Proofs.Qxb6614820aDoor.Read
set_option linter.unusedVariables false
set_option linter.unusedSimpArgs false

set_option maxHeartbeats 2000000 in
set_option maxRecDepth 100000 in
theorem walk_out (a0 : Option Addr) (len0 cap0 : Nat) (a1 a2 : Bool) (a3 : ByteArray) (a4 : Int) (a5 : Option Addr) (len5 cap5 : Nat) (a6 : Int) (w : World) (hl : len0 ≤ maxLen) (hl5 : len5 ≤ maxLen) (w3 : a3.size ≤ maxLen)
    (h : ¬ (len0 ≤ 1048576 ∧ a3.size ≤ 65536 ∧ len5 ≤ 262144 ∧ len0 + a3.size + 2 * len5 ≤ 1048576 ∧ -1 ≤ a4 ∧ (a1 = true → a4 = -1))) :
    Calls Tryd.prog 4 #[.slice a0 len0 cap0, .bool a1, .bool a2, .string a3, .int .i64 a4, .slice a5 len5 cap5, .int .i64 a6] w fun e w' => e = .returned (.bool true) ∧ w' = w := by
  unfold maxLen at hl hl5 w3
  by_cases c0 : len0 ≤ 1048576
  · by_cases c1 : a3.size ≤ 1048576
    · by_cases c2 : len0 + a3.size ≤ 1048576
      · by_cases c3 : len5 ≤ 1048576
        · by_cases c4 : len0 + a3.size + len5 ≤ 1048576
          · by_cases c5 : a3.size ≤ 65536
            · by_cases c6 : len5 ≤ 262144
              · by_cases c7 : len0 + a3.size + 2 * len5 ≤ 1048576
                · by_cases c8 : -1 ≤ a4
                  · have h6 : a1 = true ∧ a4 ≠ -1 := by
                      cases a1
                      · exact absurd ⟨c0, c5, c6, c7, c8, by simp⟩ h
                      · exact ⟨rfl, fun e => h ⟨c0, c5, c6, c7, c8, fun _ => e⟩⟩
                    obtain ⟨rfl, h7⟩ := h6
                    have h8 : (a4 != -1) = true := by simpa using h7
                    clear h
                    go_enter Tryd.func4, Tryd.ntmps4
                    go_wp2
                    go_ret
                    exact ⟨rfl, rfl⟩
                  · clear h
                    go_enter Tryd.func4, Tryd.ntmps4
                    go_wp2
                    go_ret
                    exact ⟨rfl, rfl⟩
                · clear h
                  go_enter Tryd.func4, Tryd.ntmps4
                  go_wp2
                  go_ret
                  exact ⟨rfl, rfl⟩
              · clear h
                go_enter Tryd.func4, Tryd.ntmps4
                go_wp2
                go_ret
                exact ⟨rfl, rfl⟩
            · clear h
              go_enter Tryd.func4, Tryd.ntmps4
              go_wp2
              go_ret
              exact ⟨rfl, rfl⟩
          · clear h
            go_enter Tryd.func4, Tryd.ntmps4
            go_wp2
            go_ret
            exact ⟨rfl, rfl⟩
        · clear h
          go_enter Tryd.func4, Tryd.ntmps4
          go_wp2
          go_ret
          exact ⟨rfl, rfl⟩
      · clear h
        go_enter Tryd.func4, Tryd.ntmps4
        go_wp2
        go_ret
        exact ⟨rfl, rfl⟩
    · clear h
      go_enter Tryd.func4, Tryd.ntmps4
      go_wp2
      go_ret
      exact ⟨rfl, rfl⟩
  · clear h
    go_enter Tryd.func4, Tryd.ntmps4
    go_wp2
    go_ret
    exact ⟨rfl, rfl⟩

theorem at_right {w : World} {B g N cap : Nat} {xs ts : List Int} (h : w.ownsRow B 5 1 (.slice (some ⟨g, 0, none⟩) N cap) N ((xs ++ ts).map (Value.int .u8))) (o : Nat) (ho : xs.length = o) : At w g o ts := fun k c hk => by
  refine byte_at h (o + k) c ?_
  rw [List.getElem?_append_right (by omega), show o + k - xs.length = k by omega]
  exact hk

set_option maxHeartbeats 2000000 in
set_option maxRecDepth 100000 in
theorem walk_in (a0 : Option Addr) (xs : List Int) (cap0 : Nat) (hnil : a0 = none → xs.length = 0 ∧ cap0 = 0) (a1 a2 : Bool) (a3 : ByteArray) (a4 : Int) (a5 : Option Addr) (bs : List Int) (cap5 : Nat) (n : Int) (w : World) (hr : Rd w a0 xs) (hr5 : Rd w a5 bs) (hb5 : Bytes bs)
    (h1 : xs.length ≤ 1048576) (h2 : a3.size ≤ 65536) (h3 : bs.length ≤ 262144) (h4 : xs.length + a3.size + 2 * bs.length ≤ 1048576) (h5 : -1 ≤ a4) (h6 : a1 = true → (a4 != -1) = false) (i0 : -9223372036854775808 ≤ n) (i1 : n ≤ 9223372036854775807) (htab : Tab w.heap.size w) :
    Calls Tryd.prog 4 #[.slice a0 xs.length cap0, .bool a1, .bool a2, .string a3, .int .i64 a4, .slice a5 bs.length cap5, .int .i64 n] w fun e w' => e = .returned (.bool true) ∧ Below w.heap.size w w' := by
  have HR := hide (And.intro hr (And.intro hnil (And.intro hr5 (And.intro hb5 htab))))
  have hl1 := num_length n i0 i1
  have hbt1 := bt_length bs n
  have HI := hide (And.intro i0 i1)
  clear hr hnil hr5 hb5 htab i0 i1
  obtain ⟨L, hL⟩ : ∃ L, (num n).length = L := ⟨_, rfl⟩
  rw [hL] at hl1 hbt1
  clear hL
  generalize hN : xs.length = N at *
  generalize hM : bs.length = M at *
  obtain ⟨T, hT⟩ : ∃ T, 22 + L + 2 * M = T := ⟨_, rfl⟩
  rw [hT] at hbt1
  have hTm : T ≤ 1048576 := by omega
  have HN := hide (And.intro hN (And.intro hM hbt1))
  have hTp : 0 < T := by omega
  clear hN hM hbt1 hT hl1
  have h7 : a1 = false ∨ (a1 = true ∧ (a4 != -1) = false) := by
    cases a1
    · exact .inl rfl
    · exact .inr ⟨rfl, h6 rfl⟩
  clear h6
  rcases h7 with rfl | ⟨rfl, h7⟩
  all_goals
    go_enter Tryd.func4, Tryd.ntmps4
    go_wp2_with (first | (go_at_call 17; go_in))
    refine (clone_any a0 xs cap0 N HN.out.1.symm (HN.out.1 ▸ HR.out.2.1) h1 w HR.out.1).mono ?_
    rintro e w1 ⟨v, rfl, hv1, hb1⟩
    have HV1 := hide (And.intro hv1 hb1)
    clear hv1 hb1
    go_wp2_with fail
    refine (newAt v _ a2 a3 a4 xs w.heap.size w1 HV1.out.2.size (HN.out.1 ▸ HV1.out.1)).mono ?_
    rintro e w2 ⟨p, rfl, hw2, hb2⟩
    have HW2 := hide (And.intro hw2 (HV1.out.2.trans (hb2.mono HV1.out.2.size)))
    clear hw2 hb2 HV1
    go_wp2_with fail
    refine (bits_any w.heap.size p xs _ [(a2, a3, a4)] a5 bs M cap5 HN.out.2.1.symm n HI.out.1 HI.out.2 (by rw [HN.out.1]; omega) (by simp) (by rw [HN.out.2.1]; omega) HR.out.2.2.2.1 w2 (rd_on HR.out.2.2.1 HW2.out.2) (One.rd_block HR.out.2.2.1) (HR.out.2.2.2.2.on HW2.out.2) HW2.out.1).mono ?_
    rintro e w3 ⟨rfl, hw3, hb3⟩
    have HW3 := hide (And.intro hw3 (HW2.out.2.trans hb3))
    clear hw3 hb3 HW2
    go_wp2_with fail
    refine (bytesS w.heap.size p (xs ++ bt bs n) false _ (N + T) (by rw [List.length_append, HN.out.1, HN.out.2.2]) (by omega) w3 HW3.out.1).mono ?_
    rintro e w4 ⟨g, cap, rfl, rfl, hown, hc, hm⟩
    have HO := hide (And.intro (rd_prefix (rd_own hown)) (at_right hown N HN.out.1))
    unfold maxLen at hm
    have hc' : ((N : Int) + T) ≤ (cap : Int) := by omega
    clear hown
    go_wp2_with fail
    refine (eqY _ a0 N N _ _ xs (by rw [HN.out.1]; unfold maxLen; omega) HN.out.1.symm HN.out.1.symm w4 HO.out.1 (rd_on HR.out.1 HW3.out.2)).mono ?_
    rintro e w5 ⟨rfl, hb5⟩
    have HW5 := hide (And.intro (HW3.out.1.below hb5) (And.intro (HW3.out.2.trans (hb5.mono HW3.out.2.size)) (HO.out.2.on hb5)))
    clear hb5 HW3 HO
    go_wp2_with fail
    refine (readsBack_any g N T _ bs n HI.out.1 HI.out.2 M a5 cap5 HN.out.2.1 h3 HR.out.2.2.2.1 HN.out.2.2 w5 HW5.out.2.2 (rd_on HR.out.2.2.1 HW5.out.2.1)).mono ?_
    rintro e w6 ⟨rfl, hb6⟩
    have HW6 := hide (And.intro (HW5.out.1.below hb6) (HW5.out.2.1.trans (hb6.mono HW5.out.2.1.size)))
    clear hb6 HW5
    go_wp2_with fail
    refine (atLenY w.heap.size p _ false _ 1 (by simp) w6 HW6.out.1).mono ?_
    rintro e w7 ⟨rfl, rfl⟩
    go_wp2_with fail
    refine (first_any w.heap.size p _ false _ w7 HW6.out.1).mono ?_
    rintro e w8 ⟨rfl, rfl⟩
    go_wp2_with fail
    refine (outerY w.heap.size p _ false _ a2 a3 a4 rfl w8 HW6.out.1).mono ?_
    rintro e w9 ⟨rfl, hb9⟩
    have HB := hide (HW6.out.2.trans (hb9.mono HW6.out.2.size))
    clear hb9 HW6
    go_wp2
    go_ret
    exact ⟨rfl, HB.out⟩

end Go.Proofs.Qxb6614820aDoor.Law7
