import Derived.Test.Qxb6614820aDoorPlain
import Derived.Test.Qxb6614820aDoorApp
import Derived.Test.Qxb6614820aDoorNew
namespace Go.Proofs.Qxb6614820aDoor.One
open Go.RowKit Go.Proofs.Qxb6614820aDoor.Eq Go.Proofs.Qxb6614820aDoor.Clone Go.Proofs.Qxb6614820aDoor.Wr Go.Proofs.Qxb6614820aDoor.Dec Go.Proofs.Qxb6614820aDoor.App Go.Proofs.Qxb6614820aDoor.Plain
set_option linter.unusedVariables false
set_option linter.unusedSimpArgs false

set_option maxHeartbeats 400000 in
/-- zzDecLen -/
theorem decLen (x : Int) (h0 : -9223372036854775808 ≤ x) (h1 : x ≤ 9223372036854775807) (L : Nat) (hL : (num x).length = L) (w : World) :
    Calls Tryd.prog 24 #[.int .i64 x] w fun e w' => e = .returned (.int .i64 L) ∧ Below w.heap.size w w' := by
  have H := hide (app_any w.heap.size (.slice none 0 0) [] x h0 h1 w (Nat.le_refl _) (World.ownsRow_nil _ _ _ _) (by simp))
  have HL := hide hL
  clear hL
  go_enter Tryd.func24, Tryd.ntmps24
  go_wp2_with fail
  refine H.out.mono ?_
  rintro e w1 ⟨v1, rfl, hown1, hb1⟩
  rw [List.nil_append, HL.out] at hown1
  obtain ⟨ao, cap, rfl⟩ := Wr.shape hown1
  have HB := hide hb1
  clear hown1 hb1
  go_wp2
  go_ret
  exact ⟨rfl, HB.out⟩

/-- zzEqualBytes, its answer named. -/
theorem eqB (a b : Option Addr) (n m ca cb : Nat) (xs ys : List Int) (E : Bool) (hE : decide (xs = ys) = E) (hn : xs.length ≤ maxLen) (hm : ys.length ≤ maxLen) (e1 : n = xs.length) (e2 : m = ys.length) (w : World) (h1 : Rd w a xs) (h2 : Rd w b ys) :
    Calls Tryd.prog 13 #[.slice a n ca, .slice b m cb] w fun e w' => e = .returned (.bool E) ∧ Below w.heap.size w w' := by
  subst e1 e2 hE
  refine (eq_any a b ca cb xs ys hn hm w h1 h2).mono ?_
  rintro e w' ⟨rfl, k, rfl⟩
  exact ⟨rfl, below_draws _ _⟩

set_option maxHeartbeats 1000000 in
set_option maxRecDepth 100000 in
theorem walk_out (a0 : Option Addr) (len0 cap0 : Nat) (a1 : Int) (a2 : Option Addr) (len2 cap2 : Nat) (a3 : Int) (w : World) (hl0 : len0 ≤ maxLen) (hl2 : len2 ≤ maxLen)
    (h : ¬ (len0 ≤ 262144 ∧ len2 ≤ 262144)) :
    Calls Tryd.prog 5 #[.slice a0 len0 cap0, .int .i64 a1, .slice a2 len2 cap2, .int .i64 a3] w fun e w' => e = .returned (.bool true) ∧ w' = w := by
  unfold maxLen at hl0 hl2
  by_cases h1 : len0 ≤ 1048576
  · by_cases h2 : len2 ≤ 1048576
    · by_cases h3 : len0 + len2 ≤ 1048576
      · by_cases h4 : len0 ≤ 262144
        · have h5 : 262144 < len2 := by omega
          clear h
          go_enter Tryd.func5, Tryd.ntmps5
          go_wp2
          go_ret
          exact ⟨rfl, rfl⟩
        · clear h
          go_enter Tryd.func5, Tryd.ntmps5
          go_wp2
          go_ret
          exact ⟨rfl, rfl⟩
      · clear h
        go_enter Tryd.func5, Tryd.ntmps5
        go_wp2
        go_ret
        exact ⟨rfl, rfl⟩
    · clear h
      go_enter Tryd.func5, Tryd.ntmps5
      go_wp2
      go_ret
      exact ⟨rfl, rfl⟩
  · clear h
    go_enter Tryd.func5, Tryd.ntmps5
    go_wp2
    go_ret
    exact ⟨rfl, rfl⟩

theorem rd_block {w : World} {a : Option Addr} {xs : List Int} (h : Rd w a xs) : ∀ x, a = some x → 0 < xs.length → x.block < w.heap.size := by
  rintro x rfl h0
  obtain ⟨y, hy, hc⟩ := h 0 h0
  cases hy
  simp only [Addr.add, if_pos] at hc
  exact World.block_lt_of_cell? w x hc

set_option maxHeartbeats 2000000 in
set_option maxRecDepth 100000 in
theorem walk_in (a0 : Option Addr) (xs : List Int) (cap0 : Nat) (n1 : Int) (a2 : Option Addr) (ys : List Int) (cap2 : Nat) (n2 : Int) (w : World) (hr0 : Rd w a0 xs) (hr2 : Rd w a2 ys) (hb0 : Bytes xs) (hb2 : Bytes ys)
    (h1 : xs.length ≤ 262144) (h2 : ys.length ≤ 262144) (i10 : -9223372036854775808 ≤ n1) (i11 : n1 ≤ 9223372036854775807) (i20 : -9223372036854775808 ≤ n2) (i21 : n2 ≤ 9223372036854775807) (htab : Tab w.heap.size w) (E1 E2 : Bool)
    (hcase : (E1 = true ∧ E2 = true ∧ (n1 == n2) = true) ∨ (E1 = false ∧ E2 = false) ∨ (E1 = true ∧ E2 = false ∧ (n1 == n2) = false)) (hE1 : decide (xs = ys) = E1) (hE2 : decide (bt xs n1 = bt ys n2) = E2) :
    Calls Tryd.prog 5 #[.slice a0 xs.length cap0, .int .i64 n1, .slice a2 ys.length cap2, .int .i64 n2] w fun e w' => e = .returned (.bool true) ∧ Below w.heap.size w w' := by
  have HR := hide (And.intro hr0 (And.intro hr2 (And.intro hb0 (And.intro hb2 htab))))
  have HE := hide (And.intro hE1 hE2)
  have hl1 := num_length n1 i10 i11
  have hl2 := num_length n2 i20 i21
  have hbt1 := bt_length xs n1
  have hbt2 := bt_length ys n2
  clear hr0 hr2 hb0 hb2 htab hE1 hE2
  obtain ⟨L1, hL1⟩ : ∃ L1, (num n1).length = L1 := ⟨_, rfl⟩
  obtain ⟨L2, hL2⟩ : ∃ L2, (num n2).length = L2 := ⟨_, rfl⟩
  rw [hL1] at hl1 hbt1
  rw [hL2] at hl2 hbt2
  generalize hN : xs.length = N at *
  generalize hM : ys.length = M at *
  have HL := hide (And.intro hN (And.intro hM (And.intro hL1 (And.intro hL2 (And.intro hbt1 hbt2)))))
  have HI := hide (And.intro i10 (And.intro i11 (And.intro i20 i21)))
  clear hN hM hL1 hL2 hbt1 hbt2 i10 i11 i20 i21
  rcases hcase with ⟨rfl, rfl, hnn⟩ | ⟨rfl, rfl⟩ | ⟨rfl, rfl, hnn⟩
  all_goals
    go_enter Tryd.func5, Tryd.ntmps5
    go_wp2_with (first | (go_at_call 23; go_in))
    refine (new_any w).mono ?_
    rintro e w1 ⟨p, rfl, hw1, hb1⟩
    have HW1 := hide (And.intro hw1 hb1)
    clear hw1 hb1
    go_wp2_with fail
    refine (bits_any w.heap.size p [] false [] a0 xs N cap0 HL.out.1.symm n1 HI.out.1 HI.out.2.1 (by simp) (by simp) (by rw [HL.out.1]; omega) HR.out.2.2.1 w1 (rd_on HR.out.1 HW1.out.2) (rd_block HR.out.1) (HR.out.2.2.2.2.on HW1.out.2) HW1.out.1).mono ?_
    rintro e w2 ⟨rfl, hw2, hb2⟩
    rw [List.nil_append] at hw2
    have HW2 := hide (And.intro hw2 (HW1.out.2.trans hb2))
    clear hw2 hb2 HW1
    go_wp2_with fail
    refine (new_any w2).mono ?_
    rintro e w3 ⟨q, rfl, hw3, hb3⟩
    have HW3 := hide (And.intro hw3 hb3)
    clear hw3 hb3
    go_wp2_with fail
    refine (bits_any w2.heap.size q [] false [] a2 ys M cap2 HL.out.2.1.symm n2 HI.out.2.2.1 HI.out.2.2.2 (by simp) (by simp) (by rw [HL.out.2.1]; omega) HR.out.2.2.2.1 w3 (rd_on HR.out.2.1 (HW2.out.2.trans (HW3.out.2.mono HW2.out.2.size))) (fun x hx h0 => Nat.lt_of_lt_of_le (rd_block HR.out.2.1 x hx h0) HW2.out.2.size) ((HR.out.2.2.2.2.on (HW2.out.2.trans (HW3.out.2.mono HW2.out.2.size))).up HW2.out.2.size) HW3.out.1).mono ?_
    rintro e w4 ⟨rfl, hw4, hb4⟩
    rw [List.nil_append] at hw4
    have hb24 := HW3.out.2.trans hb4
    have HW4 := hide (And.intro hw4 (And.intro (HW2.out.1.below hb24) (HW2.out.2.trans (hb24.mono HW2.out.2.size))))
    clear hw4 hb4 hb24 HW2 HW3
    go_wp2_with fail
    refine (bytesY w.heap.size p _ _ _ (22 + L1 + 2 * N) HL.out.2.2.2.2.1 w4 HW4.out.2.1).mono ?_
    rintro e w5 ⟨ao1, c1, rfl, rfl, ho1⟩
    have HO1 := hide ho1
    clear ho1
    go_wp2_with fail
    refine (bytesY w2.heap.size q _ _ _ (22 + L2 + 2 * M) HL.out.2.2.2.2.2 w5 HW4.out.1).mono ?_
    rintro e w6 ⟨ao2, c2, rfl, rfl, ho2⟩
    have HO2 := hide ho2
    clear ho2
    go_wp2_with fail
    refine (decLen n1 HI.out.1 HI.out.2.1 L1 HL.out.2.2.1 w6).mono ?_
    rintro e w7 ⟨rfl, hb7⟩
    have HW7 := hide (And.intro (own_on HO1.out hb7) (And.intro (own_on HO2.out hb7) (HW4.out.2.2.trans (hb7.mono HW4.out.2.2.size))))
    clear hb7 HO1 HO2 HW4
    go_wp2_with fail
    refine (decLen n2 HI.out.2.2.1 HI.out.2.2.2 L2 HL.out.2.2.2.1 w7).mono ?_
    rintro e w8 ⟨rfl, hb8⟩
    have HW8 := hide (And.intro (own_on HW7.out.1 hb8) (And.intro (own_on HW7.out.2.1 hb8) (HW7.out.2.2.trans (hb8.mono HW7.out.2.2.size))))
    clear hb8 HW7
    go_wp2_with fail
    refine (eqB a0 a2 N M _ _ xs ys _ HE.out.1 (by rw [HL.out.1]; unfold maxLen; omega) (by rw [HL.out.2.1]; unfold maxLen; omega) HL.out.1.symm HL.out.2.1.symm w8 (rd_on HR.out.1 HW8.out.2.2) (rd_on HR.out.2.1 HW8.out.2.2)).mono ?_
    rintro e w9 ⟨rfl, hb9⟩
    have HW9 := hide (And.intro (own_on HW8.out.1 hb9) (And.intro (own_on HW8.out.2.1 hb9) (HW8.out.2.2.trans (hb9.mono HW8.out.2.2.size))))
    clear hb9 HW8
    go_wp2_with fail
    refine (eqB ao1 ao2 (22 + L1 + 2 * N) (22 + L2 + 2 * M) _ _ (bt xs n1) (bt ys n2) _ HE.out.2 (by rw [HL.out.2.2.2.2.1]; unfold maxLen; omega) (by rw [HL.out.2.2.2.2.2]; unfold maxLen; omega) HL.out.2.2.2.2.1.symm HL.out.2.2.2.2.2.symm w9 (rd_own HW9.out.1) (rd_own HW9.out.2.1)).mono ?_
    rintro e w10 ⟨rfl, hb10⟩
    have HB := hide (HW9.out.2.2.trans (hb10.mono HW9.out.2.2.size))
    clear hb10 HW9
    go_wp2
    go_ret
    exact ⟨rfl, HB.out⟩

theorem walk_all (a0 : Option Addr) (xs : List Int) (cap0 : Nat) (n1 : Int) (a2 : Option Addr) (ys : List Int) (cap2 : Nat) (n2 : Int) (w : World) (hr0 : Rd w a0 xs) (hr2 : Rd w a2 ys) (hb0 : Bytes xs) (hb2 : Bytes ys)
    (h1 : xs.length ≤ 262144) (h2 : ys.length ≤ 262144) (i10 : -9223372036854775808 ≤ n1) (i11 : n1 ≤ 9223372036854775807) (i20 : -9223372036854775808 ≤ n2) (i21 : n2 ≤ 9223372036854775807) (htab : Tab w.heap.size w) :
    Calls Tryd.prog 5 #[.slice a0 xs.length cap0, .int .i64 n1, .slice a2 ys.length cap2, .int .i64 n2] w fun e w' => e = .returned (.bool true) ∧ Below w.heap.size w w' := by
  by_cases hx : xs = ys
  · by_cases hn : n1 = n2
    · exact walk_in a0 xs cap0 n1 a2 ys cap2 n2 w hr0 hr2 hb0 hb2 h1 h2 i10 i11 i20 i21 htab true true (.inl ⟨rfl, rfl, by simp [hn]⟩) (by simp [hx]) (by simp [hx, hn])
    · refine walk_in a0 xs cap0 n1 a2 ys cap2 n2 w hr0 hr2 hb0 hb2 h1 h2 i10 i11 i20 i21 htab true false (.inr (.inr ⟨rfl, rfl, by simp [hn]⟩)) (by simp [hx]) ?_
      exact decide_eq_false fun h => hn (bt_inj hb0 hb2 h).2
  · refine walk_in a0 xs cap0 n1 a2 ys cap2 n2 w hr0 hr2 hb0 hb2 h1 h2 i10 i11 i20 i21 htab false false (.inr (.inl ⟨rfl, rfl⟩)) (by simp [hx]) ?_
    exact decide_eq_false fun h => hx (bt_inj hb0 hb2 h).1
end Go.Proofs.Qxb6614820aDoor.One
