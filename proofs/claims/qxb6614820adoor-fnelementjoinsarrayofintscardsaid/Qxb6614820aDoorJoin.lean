import Derived.Test.Qxb6614820aDoorInt
import Derived.Test.Qxb6614820aDoorApp
import Derived.Test.Qxb6614820aDoorElem
import Derived.Test.Qxb6614820aDoorNew
namespace Go.Proofs.Qxb6614820aDoor.Join
open Go.RowKit Go.Proofs.Qxb6614820aDoor.Eq Go.Proofs.Qxb6614820aDoor.Clone Go.Proofs.Qxb6614820aDoor.Wr Go.Proofs.Qxb6614820aDoor.Dec Go.Proofs.Qxb6614820aDoor.App
set_option linter.unusedVariables false
set_option linter.unusedSimpArgs false

/-- The comma ahead of element i. -/
def sep (i : Nat) : List Int := if i = 0 then [] else [44]
/-- The text behind i elements. -/
def js (xs : List Int) : Nat → List Int
  | 0 => [91]
  | i + 1 => js xs i ++ sep i ++ num (xs.getD i 0)

def InR (xs : List Int) : Prop := ∀ i, -9223372036854775808 ≤ xs.getD i 0 ∧ xs.getD i 0 ≤ 9223372036854775807

theorem js_length (xs : List Int) (h : InR xs) (i : Nat) : (js xs i).length ≤ 1 + 22 * i := by
  induction i with
  | zero => simp [js]
  | succ i ih =>
    have h1 := num_length (xs.getD i 0) (h i).1 (h i).2
    have h2 : (sep i).length ≤ 1 := by unfold sep; split <;> simp
    simp only [js, List.length_append]
    omega

theorem elem_step (B p : Nat) (zs : List Int) (i : Nat) (hi : i ≤ 65536) (a : Bool) (nm : ByteArray) (hz : zs.length ≤ 1099511627776) (w : World) (h : Wr B p zs (decide (i = 0)) [(a, nm, -1 + (i : Int))] w) :
    Calls Tryd.prog 9 #[.pointer (some ⟨p, 0, none⟩)] w fun e w' => e = .returned (.tuple #[]) ∧ Wr B p (zs ++ sep i) false [(a, nm, -1 + ((i + 1 : Nat) : Int))] w' ∧ Below B w w' := by
  have e1 : -1 + ((i + 1 : Nat) : Int) = -1 + (i : Int) + 1 := by omega
  rw [e1]
  by_cases h0 : i = 0
  · rw [decide_eq_true h0] at h
    unfold sep
    rw [if_pos h0, List.append_nil]
    exact elem_first B p zs [] a nm _ (by omega) (by omega) w h
  · rw [decide_eq_false h0] at h
    unfold sep
    rw [if_neg h0]
    exact elem_more B p zs [] a nm _ (by omega) (by omega) hz w h

set_option maxHeartbeats 1000000 in
set_option maxRecDepth 100000 in
theorem walk_out (a0 : Option Addr) (len0 cap0 : Nat) (w : World) (hl0 : len0 ≤ maxLen) (h : ¬ (len0 ≤ 65536)) :
    Calls Tryd.prog 3 #[.slice a0 len0 cap0] w fun e w' => e = .returned (.bool true) ∧ w' = w := by
  unfold maxLen at hl0
  by_cases h1 : len0 ≤ 1048576
  · go_enter Tryd.func3, Tryd.ntmps3
    go_wp2
    go_ret
    exact ⟨rfl, rfl⟩
  · clear h
    go_enter Tryd.func3, Tryd.ntmps3
    go_wp2
    go_ret
    exact ⟨rfl, rfl⟩

/-- From address a on the cells hold the numbers xs (of an int64). -/
def Rq (w : World) (a : Option Addr) (xs : List Int) : Prop :=
  ∀ k, k < xs.length → ∃ b o, a = some ⟨b, o, none⟩ ∧ w.cell? ⟨b, o + k, none⟩ = some (.int .i64 (xs.getD k 0))

set_option maxHeartbeats 2000000 in
set_option maxRecDepth 100000 in
theorem walk_in (a0 : Option Addr) (xs : List Int) (cap0 : Nat) (w : World) (hr : Rq w a0 xs) (hin : InR xs) (h1 : xs.length ≤ 65536) (htab : Tab w.heap.size w) :
    Calls Tryd.prog 3 #[.slice a0 xs.length cap0] w fun e w' => e = .returned (.bool true) ∧ Below w.heap.size w w' := by
  have HR := hide (And.intro hr (And.intro hin htab))
  have HL := hide (js_length xs hin)
  clear hr hin htab
  obtain ⟨i5, hi5, hz50, hz51, hz52⟩ := info_parts info5
  generalize hM : xs.length = M at *
  have HM := hide hM
  clear hM
  go_enter Tryd.func3, Tryd.ntmps3
  go_wp2_with (first | (go_at_call 6; go_in))
  refine (new_any w).mono ?_
  rintro e w1 ⟨p, rfl, hw1, hb1⟩
  have HW1 := hide (And.intro hw1 hb1)
  clear hw1 hb1
  go_wp2_with fail
  refine (begin_any w.heap.size p [] false [] 91 w1 HW1.out.1 (by simp) (by simp)).mono ?_
  rintro e w2 ⟨rfl, hw2, hb2⟩
  have HW2 := hide (And.intro hw2 (HW1.out.2.trans hb2))
  clear hw2 hb2 HW1
  go_wp2_with fail
  go_loopw [4] (fun i wr => ∃ j : Nat, j ≤ M ∧ i = .int .i64 j ∧ Wr w.heap.size p (js xs j) (decide (j = 0)) [(true, ⟨#[]⟩, -1 + (j : Int))] wr ∧ Below w.heap.size w wr) (fun i _ => M - (intOf i).toNat)
  case atStart => exact ⟨0, by omega, rfl, HW2.out.1, HW2.out.2⟩
  case round =>
    clear HW2
    obtain ⟨j, hj, rfl, hwr, hbr⟩ := hrel
    have HWR := hide (And.intro hwr hbr)
    clear hwr hbr
    by_cases hlt : j < M
    · have hlt' : (j : Int) < (M : Int) := by omega
      obtain ⟨b1, o1, rfl, hc0⟩ := HR.out.1 j (by rw [HM.out]; exact hlt)
      obtain ⟨c, hc⟩ : ∃ c, xs.getD j 0 = c := ⟨_, rfl⟩
      rw [hc] at hc0
      have HC := hide (And.intro hc hc0)
      clear hc hc0
      go_wp2_with fail
      refine (elem_step w.heap.size p (js xs j) j (by omega) true ⟨#[]⟩ (by have := HL.out j; omega) wr HWR.out.1).mono ?_
      rintro e w3 ⟨rfl, hw3, hb3⟩
      have HW3 := hide (And.intro hw3 (HWR.out.2.trans hb3))
      have hcell : w3.cell? ⟨b1, o1 + j, none⟩ = some (.int .i64 c) := by
        rw [HW3.out.2.cell (World.block_lt_of_cell? _ _ HC.out.2)]
        exact HC.out.2
      clear hw3 hb3 HWR
      go_wp2_with fail
      refine (int_any w.heap.size p (js xs j ++ sep j) _ _ c (by rw [← HC.out.1]; exact (HR.out.2.1 j).1) (by rw [← HC.out.1]; exact (HR.out.2.1 j).2) w3 HW3.out.1 (HR.out.2.2.on HW3.out.2) (by have := HL.out j; rw [List.length_append]; have h2 : (sep j).length ≤ 1 := (by unfold sep; split <;> simp); omega)).mono ?_
      rintro e w4 ⟨rfl, hw4, hb4⟩
      have HW4 : Hid (Wr w.heap.size p (js xs (j + 1)) (decide (j + 1 = 0)) [(true, ⟨#[]⟩, -1 + ((j + 1 : Nat) : Int))] w4 ∧ Below w.heap.size w w4) := by
        refine ⟨?_, HW3.out.2.trans hb4⟩
        rw [js, HC.out.1, decide_eq_false (by omega)]
        exact hw4
      clear hw4 hb4 HW3 hcell
      go_wp2_with fail
      go_roundw
      case rel => exact ⟨j + 1, by omega, by go_num, HW4.out.1, HW4.out.2⟩
      case measure => simp [intOf]; omega
    · have HWA : Hid (Wr w.heap.size p (js xs M) (decide (M = 0)) ([] ++ [(true, ⟨#[]⟩, -1 + (M : Int))]) wr ∧ Below w.heap.size w wr) := by
        have e : j = M := by omega
        rw [← e]
        exact HWR
      have hge : (M : Int) ≤ (j : Int) := by omega
      clear HWR hlt hj
      go_wp2_with fail
      refine (end_any w.heap.size p (js xs M) _ [] (true, ⟨#[]⟩, -1 + (M : Int)) 93 wr HWA.out.1 (by have := HL.out M; omega)).mono ?_
      rintro e w5 ⟨rfl, hw5, hb5⟩
      have HW5 := hide (And.intro hw5 (HWA.out.2.trans hb5))
      clear hw5 hb5 HWA
      go_wp2_with (at_make; refine wpList_make_own _ rfl _ _ 28 rfl w5.heap.size 5 i5 (.int .u8 0) 1 Tryd.underlying28 hi5 hz50 hz51 _ _ _ (2 + 21 * M) rfl rfl (by omega) (by rw [hz52]; omega) (by unfold maxLen; omega) (Nat.le_refl _) ?_)
      intro w6 hown6 hgrow6
      have hb6 : Below w5.heap.size w5 w6 := (Below.refl _ w5).grown hgrow6 (Nat.le_refl _) (fun k hk => by cases hk)
      have HW6 := hide (And.intro hown6 hb6)
      have hs6 : w5.heap.size ≤ w6.heap.size := hb6.size
      clear hown6 hgrow6 hb6
      go_wp2_with (at_builtin; refine wpList_append_lies _ rfl _ _ 28 rfl w5.heap.size 5 i5 (.int .u8 0) 1 1 Tryd.underlying28 hi5 hz50 hz51 hz52 rfl (by decide) _ _ _ rfl (HW6.out.1.alloc _) ⟨w6.heap.size, 0, none⟩ 1 1 [Value.int .u8 91] rfl rfl (cell_one_new _ _ _) (by intro u hu; simp at hu; subst hu; rfl) (by omega) (by unfold maxLen; omega) (by omega) (by rw [World.size_alloc]; omega) (w6.heap.size + 1) (by simp) ?_)
      intro g7 cap7 w7 hown7 hgrow7 hat7 hlt7
      have HW7 : Hid (w7.ownsRow w5.heap.size 5 1 (.slice (some ⟨g7, 0, none⟩) 1 cap7) (js xs 0).length ((js xs 0).map (Value.int .u8)) ∧ Below w5.heap.size w5 w7) :=
        ⟨hown7, (HW6.out.2.alloc hs6 _).grown hgrow7 (by rw [World.size_alloc]; omega) (fun k hk => (HW6.out.1.lt k hk).1)⟩
      clear hown7 hgrow7 hat7 HW6
      go_wp2_with fail
      go_loopw [5, 6] (fun v i wr => ∃ j : Nat, j ≤ M ∧ i = .int .i64 j ∧ wr.ownsRow w5.heap.size 5 1 v (js xs j).length ((js xs j).map (Value.int .u8)) ∧ Below w5.heap.size w5 wr) (fun _ i _ => M - (intOf i).toNat)
      case atStart => exact ⟨0, by omega, rfl, HW7.out.1, HW7.out.2⟩
      case round =>
        clear HW7
        obtain ⟨t, ht, rfl, hor, hbr⟩ := hrel
        obtain ⟨ao, capo, rfl⟩ := Wr.shape hor
        have hsr : w5.heap.size ≤ wr.heap.size := hbr.size
        have HWR := hide (And.intro hor hbr)
        clear hor hbr
        generalize hT : (js xs t).length = T at *
        have hT2 : T ≤ 1 + 22 * t := by rw [← hT]; exact HL.out t
        have HT := hide hT
        clear hT
        by_cases hlt : t < M
        · have hlt' : (t : Int) < (M : Int) := by omega
          obtain ⟨b1, o1, rfl, hc0⟩ := HR.out.1 t (by rw [HM.out]; exact hlt)
          obtain ⟨c, hc⟩ : ∃ c, xs.getD t 0 = c := ⟨_, rfl⟩
          rw [hc] at hc0
          have HC := hide (And.intro hc hc0)
          clear hc hc0
          by_cases ht0 : t = 0
          · have ht1 : (t : Int) ≤ 0 := by omega
            have hcell : wr.cell? ⟨b1, o1 + t, none⟩ = some (.int .i64 c) := by
              rw [(HW5.out.2.trans (HWR.out.2.mono HW5.out.2.size)).cell (World.block_lt_of_cell? _ _ HC.out.2)]
              exact HC.out.2
            have HT0 := hide ht0
            clear ht0
            go_wp2_with fail
            refine (app_any w5.heap.size _ (js xs t) c (by rw [← HC.out.1]; exact (HR.out.2.1 t).1) (by rw [← HC.out.1]; exact (HR.out.2.1 t).2) wr hsr (by rw [HT.out]; exact HWR.out.1) (by rw [HT.out]; omega)).mono ?_
            rintro e w9 ⟨v9, rfl, hown9, hb9⟩
            have HW9 : Hid (w9.ownsRow w5.heap.size 5 1 v9 (js xs (t + 1)).length ((js xs (t + 1)).map (Value.int .u8)) ∧ Below w5.heap.size w5 w9) := by
              refine ⟨?_, HWR.out.2.trans hb9⟩
              rw [js, HC.out.1, show sep t = [] from if_pos HT0.out, List.append_nil]
              exact hown9
            clear hown9 hb9 hcell
            go_wp2_with fail
            go_roundw
            case rel => exact ⟨t + 1, by omega, by go_num, HW9.out.1, HW9.out.2⟩
            case measure => simp [intOf]; omega
          · have ht1 : (0 : Int) < (t : Int) := by omega
            have HT0 := hide ht0
            clear ht0
            go_wp2_with (at_builtin; refine wpList_append_lies _ rfl _ _ 28 rfl w5.heap.size 5 i5 (.int .u8 0) 1 1 Tryd.underlying28 hi5 hz50 hz51 hz52 rfl (by decide) _ _ _ rfl (HWR.out.1.alloc _) ⟨wr.heap.size, 0, none⟩ 1 1 [Value.int .u8 44] rfl rfl (cell_one_new _ _ _) (by intro u hu; simp at hu; subst hu; rfl) (by omega) (by unfold maxLen; omega) (by omega) (by rw [World.size_alloc]; omega) (wr.heap.size + 1) (by simp) ?_)
            intro g8 cap8 w8 hown8 hgrow8 hat8 hlt8
            have hb8 : Below w5.heap.size w5 w8 := (HWR.out.2.alloc hsr _).grown hgrow8 (by rw [World.size_alloc]; omega) (fun k hk => (HWR.out.1.lt k hk).1)
            have HW8 := hide (And.intro hown8 hb8)
            have hs8 : w5.heap.size ≤ w8.heap.size := hb8.size
            have hcell : w8.cell? ⟨b1, o1 + t, none⟩ = some (.int .i64 c) := by
              rw [(HW5.out.2.trans (hb8.mono HW5.out.2.size)).cell (World.block_lt_of_cell? _ _ HC.out.2)]
              exact HC.out.2
            clear hown8 hgrow8 hat8 hb8
            go_wp2_with fail
            refine (app_any w5.heap.size _ (js xs t ++ [44]) c (by rw [← HC.out.1]; exact (HR.out.2.1 t).1) (by rw [← HC.out.1]; exact (HR.out.2.1 t).2) w8 hs8 (by rw [len_snoc, map_snoc, HT.out]; exact HW8.out.1) (by rw [len_snoc, HT.out]; omega)).mono ?_
            rintro e w9 ⟨v9, rfl, hown9, hb9⟩
            have HW9 : Hid (w9.ownsRow w5.heap.size 5 1 v9 (js xs (t + 1)).length ((js xs (t + 1)).map (Value.int .u8)) ∧ Below w5.heap.size w5 w9) := by
              refine ⟨?_, HW8.out.2.trans hb9⟩
              rw [js, HC.out.1, show sep t = [44] from if_neg HT0.out]
              exact hown9
            clear hown9 hb9 hcell
            go_wp2_with fail
            go_roundw
            case rel => exact ⟨t + 1, by omega, by go_num, HW9.out.1, HW9.out.2⟩
            case measure => simp [intOf]; omega
        · have HT3 : Hid (t = M) := (by omega : t = M)
          have hge2 : (M : Int) ≤ (t : Int) := by omega
          clear hlt
          go_wp2_with (at_builtin; refine wpList_append_lies _ rfl _ _ 28 rfl w5.heap.size 5 i5 (.int .u8 0) 1 1 Tryd.underlying28 hi5 hz50 hz51 hz52 rfl (by decide) _ _ _ rfl (HWR.out.1.alloc _) ⟨wr.heap.size, 0, none⟩ 1 1 [Value.int .u8 93] rfl rfl (cell_one_new _ _ _) (by intro u hu; simp at hu; subst hu; rfl) (by omega) (by unfold maxLen; omega) (by omega) (by rw [World.size_alloc]; omega) (wr.heap.size + 1) (by simp) ?_)
          intro g8 cap8 w8 hown8 hgrow8 hat8 hlt8
          have hb8 : Below w5.heap.size w5 w8 := (HWR.out.2.alloc hsr _).grown hgrow8 (by rw [World.size_alloc]; omega) (fun k hk => (HWR.out.1.lt k hk).1)
          have HW8 : Hid (w8.ownsRow w5.heap.size 5 1 (.slice (some ⟨g8, 0, none⟩) (T + 1) cap8) (T + 1) ((js xs M ++ [93]).map (Value.int .u8)) ∧ Wr w.heap.size p (js xs M ++ [93]) false [] w8 ∧ Below w.heap.size w w8) := by
            refine ⟨?_, HW5.out.1.below hb8, HW5.out.2.trans (hb8.mono HW5.out.2.size)⟩
            rw [map_snoc, ← HT3.out]
            exact hown8
          have hTM : Hid ((js xs M ++ [93]).length = T + 1) := by
            rw [len_snoc, ← HT3.out, HT.out]; exact rfl
          clear hown8 hgrow8 hat8 hb8 HW5 HWR
          go_wp2_with fail
          refine (bytesY w.heap.size p _ _ _ (T + 1) hTM.out w8 HW8.out.2.1).mono ?_
          rintro e w10 ⟨ao2, cap10, rfl, rfl, hown10⟩
          have HO10 := hide hown10
          clear hown10
          go_wp2_with fail
          refine (eqY _ _ (T + 1) (T + 1) _ _ (js xs M ++ [93]) (by rw [hTM.out]; unfold maxLen; omega) hTM.out.symm hTM.out.symm w10 (rd_own HO10.out) (rd_own HW8.out.1)).mono ?_
          rintro e w11 ⟨rfl, hb11⟩
          have HW11 := hide (And.intro (HW8.out.2.1.below hb11) (HW8.out.2.2.trans (hb11.mono HW8.out.2.2.size)))
          clear hb11 HW8 HO10
          go_wp2_with fail
          refine (atLenY w.heap.size p _ _ _ 0 (by simp) w11 HW11.out.1).mono ?_
          rintro e w12 ⟨rfl, rfl⟩
          go_wp2_with fail
          refine (first_any w.heap.size p _ _ _ w12 HW11.out.1).mono ?_
          rintro e w13 ⟨rfl, rfl⟩
          go_wp2
          go_ret
          exact ⟨rfl, HW11.out.2⟩
end Go.Proofs.Qxb6614820aDoor.Join
