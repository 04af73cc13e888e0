import Derived.Test.Qxb6615762aDoorEq
import Derived.Laws.CopyOwn
import Derived.Deep.OwnRows
namespace Go.Proofs.Qxb6615762aDoor.Clone
open Go.RowKit Go.Proofs.Qxb6615762aDoor.Eq
set_option linter.unusedVariables false

theorem info5 : (Tryd.prog.info? 5).map (fun i => (i.zero, i.size, i.bytes)) = some (some (.int .u8 0), 1, 1) := by kernel_rfl
theorem size5 : (Tryd.prog.info? 5).map (·.size) = some 1 := by kernel_rfl


set_option maxHeartbeats 400000 in
theorem clone_nil (w : World) : Calls Tryd.prog 5 #[.slice none 0 0] w fun e w' => e = .returned (.slice none 0 0) ∧ w' = w := by
  have hq := fun (w : World) (a : Option Addr) (n c n1 c1 : Nat) => Lib.run_eql_slice_nil (P := Tryd.prog) w 22 5 a n c n1 c1 Tryd.underlying22
  go_enter Tryd.func5, Tryd.ntmps5
  go_wp2
  go_ret
  exact ⟨rfl, rfl⟩

theorem news_of_rd {w : World} {x : Addr} {xs : List Int} (h : Rd w (some x) xs) : ∀ j u, (xs.map (Value.int .u8))[j]? = some u → w.cell? (x.add j) = some u := by
  intro j u hu
  have hj : j < xs.length := by
    have := (List.getElem?_eq_some_iff.1 hu).1
    simpa using this
  obtain ⟨y, hy, hc⟩ := h j hj
  cases hy
  rw [hc]
  have e : (xs.map (Value.int .u8))[j]? = some (.int .u8 (xs.getD j 0)) := by simp [List.getD, hj]
  rw [e] at hu
  exact hu

theorem Rd.below {w w' : World} {B : Nat} {a : Option Addr} {xs : List Int} (h : Rd w a xs) (hb : Below B w w') (hB : ∀ x, a = some x → x.block < B) : Rd w' a xs := by
  intro k hk
  obtain ⟨x, rfl, hc⟩ := h k hk
  refine ⟨x, rfl, ?_⟩
  rw [hb.cell (p := x.add k) (by unfold Addr.add; split <;> exact hB x rfl)]
  exact hc

theorem Rd.lt {w : World} {x : Addr} {xs : List Int} (h : Rd w (some x) xs) (h0 : 0 < xs.length) : x.block < w.heap.size := by
  obtain ⟨y, hy, hc⟩ := h 0 h0
  cases hy
  simp only [Addr.add, if_pos] at hc
  exact World.block_lt_of_cell? w x hc

set_option maxHeartbeats 400000 in
theorem clone_some (x : Addr) (xs : List Int) (c : Nat) (hx : xs.length ≤ 2097152) (w : World) (h : Rd w (some x) xs) :
    Calls Tryd.prog 5 #[.slice (some x) xs.length c] w fun e w' => ∃ v, e = .returned v ∧ w'.ownsRow w.heap.size 5 1 v xs.length (xs.map (Value.int .u8)) ∧ Below w.heap.size w w' := by
  have hq := fun (w : World) (a : Option Addr) (n c n1 c1 : Nat) => Lib.run_eql_slice_nil (P := Tryd.prog) w 22 5 a n c n1 c1 Tryd.underlying22
  obtain ⟨i0, hi, hz0, hz1, hz2⟩ := info_parts info5
  have H := hide h
  generalize hN : xs.length = N at *
  have HN := hide hN
  clear hN h
  go_enter Tryd.func5, Tryd.ntmps5
  go_wp2_with (at_make; refine wpList_make_full _ rfl _ _ 22 rfl w.heap.size 5 i0 (.int .u8 0) 1 Tryd.underlying22 hi hz0 hz1 _ _ _ _ N rfl rfl rfl rfl ?b2 ?b3 ?b4 ?_)
  case b2 => rw [hz2]; omega
  case b3 => unfold maxLen; omega
  case b4 => exact Nat.le_refl _
  intro w1 hown hgrow
  have hN : xs.length = N := HN.out
  have hrow : w1.heap[w.heap.size]? = some (.cells (madeCells #[.int .u8 0] N).toList.toArray 5 (0, 0)) := by
    rcases hown.2 with ⟨h0, _⟩ | ⟨g, cap, cur, hv, _, hg, _, _, hs, ht⟩
    · cases h0
    · cases hv
      rw [hg]
      simp only [Nat.mul_one] at hs ht
      rw [List.take_of_length_le (by simp [hs])] at ht
      rw [← ht]
  have hb1 : Below w.heap.size w w1 := (Below.refl _ w).grown hgrow (Nat.le_refl _) (fun k hk => by cases hk)
  have hlen : (xs.map (Value.int .u8)).length = Nat.min N N := by simp [hN]
  have hpos : 0 < (xs.map (Value.int .u8)).length → (some (⟨w.heap.size, 0, none⟩ : Addr) : Option Addr) = some ⟨w.heap.size, 0, none⟩ ∧ ∃ ad, some x = some ad ∧ ∀ j v, (xs.map (Value.int .u8))[j]? = some v → w1.cell? (ad.add j) = some v := by
    intro h0
    refine ⟨rfl, x, rfl, news_of_rd (Rd.below H.out hb1 ?_)⟩
    intro y hy
    cases hy
    exact Rd.lt H.out (by simpa using h0)
  have hfit : 0 + (xs.map (Value.int .u8)).length ≤ (madeCells #[Value.int .u8 0] N).toList.length := by simp [hN, madeCells]
  have hone := ints_oneCell .u8 xs
  have hsp : splice (madeCells #[Value.int .u8 0] N).toList 0 (xs.map (Value.int .u8)) = xs.map (Value.int .u8) := by
    unfold splice
    rw [List.drop_of_length_le (by simp [hN, madeCells])]
    simp
  have HH := hide (And.intro hrow (And.intro hlen (And.intro hpos (And.intro hfit (And.intro hone hsp)))))
  clear hrow hlen hpos hfit hone hsp hN hown hgrow
  go_wp2_with (refine wpList_copy_splice (by rfl) (.tmp 9) (.tmp 10) 22 22 (by rfl) 5 Tryd.underlying22 size5 _ _ _ _ _ _ (by rfl) (by rfl) w.heap.size 0 (madeCells #[Value.int .u8 0] N).toList 5 HH.out.1 (xs.map (Value.int .u8)) HH.out.2.1 HH.out.2.2.1 HH.out.2.2.2.1 HH.out.2.2.2.2.1 w.heap.size w hb1 (Nat.le_refl _) ?_)
  intro w2 hg2 hb2
  go_wp2
  go_ret
  refine ⟨_, rfl, ?_, hb2⟩
  have hg3 := hg2.out
  rw [HH.out.2.2.2.2.2] at hg3
  refine ⟨by simp [HN.out], .inr ⟨w.heap.size, N, _, rfl, Nat.le_refl _, hg3, Nat.le_refl _, by unfold maxLen; omega, by simp [HN.out], ?_⟩⟩
  rw [List.take_of_length_le (by simp [HN.out])]

/-- zzCloneBytes: a slice of the call's own that holds the same bytes; nothing that was there has turned. -/
theorem clone_any (a : Option Addr) (xs : List Int) (c n : Nat) (hn : n = xs.length) (hnil : a = none → n = 0 ∧ c = 0) (hx : n ≤ 2097152) (w : World) (h : Rd w a xs) :
    Calls Tryd.prog 5 #[.slice a n c] w fun e w' => ∃ v, e = .returned v ∧ w'.ownsRow w.heap.size 5 1 v n (xs.map (Value.int .u8)) ∧ Below w.heap.size w w' := by
  subst hn
  cases a with
  | none =>
    obtain ⟨h1, rfl⟩ := hnil rfl
    have e : xs = [] := List.eq_nil_of_length_eq_zero h1
    subst e
    refine (clone_nil w).mono ?_
    rintro e w' ⟨rfl, rfl⟩
    exact ⟨_, rfl, World.ownsRow_nil _ _ _ _, Below.refl _ _⟩
  | some x => exact clone_some x xs c hx w h

end Go.Proofs.Qxb6615762aDoor.Clone
