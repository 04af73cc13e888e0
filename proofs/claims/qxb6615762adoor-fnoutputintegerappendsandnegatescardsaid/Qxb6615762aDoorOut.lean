import Derived.Test.Qxb6615762aDoorApp
namespace Go.Proofs.Qxb6615762aDoor.App
open Go.RowKit Go.Sort Go.Lib Go.Proofs.Qxb6615762aDoor.Eq Go.Proofs.Qxb6615762aDoor.Clone Go.Proofs.Qxb6615762aDoor.Dec
set_option linter.unusedVariables false
set_option linter.unusedSimpArgs false

/-- The table of powers of ten reads as the program's text lays it, and goes on reading so while nothing below block B turns. -/
def Tab (B : Nat) (w : World) : Prop := Lib.TabBelow Tryd.prog B w Qxb6615762aDoor.tabName .u64 Lib.pow10Tab

theorem Tab.on {B : Nat} {w w' : World} (h : Tab B w) (hb : Below B w w') : Tab B w' := Lib.TabBelow.on h hb
theorem Tab.up {B B' : Nat} {w : World} (h : Tab B w) (hB : B ≤ B') : Tab B' w := fun w' hb => h w' (hb.mono hB)

theorem below_grown {B n : Nat} {w w' : World} {sv : Value} {xs : List Value} (hown : w.ownsRow B 5 1 sv n xs) (hBw : B ≤ w.heap.size) (h : w.grownBy w' sv.ownBlock) : Below B w w' :=
  (Below.refl B w).grown h hBw (fun k hk => (hown.lt k hk).1)

theorem cell_one (w : World) (v : Value) (T : TypeId) : ∀ j u, ([v] : List Value)[j]? = some u → (w.alloc (.cells #[v] T)).cell? ((⟨w.heap.size, 0, none⟩ : Addr).add j) = some u := by
  intro j u hj
  match j, hj with
  | 0, hj => simp at hj; subst hj; simp [Addr.add]

set_option maxHeartbeats 1600000 in
set_option maxRecDepth 100000 in
/-- internal/strconv.AppendInt(dst, x, 10), with its exact frame. -/
theorem int14 (B n : Nat) (x : Int) (h0 : -9223372036854775808 ≤ x) (h1 : x ≤ 9223372036854775807) (sv : Value) (xs : List Value) (w : World) (hown : w.ownsRow B 5 1 sv n xs) (hBw : B ≤ w.heap.size) (hlim : n + 21 ≤ 140737488355328) (htab : Tab B w) :
    Calls Tryd.prog 14 #[sv, .int .i64 x, .int .i64 10] w fun e w' => ∃ v', e = .returned v' ∧ w'.ownsRow B 5 1 v' (n + (Lib.itoa x).length) (xs ++ Lib.byteCells (Lib.itoa x)) ∧ w.grownBy w' sv.ownBlock := by
  obtain ⟨i0, hi, hz0, hz1, hz2⟩ := info_parts info5
  by_cases hneg : x < 0
  · obtain ⟨u, rfl⟩ : ∃ u : Nat, x = -(u : Int) := ⟨x.natAbs, by omega⟩
    have hu1 : 1 ≤ u := by omega
    have hu64 : u < 18446744073709551616 := by omega
    have hwr : IntKind.u64.wrap (-IntKind.u64.wrap (-(u : Int))) = (u : Int) := by rw [IntKind.wrap_u64, IntKind.wrap_u64]; omega
    rw [Lib.itoa_neg u hu1]
    have HO := Lib.hid (And.intro hown htab)
    clear hown htab
    go_enter Tryd.func14, Tryd.ntmps14
    go_wp2_with (at_builtin; refine wpList_append_lies _ rfl _ _ 22 rfl B 5 i0 (.int .u8 0) 1 1 Tryd.underlying22 hi hz0 hz1 hz2 rfl (by decide) _ _ _ rfl (HO.out.1.alloc _) ⟨w.heap.size, 0, none⟩ 1 1 [Value.int .u8 45] rfl rfl (cell_one _ _ _) (by intro u' hu'; simp at hu'; subst hu'; rfl) (by omega) (by unfold maxLen; omega) (by omega) (by rw [World.size_alloc]; omega) (w.heap.size + 1) (by simp) ?_)
    intro g1 cap1 w1 hown1 hgrow hat hlt
    have hg1 : w.grownBy w1 sv.ownBlock := grown_trans (grown_of ((Below.refl _ w).alloc (Nat.le_refl _) _)) hgrow
    have hb1 := below_grown HO.out.1 hBw hg1
    have H1 := Lib.hid (And.intro hown1 (And.intro hg1 (And.intro hat hb1)))
    clear hown1 hgrow hg1 hat hb1
    go_wp2_with (go_at_call 15; refine (uint_any B (n + 1) u hu64 _ _ w1 H1.out.1 (by have := H1.out.2.2.2.size; omega) (by omega) (HO.out.2 w1 H1.out.2.2.2)).mono ?_)
    rintro e w2 ⟨v2, rfl, hown2, hg2⟩
    have H2 := Lib.hid (And.intro hown2 hg2)
    clear hown2 hg2
    go_wp2
    go_ret
    refine ⟨v2, rfl, ?_, grown_more H1.out.2.1 H2.out.2 ?_⟩
    · have e1 : n + ((Lib.decDigits u).length + 1) = n + 1 + (Lib.decDigits u).length := by omega
      have e2 : xs ++ Lib.byteCells (45 :: Lib.decDigits u) = xs ++ [Value.int .u8 45] ++ Lib.byteCells (Lib.decDigits u) := by simp [Lib.byteCells]
      rw [e1, e2]
      exact H2.out.1
    · intro g hg
      simp only [Value.ownBlock, Option.some.injEq] at hg
      subst hg
      rcases H1.out.2.2.1 with h | h
      · exact .inl h
      · exact .inr (by omega)
  · obtain ⟨u, rfl⟩ : ∃ u : Nat, x = u := ⟨x.toNat, by omega⟩
    have hu64 : u < 18446744073709551616 := by omega
    rw [Lib.itoa_nonneg]
    have HC := Lib.hid (uint_any B n u hu64 sv xs w hown hBw (by omega) htab.here)
    clear hown htab
    go_enter Tryd.func14, Tryd.ntmps14
    go_wp2_with fail
    refine HC.out.mono ?_
    rintro e w2 ⟨v2, rfl, hown2, hg2⟩
    have H2 := Lib.hid (And.intro hown2 hg2)
    clear hown2 hg2
    go_wp2
    first | go_ret | go_ret2
    exact ⟨v2, rfl, H2.out.1, H2.out.2⟩

set_option maxHeartbeats 400000 in
/-- strconv.AppendInt -/
theorem int13 (B n : Nat) (x : Int) (h0 : -9223372036854775808 ≤ x) (h1 : x ≤ 9223372036854775807) (sv : Value) (xs : List Value) (w : World) (hown : w.ownsRow B 5 1 sv n xs) (hBw : B ≤ w.heap.size) (hlim : n + 21 ≤ 140737488355328) (htab : Tab B w) :
    Calls Tryd.prog 13 #[sv, .int .i64 x, .int .i64 10] w fun e w' => ∃ v', e = .returned v' ∧ w'.ownsRow B 5 1 v' (n + (Lib.itoa x).length) (xs ++ Lib.byteCells (Lib.itoa x)) ∧ w.grownBy w' sv.ownBlock := by
  have HC := Lib.hid (int14 B n x h0 h1 sv xs w hown hBw hlim htab)
  clear hown htab
  go_enter Tryd.func13, Tryd.ntmps13
  go_wp2_with fail
  refine HC.out.mono ?_
  rintro e w2 ⟨v2, rfl, hown2, hg2⟩
  have H2 := Lib.hid (And.intro hown2 hg2)
  clear hown2 hg2
  go_wp2
  first | go_ret | go_ret2
  exact ⟨v2, rfl, H2.out.1, H2.out.2⟩

theorem assert2 (v : Int) (w : World) : (Instr.typeAssert (.iface 2 (.int .i64 v)) 20 2 false).run Tryd.prog w = .ok (.int .i64 v) w := by kernel_rfl

set_option maxHeartbeats 400000 in
/-- sql.ZZoutputInteger -/
theorem out6 (B n : Nat) (x : Int) (h0 : -9223372036854775808 ≤ x) (h1 : x ≤ 9223372036854775807) (sv : Value) (xs : List Value) (w : World) (hown : w.ownsRow B 5 1 sv n xs) (hBw : B ≤ w.heap.size) (hlim : n + 21 ≤ 140737488355328) (htab : Tab B w) :
    Calls Tryd.prog 6 #[sv, .int .i64 x] w fun e w' => ∃ v', e = .returned v' ∧ w'.ownsRow B 5 1 v' (n + (Lib.itoa x).length) (xs ++ Lib.byteCells (Lib.itoa x)) ∧ w.grownBy w' sv.ownBlock := by
  have HC : Hid (∀ o, Calls Tryd.prog 13 #[sv, .int .i64 x, .int .i64 10] (w.alloc o) fun e w' => ∃ v', e = .returned v' ∧ w'.ownsRow B 5 1 v' (n + (Lib.itoa x).length) (xs ++ Lib.byteCells (Lib.itoa x)) ∧ (w.alloc o).grownBy w' sv.ownBlock) := fun o =>
    int13 B n x h0 h1 sv xs (w.alloc o) (hown.alloc _) (by rw [World.size_alloc]; omega) hlim (htab.on ((Below.refl _ w).alloc hBw _))
  clear hown htab
  have ha := assert2 x
  go_enter Tryd.func6, Tryd.ntmps6
  go_wp2_with (go_at_call 12; go_in)
  refine (HC.out _).mono ?_
  rintro e w2 ⟨v2, rfl, hown2, hg2⟩
  have H2 := Lib.hid (And.intro hown2 (grown_trans (grown_of ((Below.refl _ w).alloc (Nat.le_refl _) _)) hg2))
  clear hown2 hg2
  go_wp2
  first | go_ret | go_ret2
  exact ⟨v2, rfl, H2.out.1, H2.out.2⟩

theorem num_cells (xs : List Int) (x : Int) : xs.map (Value.int .u8) ++ Lib.byteCells (Lib.itoa x) = (xs ++ num x).map (Value.int .u8) := by
  rw [cells_ofB, List.map_append]
  rfl

/-- .. over lists of bytes. -/
theorem out_any (B : Nat) (zs : List Int) (x : Int) (h0 : -9223372036854775808 ≤ x) (h1 : x ≤ 9223372036854775807) (n : Nat) (hn : zs.length = n) (sv : Value) (w : World) (hown : w.ownsRow B 5 1 sv n (zs.map (Value.int .u8))) (hBw : B ≤ w.heap.size) (hlim : n ≤ 137438953472) (htab : Tab B w) :
    Calls Tryd.prog 6 #[sv, .int .i64 x] w fun e w' => ∃ v', e = .returned v' ∧ w'.ownsRow B 5 1 v' (n + (num x).length) ((zs ++ num x).map (Value.int .u8)) ∧ w.grownBy w' sv.ownBlock := by
  refine (out6 B n x h0 h1 sv _ w hown hBw (by omega) htab).mono ?_
  rintro e w' ⟨v', rfl, ho, hg⟩
  rw [num_cells] at ho
  refine ⟨v', rfl, ?_, hg⟩
  unfold num at *
  rw [ofB_length]
  exact ho
end Go.Proofs.Qxb6615762aDoor.App
