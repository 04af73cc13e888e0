import Derived.Test.Qxb6615762aDoorHelp
namespace Go.Proofs.Qxb6615762aDoor.Help
open Go.RowKit Go.Proofs.Qxb6615762aDoor.Eq Go.Proofs.Qxb6615762aDoor.Clone Go.Proofs.Qxb6615762aDoor.Dec Go.Proofs.Qxb6615762aDoor.App Go.Proofs.Qxb6615762aDoor.Digs
set_option linter.unusedVariables false
set_option linter.unusedSimpArgs false

set_option maxHeartbeats 1000000 in
/-- zzParseCanonical, no sign. -/
theorem parse_pos (g ct D U : Nat) (f dg : Nat → Nat) (hU : U ≤ 9223372036854775808) (hD1 : 1 ≤ D) (hD : D ≤ 19) (hf0 : f 0 = 0) (hfD : f D = U) (hf : ∀ j, j < D → f (j + 1) = f j * 10 + dg j ∧ dg j ≤ 9) (hfU : ∀ j, f j ≤ U) (hz : dg 0 = 0 → U = 0 ∧ D = 1) (w : World)
    (h : ∀ j, j < D → w.cell? ⟨g, j, none⟩ = some (.int .u8 (48 + (dg j : Int)))) :
    Calls Tryd.prog 8 #[.slice (some ⟨g, 0, none⟩) D ct] w fun e w' => e = .returned (.tuple #[.int .u64 U, .bool false, .bool true]) ∧ Below w.heap.size w w' := by
  have c10 := h 0 hD1
  have hd0 := (hf 0 hD1).2
  obtain ⟨d0, hd0e⟩ : ∃ d0, dg 0 = d0 := ⟨_, rfl⟩
  rw [hd0e] at c10 hd0 hz
  have hDz0 : ((D : Int) == 0) = false := by simp; omega
  have hDz1 : ((D : Int) + 1 == 0) = false := by simp; omega
  have hDz2 : (D : Int) ≤ 19 := by omega
  have h45 : (48 + (d0 : Int) == 45) = false := by simp; omega
  have H := hide (And.intro hfD (And.intro hf (And.intro hfU h)))
  have HZ := hide hz
  clear hfD hf hfU hz hd0e h
  have hcase : (d0 = 0 ∧ U = 0 ∧ D = 1) ∨ 0 < d0 := by
    by_cases h0 : d0 = 0
    · exact .inl ⟨h0, HZ.out h0⟩
    · exact .inr (by omega)
  rcases hcase with ⟨hdz, hUz, hDz⟩ | hd0p
  · subst hdz hUz
    have hDle : (D : Int) ≤ 1 := by omega
    clear hDz HZ
    have hz48 : (48 + ((0 : Nat) : Int) == 48) = true := by decide
    go_enter Tryd.func8, Tryd.ntmps8
    go_wp2
    go_loopw [7, 8] (fun m i wr => ∃ j : Nat, j ≤ D ∧ i = .int .i64 j ∧ m = .int .u64 (f j : Nat) ∧ ∃ n, wr = w.drewN n) (fun _ i _ => D - (intOf i).toNat)
    case atStart => exact ⟨0, by omega, rfl, by rw [hf0]; rfl, 0, rfl⟩
    case round =>
      obtain ⟨j, hj, rfl, rfl, n, rfl⟩ := hrel
      by_cases hlt : j < D
      · have c1 := H.out.2.2.2 j hlt
        have hf1 := H.out.2.1 j hlt
        have hf2 := H.out.2.2.1 (j + 1)
        obtain ⟨F, hF⟩ : ∃ F, f j = F := ⟨_, rfl⟩
        obtain ⟨d, hd⟩ : ∃ d, dg j = d := ⟨_, rfl⟩
        rw [hF]
        rw [hF, hd] at hf1
        rw [hd] at c1
        have hF1 : (F : Int) * 10 + d ≤ 9223372036854775808 := by omega
        have hd9 : (d : Int) ≤ 9 := by omega
        have HF := hide (And.intro hf1 (And.intro hF hd))
        clear hf1 hf2 hF hd
        have hjD : (j : Int) < D := by omega
        go_wp2
        go_roundw
        case rel =>
          refine ⟨j + 1, hlt, by go_num, ?_, _, rfl⟩
          have hv : (F : Int) * 10 + (48 + (d : Int) - 48) = ((f (j + 1) : Nat) : Int) := by rw [HF.out.1.1]; omega
          first | exact congrArg (Value.int .u64) hv | (rw [← hv]; rfl)
        case measure => simp [intOf]; omega
      · have hjD : j = D := by omega
        subst hjD
        rw [H.out.1]
        go_wp2
        go_ret3
        exact ⟨rfl, below_draws _ _⟩
  · have hne : (48 + (d0 : Int) == 48) = false := by simp; omega
    go_enter Tryd.func8, Tryd.ntmps8
    go_wp2
    go_loopw [7, 8] (fun m i wr => ∃ j : Nat, j ≤ D ∧ i = .int .i64 j ∧ m = .int .u64 (f j : Nat) ∧ ∃ n, wr = w.drewN n) (fun _ i _ => D - (intOf i).toNat)
    case atStart => exact ⟨0, by omega, rfl, by rw [hf0]; rfl, 0, rfl⟩
    case round =>
      obtain ⟨j, hj, rfl, rfl, n, rfl⟩ := hrel
      by_cases hlt : j < D
      · have c1 := H.out.2.2.2 j hlt
        have hf1 := H.out.2.1 j hlt
        have hf2 := H.out.2.2.1 (j + 1)
        obtain ⟨F, hF⟩ : ∃ F, f j = F := ⟨_, rfl⟩
        obtain ⟨d, hd⟩ : ∃ d, dg j = d := ⟨_, rfl⟩
        rw [hF]
        rw [hF, hd] at hf1
        rw [hd] at c1
        have hF1 : (F : Int) * 10 + d ≤ 9223372036854775808 := by omega
        have hd9 : (d : Int) ≤ 9 := by omega
        have HF := hide (And.intro hf1 (And.intro hF hd))
        clear hf1 hf2 hF hd
        have hjD : (j : Int) < D := by omega
        go_wp2
        go_roundw
        case rel =>
          refine ⟨j + 1, hlt, by go_num, ?_, _, rfl⟩
          have hv : (F : Int) * 10 + (48 + (d : Int) - 48) = ((f (j + 1) : Nat) : Int) := by rw [HF.out.1.1]; omega
          first | exact congrArg (Value.int .u64) hv | (rw [← hv]; rfl)
        case measure => simp [intOf]; omega
      · have hjD : j = D := by omega
        subst hjD
        rw [H.out.1]
        go_wp2
        go_ret3
        exact ⟨rfl, below_draws _ _⟩

set_option maxHeartbeats 1000000 in
/-- zzParseCanonical, a sign. -/
theorem parse_neg (g ct D U : Nat) (f dg : Nat → Nat) (hU1 : 1 ≤ U) (hU : U ≤ 9223372036854775808) (hD1 : 1 ≤ D) (hD : D ≤ 19) (hct : D + 1 ≤ ct) (hcm : ct ≤ 9223372036854775807) (hf0 : f 0 = 0) (hfD : f D = U) (hf : ∀ j, j < D → f (j + 1) = f j * 10 + dg j ∧ dg j ≤ 9) (hfU : ∀ j, f j ≤ U) (hz : dg 0 = 0 → U = 0 ∧ D = 1) (w : World)
    (hm : w.cell? ⟨g, 0, none⟩ = some (.int .u8 45)) (h : ∀ j, j < D → w.cell? ⟨g, 1 + j, none⟩ = some (.int .u8 (48 + (dg j : Int)))) :
    Calls Tryd.prog 8 #[.slice (some ⟨g, 0, none⟩) (D + 1) ct] w fun e w' => e = .returned (.tuple #[.int .u64 U, .bool true, .bool true]) ∧ Below w.heap.size w w' := by
  have c10 := h 0 hD1
  simp only [Nat.zero_add, Nat.add_zero] at c10
  have hd0 := (hf 0 hD1).2
  obtain ⟨d0, hd0e⟩ : ∃ d0, dg 0 = d0 := ⟨_, rfl⟩
  rw [hd0e] at c10 hd0 hz
  have hDz0 : ((D : Int) == 0) = false := by simp; omega
  have hDz1 : ((D : Int) + 1 == 0) = false := by simp; omega
  have hDz2 : (D : Int) ≤ 19 := by omega
  have h45 : (48 + (d0 : Int) == 45) = false := by simp; omega
  have H := hide (And.intro hfD (And.intro hf (And.intro hfU h)))
  have HZ := hide hz
  clear hfD hf hfU hz hd0e h
  have hcase : (d0 = 0 ∧ U = 0 ∧ D = 1) ∨ 0 < d0 := by
    by_cases h0 : d0 = 0
    · exact .inl ⟨h0, HZ.out h0⟩
    · exact .inr (by omega)
  rcases hcase with ⟨hdz, hUz, hDz⟩ | hd0p
  · omega
  · have hne : (48 + (d0 : Int) == 48) = false := by simp; omega
    go_enter Tryd.func8, Tryd.ntmps8
    go_wp2
    go_loopw [7, 8] (fun m i wr => ∃ j : Nat, j ≤ D ∧ i = .int .i64 j ∧ m = .int .u64 (f j : Nat) ∧ ∃ n, wr = w.drewN n) (fun _ i _ => D - (intOf i).toNat)
    case atStart => exact ⟨0, by omega, rfl, by rw [hf0]; rfl, 0, rfl⟩
    case round =>
      obtain ⟨j, hj, rfl, rfl, n, rfl⟩ := hrel
      by_cases hlt : j < D
      · have c1 := H.out.2.2.2 j hlt
        have hf1 := H.out.2.1 j hlt
        have hf2 := H.out.2.2.1 (j + 1)
        obtain ⟨F, hF⟩ : ∃ F, f j = F := ⟨_, rfl⟩
        obtain ⟨d, hd⟩ : ∃ d, dg j = d := ⟨_, rfl⟩
        rw [hF]
        rw [hF, hd] at hf1
        rw [hd] at c1
        have hF1 : (F : Int) * 10 + d ≤ 9223372036854775808 := by omega
        have hd9 : (d : Int) ≤ 9 := by omega
        have HF := hide (And.intro hf1 (And.intro hF hd))
        clear hf1 hf2 hF hd
        have hjD : (j : Int) < D := by omega
        go_wp2
        go_roundw
        case rel =>
          refine ⟨j + 1, hlt, by go_num, ?_, _, rfl⟩
          have hv : (F : Int) * 10 + (48 + (d : Int) - 48) = ((f (j + 1) : Nat) : Int) := by rw [HF.out.1.1]; omega
          first | exact congrArg (Value.int .u64) hv | (rw [← hv]; rfl)
        case measure => simp [intOf]; omega
      · have hjD : j = D := by omega
        subst hjD
        rw [H.out.1]
        go_wp2
        go_ret3
        exact ⟨rfl, below_draws _ _⟩
end Go.Proofs.Qxb6615762aDoor.Help
