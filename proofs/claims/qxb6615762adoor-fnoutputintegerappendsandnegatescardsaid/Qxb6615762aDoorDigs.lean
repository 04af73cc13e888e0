import Derived.Test.Qxb6615762aDoorDec
namespace Go.Proofs.Qxb6615762aDoor.Digs
open Go Go.Proofs.Qxb6615762aDoor.Dec

theorem dec_ne (u : Nat) : dec u ≠ [] := by
  by_cases h : u < 10
  · rw [dec_small u h]; simp
  · rw [dec_big u h]; simp

theorem dec_lt (u : Nat) : u < 10 ^ (dec u).length := by
  induction u using Nat.strongRecOn with
  | _ u ih =>
    by_cases h : u < 10
    · rw [dec_small u h]
      simpa using h
    · rw [dec_big u h]
      have := ih (u / 10) (by omega)
      simp only [List.length_append, List.length_cons, List.length_nil, Nat.zero_add, Nat.pow_succ]
      omega

theorem dec_le (u : Nat) (hu : 1 ≤ u) : 10 ^ ((dec u).length - 1) ≤ u := by
  induction u using Nat.strongRecOn with
  | _ u ih =>
    by_cases h : u < 10
    · rw [dec_small u h]
      simpa using hu
    · rw [dec_big u h]
      have h1 := ih (u / 10) (by omega) (by omega)
      have h2 : 1 ≤ (dec (u / 10)).length := by
        rcases hd : dec (u / 10) with _ | ⟨c, l⟩
        · exact absurd hd (dec_ne _)
        · simp
      obtain ⟨m, hm⟩ : ∃ m, (dec (u / 10)).length = m + 1 := ⟨(dec (u / 10)).length - 1, by omega⟩
      rw [hm] at h1
      simp only [List.length_append, List.length_cons, List.length_nil, Nat.zero_add, hm, Nat.add_sub_cancel, Nat.pow_succ] at h1 ⊢
      omega

theorem dec_at (u : Nat) : ∀ j, j < (dec u).length → (dec u)[j]? = some (48 + ((u / 10 ^ ((dec u).length - 1 - j) % 10 : Nat) : Int)) := by
  induction u using Nat.strongRecOn with
  | _ u ih =>
    intro j hj
    by_cases h : u < 10
    · rw [dec_small u h] at hj ⊢
      have : j = 0 := by simpa using hj
      subst this
      simp
      omega
    · rw [dec_big u h] at hj ⊢
      simp only [List.length_append, List.length_cons, List.length_nil, Nat.zero_add, Nat.add_sub_cancel] at hj ⊢
      by_cases hl : j < (dec (u / 10)).length
      · rw [List.getElem?_append_left hl, ih (u / 10) (by omega) j hl]
        obtain ⟨m, hm⟩ : ∃ m, (dec (u / 10)).length - j = m + 1 := ⟨(dec (u / 10)).length - j - 1, by omega⟩
        rw [hm, show (dec (u / 10)).length - 1 - j = m by omega, Nat.pow_succ, Nat.mul_comm, ← Nat.div_div_eq_div_mul]
      · have : j = (dec (u / 10)).length := by omega
        subst this
        simp

/-- How a reader of digits goes on: f is the number read so far, dg the digits. -/
theorem dec_run (U : Nat) : ∃ (D : Nat) (f dg : Nat → Nat), (dec U).length = D ∧ 1 ≤ D ∧ (U ≤ 9223372036854775808 → D ≤ 19) ∧ f 0 = 0 ∧ f D = U ∧
    (∀ j, j < D → f (j + 1) = f j * 10 + dg j ∧ dg j ≤ 9 ∧ (dec U)[j]? = some (48 + (dg j : Int))) ∧ (∀ j, f j ≤ U) ∧ (dg 0 = 0 → U = 0 ∧ D = 1) := by
  have h1 : 1 ≤ (dec U).length := by
    rcases hd : dec U with _ | ⟨c, l⟩
    · exact absurd hd (dec_ne _)
    · simp
  refine ⟨(dec U).length, fun j => U / 10 ^ ((dec U).length - j), fun j => U / 10 ^ ((dec U).length - 1 - j) % 10, rfl, h1, ?_, ?_, ?_, ?_, ?_, ?_⟩
  · intro hU
    by_cases h0 : U = 0
    · subst h0
      rw [dec_small 0 (by decide)]
      decide
    · have h2 := dec_le U (by omega)
      rcases Nat.lt_or_ge 19 (dec U).length with hc | hc
      · exfalso
        have h3 : 10 ^ 19 ≤ 10 ^ ((dec U).length - 1) := Nat.pow_le_pow_right (by decide) (by omega)
        have h4 : (10 : Nat) ^ 19 = 10000000000000000000 := by decide
        omega
      · exact hc
  · exact Nat.div_eq_of_lt (dec_lt U)
  · simp
  · intro j hj
    refine ⟨?_, Nat.le_of_lt_succ (Nat.mod_lt _ (by decide)), dec_at U j hj⟩
    obtain ⟨m, hm⟩ : ∃ m, (dec U).length - j = m + 1 := ⟨(dec U).length - j - 1, by omega⟩
    show U / 10 ^ ((dec U).length - (j + 1)) = U / 10 ^ ((dec U).length - j) * 10 + U / 10 ^ ((dec U).length - 1 - j) % 10
    rw [hm, show (dec U).length - (j + 1) = m by omega, show (dec U).length - 1 - j = m by omega, Nat.pow_succ, ← Nat.div_div_eq_div_mul]
    omega
  · exact fun j => Nat.div_le_self _ _
  · intro h0
    by_cases hz : U = 0
    · subst hz
      exact ⟨rfl, by rw [dec_small 0 (by decide)]; rfl⟩
    · exfalso
      have h2 := dec_le U (by omega)
      have h3 := dec_lt U
      obtain ⟨m, hm⟩ : ∃ m, (dec U).length = m + 1 := ⟨(dec U).length - 1, by omega⟩
      simp only [hm, Nat.add_sub_cancel, Nat.sub_zero, Nat.pow_succ] at h0 h2 h3
      have h5 : 1 ≤ U / 10 ^ m := (Nat.le_div_iff_mul_le (Nat.pow_pos (by decide))).2 (by omega)
      have h6 : U / 10 ^ m < 10 := (Nat.div_lt_iff_lt_mul (Nat.pow_pos (by decide))).2 (by omega)
      omega
end Go.Proofs.Qxb6615762aDoor.Digs
