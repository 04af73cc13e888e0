import Derived.Test.Qxb6614820aDoorBits
namespace Go.Proofs.Qxb6614820aDoor.Plain
open Go Go.Proofs.Qxb6614820aDoor.Dec Go.Proofs.Qxb6614820aDoor.Wr
set_option linter.unusedVariables false
set_option linter.unusedSimpArgs false

theorem dec_digits (u : Nat) : ∀ c ∈ dec u, 48 ≤ c ∧ c ≤ 57 := by
  induction u using Nat.strongRecOn with
  | _ u ih =>
    by_cases h : u < 10
    · rw [dec_small u h]
      intro c hc
      simp at hc
      omega
    · rw [dec_big u h]
      intro c hc
      rw [List.mem_append] at hc
      rcases hc with hc | hc
      · exact ih (u / 10) (by omega) c hc
      · simp at hc
        omega

/-- The number that digits say. -/
def valD (l : List Int) : Int := l.foldl (fun a c => a * 10 + (c - 48)) 0

theorem valD_snoc (l : List Int) (c : Int) : valD (l ++ [c]) = valD l * 10 + (c - 48) := by simp [valD]

theorem valD_dec (u : Nat) : valD (dec u) = u := by
  induction u using Nat.strongRecOn with
  | _ u ih =>
    by_cases h : u < 10
    · rw [dec_small u h]
      simp [valD]
      omega
    · rw [dec_big u h, valD_snoc, ih (u / 10) (by omega)]
      omega

theorem dec_ne (u : Nat) : dec u ≠ [] := by
  by_cases h : u < 10
  · rw [dec_small u h]; simp
  · rw [dec_big u h]; simp

theorem dec_inj {u v : Nat} (h : dec u = dec v) : u = v := by
  have := congrArg valD h
  rw [valD_dec, valD_dec] at this
  omega

theorem num_chars (x : Int) : ∀ c ∈ num x, c = 45 ∨ (48 ≤ c ∧ c ≤ 57) := by
  intro c hc
  by_cases h : x < 0
  · obtain ⟨u, rfl⟩ : ∃ u : Nat, x = -(u : Int) := ⟨x.natAbs, by omega⟩
    rw [num_neg u (by omega), List.mem_cons] at hc
    rcases hc with rfl | hc
    · exact .inl rfl
    · exact .inr (dec_digits u c hc)
  · obtain ⟨u, rfl⟩ : ∃ u : Nat, x = (u : Int) := ⟨x.toNat, by omega⟩
    rw [num_nonneg] at hc
    exact .inr (dec_digits u c hc)

theorem dec_head (u : Nat) (c : Int) (l : List Int) (h : dec u = c :: l) : 48 ≤ c ∧ c ≤ 57 := dec_digits u c (by rw [h]; simp)

theorem num_inj {x y : Int} (h : num x = num y) : x = y := by
  by_cases hx : x < 0
  · obtain ⟨u, rfl⟩ : ∃ u : Nat, x = -(u : Int) := ⟨x.natAbs, by omega⟩
    rw [num_neg u (by omega)] at h
    by_cases hy : y < 0
    · obtain ⟨v, rfl⟩ : ∃ v : Nat, y = -(v : Int) := ⟨y.natAbs, by omega⟩
      rw [num_neg v (by omega)] at h
      have := dec_inj (List.cons.inj h).2
      omega
    · obtain ⟨v, rfl⟩ : ∃ v : Nat, y = (v : Int) := ⟨y.toNat, by omega⟩
      rw [num_nonneg] at h
      have := dec_head v _ _ h.symm
      omega
  · obtain ⟨u, rfl⟩ : ∃ u : Nat, x = (u : Int) := ⟨x.toNat, by omega⟩
    rw [num_nonneg] at h
    by_cases hy : y < 0
    · obtain ⟨v, rfl⟩ : ∃ v : Nat, y = -(v : Int) := ⟨y.natAbs, by omega⟩
      rw [num_neg v (by omega)] at h
      have := dec_head u _ _ h
      omega
    · obtain ⟨v, rfl⟩ : ∃ v : Nat, y = (v : Int) := ⟨y.toNat, by omega⟩
      rw [num_nonneg] at h
      have := dec_inj h
      omega

theorem split_at {s : Int} : ∀ {a1 a2 r1 r2 : List Int}, a1 ++ s :: r1 = a2 ++ s :: r2 → s ∉ a1 → s ∉ a2 → a1 = a2 ∧ r1 = r2
  | [], [], r1, r2, h, _, _ => ⟨rfl, (List.cons.inj h).2⟩
  | [], c :: a2, r1, r2, h, _, h2 => absurd (show s ∈ c :: a2 by have := (List.cons.inj h).1; simp [this]) h2
  | c :: a1, [], r1, r2, h, h1, _ => absurd (show s ∈ c :: a1 by have := (List.cons.inj h).1; simp [this]) h1
  | c :: a1, d :: a2, r1, r2, h, h1, h2 => by
    have h3 := List.cons.inj h
    obtain ⟨e1, e2⟩ := split_at h3.2 (fun hm => h1 (List.mem_cons_of_mem _ hm)) (fun hm => h2 (List.mem_cons_of_mem _ hm))
    exact ⟨by rw [h3.1, e1], e2⟩

theorem comma_num (x : Int) : (44 : Int) ∉ num x := fun h => by
  have := num_chars x 44 h
  omega

/-- A hex digit, as an integer. -/
def hxd (d : Nat) : Int := ((Lib.Hx.digit d).toNat : Int)

theorem hxd_inj {d e : Nat} (hd : d < 16) (he : e < 16) (h : hxd d = hxd e) : d = e := by
  have H : ∀ d : Fin 16, ∀ e : Fin 16, hxd d = hxd e → d = e := by decide
  have := H ⟨d, hd⟩ ⟨e, he⟩ h
  exact congrArg Fin.val this

theorem hx_cons (b : Int) (t : List Int) (h0 : 0 ≤ b) (h1 : b < 256) : hx (b :: t) = hxd (b.toNat / 16) :: hxd (b.toNat % 16) :: hx t := by
  unfold hx Lib.bytesOf
  rw [List.map_cons, Lib.Hx.encode_cons, Lib.Hx.byte_toNat b h0 h1]
  rfl

theorem bytes_tail {b : Int} {t : List Int} (h : Wr.Bytes (b :: t)) : 0 ≤ b ∧ b < 256 ∧ Wr.Bytes t := by
  have h0 := h 0 (by simp)
  simp [List.getD] at h0
  refine ⟨h0.1, h0.2, fun i hi => ?_⟩
  have := h (i + 1) (by simp; omega)
  simpa [List.getD] using this

theorem hx_inj : ∀ {a b : List Int}, Wr.Bytes a → Wr.Bytes b → hx a = hx b → a = b
  | [], [], _, _, _ => rfl
  | [], c :: b, _, hb, h => by
    obtain ⟨h0, h1, _⟩ := bytes_tail hb
    rw [hx_cons c b h0 h1] at h
    cases h
  | c :: a, [], ha, _, h => by
    obtain ⟨h0, h1, _⟩ := bytes_tail ha
    rw [hx_cons c a h0 h1] at h
    cases h
  | c :: a, d :: b, ha, hb, h => by
    obtain ⟨h0, h1, ha2⟩ := bytes_tail ha
    obtain ⟨g0, g1, hb2⟩ := bytes_tail hb
    rw [hx_cons c a h0 h1, hx_cons d b g0 g1] at h
    have e1 := List.cons.inj h
    have e2 := List.cons.inj e1.2
    have k1 := hxd_inj (by omega) (by omega) e1.1
    have k2 := hxd_inj (by omega) (by omega) e2.1
    have k3 : c = d := by omega
    rw [k3, hx_inj ha2 hb2 e2.2]

theorem bt_inj {a b : List Int} {x y : Int} (ha : Wr.Bytes a) (hb : Wr.Bytes b) (h : bt a x = bt b y) : a = b ∧ x = y := by
  unfold bt at h
  have h1 := List.append_cancel_left h
  have e : ∀ l : List Int, midT ++ l = 44 :: ([34, 118, 97, 108, 117, 101, 34, 58, 34] ++ l) := fun _ => rfl
  rw [e, e] at h1
  obtain ⟨h2, h3⟩ := split_at h1 (comma_num x) (comma_num y)
  have h4 := List.append_cancel_right (List.append_cancel_left h3)
  exact ⟨hx_inj ha hb h4, num_inj h2⟩

end Go.Proofs.Qxb6614820aDoor.Plain
