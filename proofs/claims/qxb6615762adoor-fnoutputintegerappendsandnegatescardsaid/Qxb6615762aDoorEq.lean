import Derived.Test.Qxb6615762aDoorProg
import Derived.WalkKit
import Derived.WalkSpells
import Derived.WalkLawsBesides
import Derived.Deep.QuietTactic
import Derived.BigQuiet
namespace Go.Proofs.Qxb6615762aDoor.Eq
open Go.RowKit
set_option linter.unusedVariables false

theorem hide {p : Prop} (h : p) : Hid p := h

/-- From address a on the cells hold the bytes xs. -/
def Rd (w : World) (a : Option Addr) (xs : List Int) : Prop :=
  ∀ k, k < xs.length → ∃ x, a = some x ∧ w.cell? (x.add k) = some (.int .u8 (xs.getD k 0))

theorem Rd.form {w : World} {a : Option Addr} {xs : List Int} (h : Rd w a xs) (hn : 0 < xs.length) :
    ∃ b o, a = some ⟨b, o, none⟩ ∧ ∀ k, k < xs.length → w.cell? ⟨b, o + k, none⟩ = some (.int .u8 (xs.getD k 0)) := by
  obtain ⟨⟨b, o, s⟩, rfl, h0⟩ := h 0 hn
  have hs : s = none := by
    cases s with
    | none => rfl
    | some z =>
      simp [Addr.add, World.cell?] at h0
      split at h0 <;> simp_all
  subst hs
  refine ⟨b, o, rfl, fun k hk => ?_⟩
  obtain ⟨x, hx, hc⟩ := h k hk
  cases hx
  rwa [Addr.add_lit] at hc

theorem eq_of_all {xs ys : List Int} (hl : xs.length = ys.length) (h : ∀ k, k < xs.length → xs.getD k 0 = ys.getD k 0) : xs = ys := by
  apply List.ext_getElem hl
  intro k h1 h2
  have := h k h1
  simpa [List.getD, h1, h2] using this

set_option maxHeartbeats 400000 in
theorem eq_len (a b : Option Addr) (n m ca cb : Nat) (h : n ≠ m) (hn : n ≤ maxLen) (hm : m ≤ maxLen) (w : World) :
    Calls Tryd.prog 10 #[.slice a n ca, .slice b m cb] w fun e w' => e = .returned (.bool false) ∧ w' = w := by
  unfold maxLen at hn hm
  have h' : ((n : Int) == (m : Int)) = false := by simp; omega
  go_enter Tryd.func10, Tryd.ntmps10
  go_wp2
  go_ret
  exact ⟨rfl, rfl⟩

set_option maxHeartbeats 400000 in
theorem eq_nil (a b : Option Addr) (ca cb : Nat) (w : World) :
    Calls Tryd.prog 10 #[.slice a 0 ca, .slice b 0 cb] w fun e w' => e = .returned (.bool true) ∧ w' = w := by
  go_enter Tryd.func10, Tryd.ntmps10
  go_wp2
  go_loop [5] (fun i => i = .int .i64 0) (fun _ => 0)
  case atStart => rfl
  case round =>
    obtain rfl := hrel
    go_wp2
    go_ret
    exact ⟨rfl, rfl⟩

set_option maxHeartbeats 400000 in
theorem eq_some (b1 o1 b2 o2 ca cb : Nat) (xs ys : List Int) (hl : xs.length = ys.length) (hn : xs.length ≤ maxLen) (w : World)
    (h1 : ∀ k, k < xs.length → w.cell? ⟨b1, o1 + k, none⟩ = some (.int .u8 (xs.getD k 0)))
    (h2 : ∀ k, k < ys.length → w.cell? ⟨b2, o2 + k, none⟩ = some (.int .u8 (ys.getD k 0))) :
    Calls Tryd.prog 10 #[.slice (some ⟨b1, o1, none⟩) xs.length ca, .slice (some ⟨b2, o2, none⟩) ys.length cb] w fun e w' => e = .returned (.bool (decide (xs = ys))) ∧ ∃ k, w' = w.drewN k := by
  unfold maxLen at hn
  have HT : ∀ n, (∀ k, k < xs.length → xs.getD k 0 = ys.getD k 0) → (Ending.returned (.bool true) = .returned (.bool (decide (xs = ys))) ∧ ∃ k, w.drewN n = w.drewN k) := fun n h => ⟨by rw [decide_eq_true (eq_of_all hl h)], n, rfl⟩
  have HF : ∀ n m k, ¬ xs.getD k 0 = ys.getD k 0 → (Ending.returned (.bool false) = .returned (.bool (decide (xs = ys))) ∧ ∃ k, (w.drewN n).drewN m = w.drewN k) := fun n m k h => ⟨by rw [decide_eq_false (fun e => h (by rw [e]))], n + m, World.drewN_drewN _ _ _⟩
  rw [← hl] at h2 ⊢
  clear hl
  generalize hN : xs.length = N at *
  have H1 := hide h1
  have H2 := hide h2
  have HT' := hide HT
  have HF' := hide HF
  clear h1 h2 HT HF hN
  go_enter Tryd.func10, Tryd.ntmps10
  go_wp2
  go_loopw [5] (fun i wr => ∃ k : Nat, k ≤ N ∧ i = .int .i64 k ∧ (∀ j, j < k → xs.getD j 0 = ys.getD j 0) ∧ ∃ n, wr = w.drewN n) (fun i _ => N - (intOf i).toNat)
  case atStart => exact ⟨0, by omega, rfl, fun j hj => absurd hj (by omega), 0, rfl⟩
  case round =>
    obtain ⟨k, hk, rfl, hall, n, rfl⟩ := hrel
    have HA : Hid (∀ j, j < k → xs.getD j 0 = ys.getD j 0) := hall
    clear hall
    by_cases hlt : k < N
    · have c1 := H1.out k hlt
      have c2 := H2.out k hlt
      have hki : (k : Int) < (N : Int) := by omega
      obtain ⟨x, hx⟩ : ∃ x, xs.getD k 0 = x := ⟨_, rfl⟩
      obtain ⟨y, hy⟩ : ∃ y, ys.getD k 0 = y := ⟨_, rfl⟩
      rw [hx] at c1
      rw [hy] at c2
      have HX : Hid (xs.getD k 0 = x ∧ ys.getD k 0 = y) := ⟨hx, hy⟩
      clear hx hy
      by_cases hxy : (x != y) = true
      · go_wp2
        go_quiet (fail)
        go_wp2
        go_ret
        exact HF'.out _ _ k (by rw [HX.out.1, HX.out.2]; simpa using hxy)
      · have hxy' : (x != y) = false := by simpa using hxy
        clear hxy
        go_wp2
        go_quiet (fail)
        go_wp2
        go_roundw
        case rel =>
          refine ⟨k + 1, by omega, by go_num, fun j hj => ?_, _, rfl⟩
          by_cases e : j = k
          · rw [e, HX.out.1, HX.out.2]; simpa using hxy'
          · exact HA.out j (by omega)
        case measure => simp [intOf]; omega
    · go_wp2
      go_ret
      exact HT'.out n (fun j hj => HA.out j (by omega))

/-- zzEqualBytes: two slices of bytes, wherever they lie, are compared byte by byte. -/
theorem eq_any (a b : Option Addr) (ca cb : Nat) (xs ys : List Int) (hn : xs.length ≤ maxLen) (hm : ys.length ≤ maxLen) (w : World) (h1 : Rd w a xs) (h2 : Rd w b ys) :
    Calls Tryd.prog 10 #[.slice a xs.length ca, .slice b ys.length cb] w fun e w' => e = .returned (.bool (decide (xs = ys))) ∧ ∃ k, w' = w.drewN k := by
  by_cases hl : xs.length = ys.length
  · by_cases h0 : 0 < xs.length
    · obtain ⟨b1, o1, rfl, c1⟩ := h1.form h0
      obtain ⟨b2, o2, rfl, c2⟩ := h2.form (by omega)
      exact eq_some b1 o1 b2 o2 ca cb xs ys hl hn w c1 c2
    · have e1 : xs = [] := List.eq_nil_of_length_eq_zero (by omega)
      have e2 : ys = [] := List.eq_nil_of_length_eq_zero (by omega)
      subst e1 e2
      refine (eq_nil a b ca cb w).mono ?_
      rintro e w' ⟨rfl, rfl⟩
      exact ⟨by simp, 0, rfl⟩
  · refine (eq_len a b xs.length ys.length ca cb hl hn hm w).mono ?_
    rintro e w' ⟨rfl, rfl⟩
    exact ⟨by rw [decide_eq_false (fun e => hl (by rw [e]))], 0, rfl⟩

/-- .. and answers true where the bytes are the same. -/
theorem eq_yes (a b : Option Addr) (n m ca cb : Nat) (xs : List Int) (hn : xs.length ≤ maxLen) (w : World) (e1 : n = xs.length) (e2 : m = xs.length) (h1 : Rd w a xs) (h2 : Rd w b xs) :
    Calls Tryd.prog 10 #[.slice a n ca, .slice b m cb] w fun e w' => e = .returned (.bool true) ∧ ∃ k, w' = w.drewN k := by
  subst e1 e2
  refine (eq_any a b ca cb xs xs hn hn w h1 h2).mono ?_
  rintro e w' ⟨rfl, h⟩
  exact ⟨by simp, h⟩

end Go.Proofs.Qxb6615762aDoor.Eq
