import Derived.Test.Qxb6615762aDoorOut
import Derived.Test.Qxb6615762aDoorDigs
namespace Go.Proofs.Qxb6615762aDoor.Help
open Go.RowKit Go.Proofs.Qxb6615762aDoor.Eq Go.Proofs.Qxb6615762aDoor.Clone Go.Proofs.Qxb6615762aDoor.Dec Go.Proofs.Qxb6615762aDoor.App Go.Proofs.Qxb6615762aDoor.Digs
set_option linter.unusedVariables false
set_option linter.unusedSimpArgs false

theorem below_draws (w : World) (n : Nat) : Below w.heap.size w (w.drewN n) := ⟨rfl, rfl, rfl, Nat.le_refl _, fun _ _ => rfl⟩

set_option maxHeartbeats 400000 in
/-- zzMag -/
theorem mag (x : Int) (h0 : -9223372036854775808 ≤ x) (h1 : x ≤ 9223372036854775807) (U : Nat) (hU : x.natAbs = U) (w : World) :
    Calls Tryd.prog 9 #[.int .i64 x] w fun e w' => e = .returned (.int .u64 U) ∧ w' = w := by
  by_cases hn : x < 0
  · obtain ⟨u, rfl⟩ : ∃ u : Nat, x = -(u : Int) := ⟨x.natAbs, by omega⟩
    obtain rfl : u = U := by omega
    clear hU
    have hu : 1 ≤ u := by omega
    go_enter Tryd.func9, Tryd.ntmps9
    go_wp2
    go_ret
    refine ⟨?_, rfl⟩
    show Ending.returned (.int .u64 (-(-(u : Int) + 1) + 1)) = _
    rw [show -(-(u : Int) + 1) + 1 = u by omega]
  · obtain ⟨u, rfl⟩ : ∃ u : Nat, x = (u : Int) := ⟨x.toNat, by omega⟩
    obtain rfl : u = U := by omega
    clear hU
    go_enter Tryd.func9, Tryd.ntmps9
    go_wp2
    go_ret
    exact ⟨rfl, rfl⟩

set_option maxHeartbeats 400000 in
theorem prefix_nil (a b : Option Addr) (N ca cb : Nat) (hN : N ≤ maxLen) (w : World) :
    Calls Tryd.prog 7 #[.slice a N ca, .slice b 0 cb] w fun e w' => e = .returned (.bool true) ∧ Below w.heap.size w w' := by
  unfold maxLen at hN
  go_enter Tryd.func7, Tryd.ntmps7
  go_wp2
  go_loop [5] (fun i => i = .int .i64 0) (fun _ => 0)
  case atStart => rfl
  case round =>
    obtain rfl := hrel
    go_wp2
    go_ret
    exact ⟨rfl, Below.refl _ _⟩

set_option maxHeartbeats 400000 in
theorem prefix_some (b1 o1 b2 o2 N M ca cb : Nat) (xs ps : List Int) (hN : xs.length = N) (hM : ps.length = M) (hle : M ≤ N) (hm : N ≤ maxLen) (hp : ∀ k, k < M → xs.getD k 0 = ps.getD k 0) (w : World)
    (h1 : ∀ k, k < xs.length → w.cell? ⟨b1, o1 + k, none⟩ = some (.int .u8 (xs.getD k 0)))
    (h2 : ∀ k, k < ps.length → w.cell? ⟨b2, o2 + k, none⟩ = some (.int .u8 (ps.getD k 0))) :
    Calls Tryd.prog 7 #[.slice (some ⟨b1, o1, none⟩) N ca, .slice (some ⟨b2, o2, none⟩) M cb] w fun e w' => e = .returned (.bool true) ∧ Below w.heap.size w w' := by
  unfold maxLen at hm
  rw [hN] at h1
  rw [hM] at h2
  have H := hide (And.intro h1 (And.intro h2 hp))
  clear hN hM h1 h2 hp
  go_enter Tryd.func7, Tryd.ntmps7
  go_wp2
  go_loopw [5] (fun i wr => ∃ k : Nat, k ≤ M ∧ i = .int .i64 k ∧ ∃ n, wr = w.drewN n) (fun i _ => M - (intOf i).toNat)
  case atStart => exact ⟨0, by omega, rfl, 0, rfl⟩
  case round =>
    obtain ⟨k, hk, rfl, n, rfl⟩ := hrel
    by_cases hlt : k < M
    · have c1 := H.out.1 k (by omega)
      have c2 := H.out.2.1 k hlt
      rw [H.out.2.2 k hlt] at c1
      have hki : (k : Int) < (M : Int) := by omega
      obtain ⟨x, hx⟩ : ∃ x, ps.getD k 0 = x := ⟨_, rfl⟩
      rw [hx] at c1 c2
      clear hx
      go_wp2
      go_quiet (fail)
      go_wp2
      go_roundw
      case rel => exact ⟨k + 1, by omega, by go_num, _, rfl⟩
      case measure => simp [intOf]; omega
    · go_wp2
      go_ret
      exact ⟨rfl, below_draws _ _⟩

/-- zzHasPrefix at a text that goes on from ps: true. -/
theorem prefix_any (a b : Option Addr) (N M ca cb : Nat) (ps ts : List Int) (hN : (ps ++ ts).length = N) (hM : ps.length = M) (hm : N ≤ maxLen) (w : World) (h1 : Rd w a (ps ++ ts)) (h2 : Rd w b ps) :
    Calls Tryd.prog 7 #[.slice a N ca, .slice b M cb] w fun e w' => e = .returned (.bool true) ∧ Below w.heap.size w w' := by
  have hle : M ≤ N := by rw [← hN, ← hM]; simp
  by_cases h0 : 0 < M
  · obtain ⟨b1, o1, rfl, c1⟩ := h1.form (by omega)
    obtain ⟨b2, o2, rfl, c2⟩ := h2.form (by omega)
    refine prefix_some b1 o1 b2 o2 N M ca cb (ps ++ ts) ps hN hM hle hm (fun k hk => ?_) w c1 c2
    simp [List.getD, List.getElem?_append_left (show k < ps.length by omega)]
  · have : M = 0 := by omega
    subst this
    exact prefix_nil a b N ca cb hm w

set_option maxHeartbeats 400000 in
theorem minus_some (b1 o1 b2 o2 M ca cb : Nat) (ts : List Int) (hM : ts.length = M) (hm : M ≤ 1099511627776) (w : World)
    (h1 : ∀ k, k < (45 :: ts).length → w.cell? ⟨b1, o1 + k, none⟩ = some (.int .u8 ((45 :: ts).getD k 0)))
    (h2 : ∀ k, k < ts.length → w.cell? ⟨b2, o2 + k, none⟩ = some (.int .u8 (ts.getD k 0))) :
    Calls Tryd.prog 11 #[.slice (some ⟨b1, o1, none⟩) (M + 1) ca, .slice (some ⟨b2, o2, none⟩) M cb] w fun e w' => e = .returned (.bool true) ∧ Below w.heap.size w w' := by
  have c0 := h1 0 (by simp)
  simp only [List.getD_cons_zero, Nat.add_zero] at c0
  have h1' : ∀ k, k < M → w.cell? ⟨b1, o1 + (k + 1), none⟩ = some (.int .u8 (ts.getD k 0)) := fun k hk => h1 (k + 1) (by simp; omega)
  rw [hM] at h2
  have H := hide (And.intro h1' h2)
  clear hM h1 h2 h1'
  go_enter Tryd.func11, Tryd.ntmps11
  go_wp2
  go_loopw [5] (fun i wr => ∃ k : Nat, k ≤ M ∧ i = .int .i64 k ∧ ∃ n, wr = w.drewN n) (fun i _ => M - (intOf i).toNat)
  case atStart => exact ⟨0, by omega, rfl, 0, rfl⟩
  case round =>
    obtain ⟨k, hk, rfl, n, rfl⟩ := hrel
    by_cases hlt : k < M
    · have c1 := H.out.1 k hlt
      have c2 := H.out.2 k hlt
      have hki : (k : Int) < (M : Int) := by omega
      obtain ⟨x, hx⟩ : ∃ x, ts.getD k 0 = x := ⟨_, rfl⟩
      rw [hx] at c1 c2
      clear hx
      go_wp2
      go_quiet (fail)
      go_wp2
      go_roundw
      case rel => exact ⟨k + 1, by omega, by go_num, _, rfl⟩
      case measure => simp [intOf]; omega
    · go_wp2
      go_ret
      exact ⟨rfl, below_draws _ _⟩

/-- zzIsMinusThen: true at '-' and ts. -/
theorem minus_any (a b : Option Addr) (N M ca cb : Nat) (ts : List Int) (hN : N = M + 1) (hM : ts.length = M) (h0 : 0 < M) (hm : M ≤ 1099511627776) (w : World) (h1 : Rd w a (45 :: ts)) (h2 : Rd w b ts) :
    Calls Tryd.prog 11 #[.slice a N ca, .slice b M cb] w fun e w' => e = .returned (.bool true) ∧ Below w.heap.size w w' := by
  obtain ⟨b1, o1, rfl, c1⟩ := h1.form (by simp)
  obtain ⟨b2, o2, rfl, c2⟩ := h2.form (by omega)
  subst hN
  exact minus_some b1 o1 b2 o2 M ca cb ts hM hm w c1 c2
end Go.Proofs.Qxb6615762aDoor.Help
