import Derived.Test.Qxb6614820aElem
namespace Go.Proofs.Qxb6614820a.ElemLaw
open Go.RowKit Go.Proofs.Qxb6614820a.Eq Go.Proofs.Qxb6614820a.Clone Go.Proofs.Qxb6614820a.Wr
set_option linter.unusedVariables false
set_option linter.unusedSimpArgs false

/-- The commas behind i calls of Element. -/
def cm (first : Bool) (i : Nat) : List Int := List.replicate (if first then i - 1 else i) 44
/-- 'first' behind i calls of Element. -/
def fl (first : Bool) (i : Nat) : Bool := first && decide (i = 0)

theorem elem_step (B p : Nat) (xs : List Int) (first : Bool) (i : Nat) (a : Bool) (nm : ByteArray) (ix : Int) (hi0 : -1 ≤ ix) (hi1 : ix + i < 9223372036854775807) (hz : xs.length ≤ 1048576) (hi : i ≤ 65536) (w : World)
    (h : Wr B p (xs ++ cm first i) (fl first i) [(a, nm, ix + i)] w) :
    Calls Try.prog 30 #[.pointer (some ⟨p, 0, none⟩)] w fun e w' => e = .returned (.tuple #[]) ∧ Wr B p (xs ++ cm first (i + 1)) (fl first (i + 1)) [(a, nm, ix + (i + 1 : Nat))] w' ∧ Below B w w' := by
  have e1 : ix + ((i + 1 : Nat) : Int) = ix + i + 1 := by omega
  rw [e1]
  have hl : (xs ++ cm first i).length ≤ 1099511627776 := by
    unfold cm
    cases first <;> simp <;> omega
  by_cases hf : fl first i = true
  · rw [hf] at h
    have h2 : first = true ∧ i = 0 := by unfold fl at hf; simpa using hf
    obtain ⟨rfl, rfl⟩ := h2
    have e2 : cm true (0 + 1) = cm true 0 := rfl
    have e3 : fl true (0 + 1) = false := rfl
    rw [e2, e3]
    exact elem_first B p _ [] a nm _ (by omega) (by omega) w h
  · have hf' : fl first i = false := by simpa using hf
    rw [hf'] at h
    have e2 : cm first (i + 1) = cm first i ++ [44] := by
      unfold cm
      rw [← List.replicate_succ']
      congr 1
      unfold fl at hf'
      cases first
      · simp
      · simp at hf'
        simp
        omega
    have e3 : fl first (i + 1) = false := by unfold fl; simp
    rw [e2, e3, ← List.append_assoc]
    exact elem_more B p _ [] a nm _ (by omega) (by omega) hl w h

set_option maxHeartbeats 1000000 in
set_option maxRecDepth 100000 in
theorem walk_out (a0 : Option Addr) (len0 cap0 : Nat) (a1 a2 : Bool) (a3 : ByteArray) (a4 a5 : Int) (w : World) (hl : len0 ≤ maxLen) (w3 : a3.size ≤ maxLen) (b4 : -9223372036854775808 ≤ a4 ∧ a4 ≤ 9223372036854775807)
    (h : ¬ (len0 ≤ 1048576 ∧ a3.size ≤ 65536 ∧ len0 + a3.size ≤ 1048576 ∧ 0 ≤ a5 ∧ a5 ≤ 65536 ∧ -1 ≤ a4 ∧ (a1 = true → a4 = -1) ∧ a4 ≤ 9223372036854775807 - a5)) :
    Calls Try.prog 6 #[.slice a0 len0 cap0, .bool a1, .bool a2, .string a3, .int .i64 a4, .int .i64 a5] w fun e w' => e = .returned (.bool true) ∧ w' = w := by
  unfold maxLen at hl w3
  by_cases h1 : len0 ≤ 1048576
  · by_cases h2 : a3.size ≤ 1048576
    · by_cases h3 : len0 + a3.size ≤ 1048576
      · by_cases h4 : a3.size ≤ 65536
        · by_cases h9 : 0 ≤ a5
          · by_cases h10 : a5 ≤ 65536
            · by_cases h5 : -1 ≤ a4
              · by_cases h6 : a1 = true ∧ a4 ≠ -1
                · obtain ⟨rfl, h7⟩ := h6
                  have h8 : (a4 != -1) = true := by simpa using h7
                  clear h
                  go_enter Try.func6, Try.ntmps6
                  go_wp2
                  go_ret
                  exact ⟨rfl, rfl⟩
                · have h11 : 9223372036854775807 - a5 < a4 := by
                    apply Classical.byContradiction
                    intro hc
                    exact h ⟨h1, h4, h3, h9, h10, h5, fun e => Classical.byContradiction fun hn => h6 ⟨e, hn⟩, by omega⟩
                  have h12 : a1 = false := by
                    cases a1
                    · rfl
                    · exact absurd ⟨rfl, by omega⟩ h6
                  subst h12
                  clear h h6
                  go_enter Try.func6, Try.ntmps6
                  go_wp2
                  go_ret
                  exact ⟨rfl, rfl⟩
              · clear h
                go_enter Try.func6, Try.ntmps6
                go_wp2
                go_ret
                exact ⟨rfl, rfl⟩
            · clear h
              go_enter Try.func6, Try.ntmps6
              go_wp2
              go_ret
              exact ⟨rfl, rfl⟩
          · clear h
            go_enter Try.func6, Try.ntmps6
            go_wp2
            go_ret
            exact ⟨rfl, rfl⟩
        · clear h
          go_enter Try.func6, Try.ntmps6
          go_wp2
          go_ret
          exact ⟨rfl, rfl⟩
      · clear h
        go_enter Try.func6, Try.ntmps6
        go_wp2
        go_ret
        exact ⟨rfl, rfl⟩
    · clear h
      go_enter Try.func6, Try.ntmps6
      go_wp2
      go_ret
      exact ⟨rfl, rfl⟩
  · clear h
    go_enter Try.func6, Try.ntmps6
    go_wp2
    go_ret
    exact ⟨rfl, rfl⟩
end Go.Proofs.Qxb6614820a.ElemLaw
