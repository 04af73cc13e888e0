import Derived.Test.Qxb6614820aDoorWrEnd
namespace Go.Proofs.Qxb6614820aDoor.Wr
open Go.RowKit Go.Proofs.Qxb6614820aDoor.Eq Go.Proofs.Qxb6614820aDoor.Clone
set_option linter.unusedVariables false
set_option linter.unusedSimpArgs false

theorem posCells_at : ∀ (ps : List (Bool × ByteArray × Int)) (k : Nat) (q : Bool × ByteArray × Int), ps[k]? = some q → (posCells ps)[k * 3]? = some (.bool q.1) ∧ (posCells ps)[k * 3 + 1]? = some (.string q.2.1) ∧ (posCells ps)[k * 3 + 2]? = some (.int .i64 q.2.2) := by
  intro ps
  induction ps with
  | nil => intro k q h; simp at h
  | cons a l ih =>
    intro k q h
    have e : posCells (a :: l) = .bool a.1 :: .string a.2.1 :: .int .i64 a.2.2 :: posCells l := rfl
    cases k with
    | zero =>
      simp at h
      subst h
      rw [e]
      exact ⟨rfl, rfl, rfl⟩
    | succ k =>
      have := ih k q (by simpa using h)
      rw [e, show (k + 1) * 3 = k * 3 + 1 + 1 + 1 by omega]
      simpa using this

/-- A position's three cells. -/
theorem at_cells {w : World} {B ga M capa : Nat} {ps : List (Bool × ByteArray × Int)} (h : w.ownsRow B 54 3 (.slice (some ⟨ga, 0, none⟩) M capa) M (posCells ps)) (k : Nat) (q : Bool × ByteArray × Int) (hq : ps[k]? = some q) (hk : k < M) :
    w.cell? ⟨ga, k * 3, none⟩ = some (.bool q.1) ∧ w.cell? ⟨ga, k * 3 + 1, none⟩ = some (.string q.2.1) ∧ w.cell? ⟨ga, k * 3 + 2, none⟩ = some (.int .i64 q.2.2) := by
  obtain ⟨h0, h1, h2⟩ := posCells_at ps k q hq
  rw [h.cellAt _ (by omega), h.cellAt _ (by omega), h.cellAt _ (by omega)]
  exact ⟨h0, h1, h2⟩

set_option maxHeartbeats 400000 in
theorem at_any (B p : Nat) (zs : List Int) (first : Bool) (ps : List (Bool × ByteArray × Int)) (k : Nat) (q : Bool × ByteArray × Int) (hq : ps[k]? = some q) (w : World) (h : Wr B p zs first ps w) :
    Calls Tryd.prog 32 #[.pointer (some ⟨p, 0, none⟩), .int .i64 k] w fun e w' => e = .returned (.tuple #[.bool q.1, .string q.2.1, .int .i64 q.2.2]) ∧ ∃ n, w' = w.drewN n := by
  obtain ⟨bv, av, h⟩ := h
  have hk : k < ps.length := (List.getElem?_eq_some_iff.1 hq).1
  obtain ⟨ga, capa, rfl, hc1, hc2⟩ := shape_some h.ao (by omega)
  have d4 := (cell_blk h.blk 4).1
  simp only [List.getElem?_toArray, List.getElem?_cons_zero, List.getElem?_cons_succ] at d4
  obtain ⟨x0, x1, x2⟩ := at_cells h.ao k q hq hk
  have hk1 : (k : Int) < (ps.length : Int) := by omega
  obtain ⟨qa, qn, qi⟩ := q
  clear h hq
  unfold maxLen at hc2
  generalize ps.length = M at *
  go_enter Tryd.func32, Tryd.ntmps32
  go_wp2
  go_quiet (fail)
  go_wp2
  go_ret3
  exact ⟨rfl, _, rfl⟩

theorem at_zero (B p : Nat) (zs : List Int) (first : Bool) (ps : List (Bool × ByteArray × Int)) (q : Bool × ByteArray × Int) (hq : ps[0]? = some q) (w : World) (h : Wr B p zs first ps w) :
    Calls Tryd.prog 32 #[.pointer (some ⟨p, 0, none⟩), .int .i64 0] w fun e w' => e = .returned (.tuple #[.bool q.1, .string q.2.1, .int .i64 q.2.2]) ∧ ∃ n, w' = w.drewN n :=
  at_any B p zs first ps 0 q hq w h

set_option maxHeartbeats 400000 in
/-- zzOuterIs at the position that the stack's bottom holds: true. -/
theorem outer_yes (B p : Nat) (zs : List Int) (first : Bool) (ps : List (Bool × ByteArray × Int)) (a : Bool) (nm : ByteArray) (ix : Int) (hq : ps[0]? = some (a, nm, ix)) (w : World) (h : Wr B p zs first ps w) :
    Calls Tryd.prog 22 #[.pointer (some ⟨p, 0, none⟩), .bool a, .string nm, .int .i64 ix] w fun e w' => e = .returned (.bool true) ∧ ∃ n, w' = w.drewN n := by
  have H := hide (at_zero B p zs first ps (a, nm, ix) hq w h)
  clear h hq
  have e1 : (nm.toList == nm.toList) = true := by simp
  go_enter Tryd.func22, Tryd.ntmps22
  go_wp2_with (go_at_call 32; refine H.out.mono ?_; rintro e w' ⟨rfl, n, rfl⟩)
  go_wp2
  go_ret
  exact ⟨rfl, _, rfl⟩

end Go.Proofs.Qxb6614820aDoor.Wr
