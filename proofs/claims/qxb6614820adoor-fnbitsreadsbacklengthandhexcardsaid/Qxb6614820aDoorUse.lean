import Derived.Test.Qxb6614820aDoorWrAt
namespace Go.Proofs.Qxb6614820aDoor.Wr
open Go.RowKit Go.Proofs.Qxb6614820aDoor.Eq Go.Proofs.Qxb6614820aDoor.Clone
set_option linter.unusedVariables false
set_option linter.unusedSimpArgs false

theorem below_draws (w : World) (n : Nat) : Below w.heap.size w (w.drewN n) := ⟨rfl, rfl, rfl, Nat.le_refl _, fun _ _ => rfl⟩

theorem rd_on {w w' : World} {a : Option Addr} {xs : List Int} (h : Rd w a xs) (hb : Below w.heap.size w w') : Rd w' a xs := by
  intro k hk
  obtain ⟨x, rfl, hc⟩ := h k hk
  exact ⟨x, rfl, by rw [hb.cell (p := x.add k) (World.block_lt_of_cell? w _ hc)]; exact hc⟩

theorem rd_low {w w' : World} {B : Nat} {a : Option Addr} {xs : List Int} {w0 : World} (h : Rd w0 a xs) (hB : B = w0.heap.size) (h0 : Rd w a xs) (hb : Below B w w') : Rd w' a xs := by
  intro k hk
  obtain ⟨x, rfl, hc⟩ := h k hk
  obtain ⟨y, hy, hd⟩ := h0 k hk
  cases hy
  exact ⟨x, rfl, by rw [hb.cell (p := x.add k) (by rw [hB]; exact World.block_lt_of_cell? w0 _ hc)]; exact hd⟩

theorem rd_prefix {w : World} {a : Option Addr} {xs ys : List Int} (h : Rd w a (xs ++ ys)) : Rd w a xs := by
  intro k hk
  obtain ⟨x, rfl, hc⟩ := h k (by simp; omega)
  refine ⟨x, rfl, ?_⟩
  rw [hc]
  simp [List.getD, List.getElem?_append_left hk]

theorem own_on {w w' : World} {B : Nat} {e : TypeId} {k n : Nat} {v : Value} {xs : List Value} (h : w.ownsRow B e k v n xs) (hb : Below w.heap.size w w') : w'.ownsRow B e k v n xs :=
  ownsRow_block h (fun g hg => hb.block g (h.lt g hg).2)

/-- zzEqualBytes, true; the world by what it keeps. -/
theorem eqY (a b : Option Addr) (n m ca cb : Nat) (xs : List Int) (hn : xs.length ≤ maxLen) (e1 : n = xs.length) (e2 : m = xs.length) (w : World) (h1 : Rd w a xs) (h2 : Rd w b xs) :
    Calls Tryd.prog 13 #[.slice a n ca, .slice b m cb] w fun e w' => e = .returned (.bool true) ∧ Below w.heap.size w w' := by
  refine (eq_yes a b n m ca cb xs hn w e1 e2 h1 h2).mono ?_
  rintro e w' ⟨rfl, k, rfl⟩
  exact ⟨rfl, below_draws _ _⟩

theorem outerY (B p : Nat) (zs : List Int) (first : Bool) (ps : List (Bool × ByteArray × Int)) (a : Bool) (nm : ByteArray) (ix : Int) (hq : ps[0]? = some (a, nm, ix)) (w : World) (h : Wr B p zs first ps w) :
    Calls Tryd.prog 22 #[.pointer (some ⟨p, 0, none⟩), .bool a, .string nm, .int .i64 ix] w fun e w' => e = .returned (.bool true) ∧ Below w.heap.size w w' := by
  refine (outer_yes B p zs first ps a nm ix hq w h).mono ?_
  rintro e w' ⟨rfl, k, rfl⟩
  exact ⟨rfl, below_draws _ _⟩

theorem atY (B p : Nat) (zs : List Int) (first : Bool) (ps : List (Bool × ByteArray × Int)) (k : Nat) (K : Int) (hK : K = k) (a : Bool) (nm : ByteArray) (ix : Int) (hq : ps[k]? = some (a, nm, ix)) (w : World) (h : Wr B p zs first ps w) :
    Calls Tryd.prog 32 #[.pointer (some ⟨p, 0, none⟩), .int .i64 K] w fun e w' => e = .returned (.tuple #[.bool a, .string nm, .int .i64 ix]) ∧ Below w.heap.size w w' := by
  subst hK
  refine (at_any B p zs first ps k (a, nm, ix) hq w h).mono ?_
  rintro e w' ⟨rfl, k, rfl⟩
  exact ⟨rfl, below_draws _ _⟩

theorem atLenY (B p : Nat) (zs : List Int) (first : Bool) (ps : List (Bool × ByteArray × Int)) (M : Int) (hM : (ps.length : Int) = M) (w : World) (h : Wr B p zs first ps w) :
    Calls Tryd.prog 15 #[.pointer (some ⟨p, 0, none⟩)] w fun e w' => e = .returned (.int .i64 M) ∧ w' = w := by
  subst hM
  exact atLen B p zs first ps w h

theorem bytesY (B p : Nat) (zs : List Int) (first : Bool) (ps : List (Bool × ByteArray × Int)) (N : Nat) (hN : zs.length = N) (w : World) (h : Wr B p zs first ps w) :
    Calls Tryd.prog 14 #[.pointer (some ⟨p, 0, none⟩)] w fun e w' => ∃ ao cap, e = .returned (.slice ao N cap) ∧ w' = w ∧ w.ownsRow B 5 1 (.slice ao N cap) N (zs.map (Value.int .u8)) := by
  subst hN
  exact bytes_any B p zs first ps w h

/-- .. where something is held. -/
theorem bytesS (B p : Nat) (zs : List Int) (first : Bool) (ps : List (Bool × ByteArray × Int)) (N : Nat) (hN : zs.length = N) (hpos : 0 < N) (w : World) (h : Wr B p zs first ps w) :
    Calls Tryd.prog 14 #[.pointer (some ⟨p, 0, none⟩)] w fun e w' => ∃ g cap, e = .returned (.slice (some ⟨g, 0, none⟩) N cap) ∧ w' = w ∧ w.ownsRow B 5 1 (.slice (some ⟨g, 0, none⟩) N cap) N (zs.map (Value.int .u8)) ∧ N ≤ cap ∧ cap ≤ maxLen := by
  refine (bytesY B p zs first ps N hN w h).mono ?_
  rintro e w' ⟨ao, cap, rfl, rfl, ho⟩
  obtain ⟨g, cap', h1, h2, h3⟩ := shape_some ho hpos
  cases h1
  exact ⟨g, cap, rfl, rfl, ho, h2, h3⟩

theorem byte_at {w : World} {B g N cap : Nat} {zs : List Int} (h : w.ownsRow B 5 1 (.slice (some ⟨g, 0, none⟩) N cap) N (zs.map (Value.int .u8))) (k : Nat) (c : Int) (hk : zs[k]? = some c) : w.cell? ⟨g, k, none⟩ = some (.int .u8 c) := by
  have hl := h.1
  simp at hl
  have hlt := (List.getElem?_eq_some_iff.1 hk).1
  rw [h.cellAt k (by omega), List.getElem?_map, hk]
  rfl

end Go.Proofs.Qxb6614820aDoor.Wr
