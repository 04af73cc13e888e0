import Derived.Test.Qxb6615762aDoorParse
namespace Go.Proofs.Qxb6615762aDoor.Help
open Go.RowKit Go.Proofs.Qxb6615762aDoor.Eq Go.Proofs.Qxb6615762aDoor.Clone Go.Proofs.Qxb6615762aDoor.Dec Go.Proofs.Qxb6615762aDoor.App Go.Proofs.Qxb6615762aDoor.Digs
set_option linter.unusedVariables false
set_option linter.unusedSimpArgs false

theorem num_pos (x : Int) : 0 < (num x).length := by
  by_cases h : x < 0
  · obtain ⟨u, rfl⟩ : ∃ u : Nat, x = -(u : Int) := ⟨x.natAbs, by omega⟩
    rw [num_neg u (by omega)]; simp
  · obtain ⟨u, rfl⟩ : ∃ u : Nat, x = (u : Int) := ⟨x.toNat, by omega⟩
    rw [num_nonneg]
    rcases hd : dec u with _ | ⟨c, l⟩
    · exact absurd hd (dec_ne _)
    · simp

/-- zzParseCanonical at the numeral of x. -/
theorem parse_any (g L ct : Nat) (x : Int) (h0 : -9223372036854775808 ≤ x) (h1 : x ≤ 9223372036854775807) (U : Nat) (hU : x.natAbs = U) (NA : Bool) (hNA : decide (x < 0) = NA) (hL : (num x).length = L) (hct : L ≤ ct) (hcm : ct ≤ maxLen) (w : World)
    (h : ∀ k c, (num x)[k]? = some c → w.cell? ⟨g, k, none⟩ = some (.int .u8 c)) :
    Calls Tryd.prog 8 #[.slice (some ⟨g, 0, none⟩) L ct] w fun e w' => e = .returned (.tuple #[.int .u64 U, .bool NA, .bool true]) ∧ Below w.heap.size w w' := by
  unfold maxLen at hcm
  subst hNA
  obtain ⟨D, f, dg, hD, hD1, hD19, hf0, hfD, hf, hfU, hz⟩ := dec_run U
  by_cases hn : x < 0
  · obtain rfl : x = -(U : Int) := by omega
    rw [num_neg U (by omega)] at hL h
    rw [decide_eq_true hn]
    obtain rfl : L = D + 1 := by rw [← hL, ← hD]; simp
    exact parse_neg g ct D U f dg (by omega) (by omega) hD1 (hD19 (by omega)) hct (by omega) hf0 hfD (fun j hj => ⟨(hf j hj).1, (hf j hj).2.1⟩) hfU hz w (h 0 _ rfl) (fun j hj => by
      have := h (1 + j) (48 + (dg j : Int)) (by rw [Nat.add_comm, List.getElem?_cons_succ]; exact (hf j hj).2.2)
      exact this)
  · obtain rfl : x = (U : Int) := by omega
    rw [num_nonneg U] at hL h
    rw [decide_eq_false hn]
    obtain rfl : L = D := by rw [← hL, ← hD]
    exact parse_pos g ct L U f dg (by omega) hD1 (hD19 (by omega)) hf0 hfD (fun j hj => ⟨(hf j hj).1, (hf j hj).2.1⟩) hfU hz w (fun j hj => h j _ (hf j hj).2.2)

theorem own_block {w w' : World} {B : Nat} {e : TypeId} {k n : Nat} {v : Value} {xs : List Value} (h : w.ownsRow B e k v n xs) (hb : ∀ g, v.ownBlock = some g → w'.heap[g]? = w.heap[g]?) : w'.ownsRow B e k v n xs := by
  refine ⟨h.1, ?_⟩
  rcases h.2 with h0 | ⟨g, cap, cur, rfl, hB, hg, r⟩
  · exact .inl h0
  · exact .inr ⟨g, cap, cur, rfl, hB, by rw [hb g rfl]; exact hg, r⟩

theorem own_on {w w' : World} {B : Nat} {e : TypeId} {k n : Nat} {v : Value} {xs : List Value} (h : w.ownsRow B e k v n xs) (hb : Below w.heap.size w w') : w'.ownsRow B e k v n xs :=
  own_block h (fun g hg => hb.block g (h.lt g hg).2)

/-- A row of a later base is kept by what grows an earlier row. -/
theorem own_far {w0 w w' : World} {B' : Nat} {n m : Nat} {v s : Value} {xs ys : List Value} (hs : w0.ownsRow B' 5 1 s m ys) (h : w.ownsRow w0.heap.size 5 1 v n xs) (hg : w.grownBy w' s.ownBlock) : w'.ownsRow w0.heap.size 5 1 v n xs :=
  own_block h (fun g hv => hg.block g (h.lt g hv).2 (fun e => by
    have h1 := (hs.lt g e.symm).2
    have h2 := (h.lt g hv).1
    omega))

theorem own_some {w : World} {B : Nat} {e : TypeId} {k n : Nat} {v : Value} {xs : List Value} (hv : w.ownsRow B e k v n xs) (hn : 0 < n) : ∃ g cap, v = .slice (some ⟨g, 0, none⟩) n cap ∧ n ≤ cap ∧ cap ≤ maxLen := by
  rcases hv.2 with ⟨rfl, rfl⟩ | ⟨g, cap, cur, rfl, _, _, h1, h2, _⟩
  · omega
  · exact ⟨g, cap, rfl, h1, h2⟩

theorem own_nil {w : World} {B : Nat} {e : TypeId} {k n cap : Nat} {ao : Option Addr} {xs : List Value} (hv : w.ownsRow B e k (.slice ao n cap) n xs) : ao = none → n = 0 ∧ cap = 0 := by
  rintro rfl
  rcases hv.2 with ⟨h, h2⟩ | ⟨g, cap, cur, h, _⟩
  · cases h; exact ⟨rfl, rfl⟩
  · cases h

theorem rd_own {w : World} {B : Nat} {ao : Option Addr} {n cap : Nat} {zs : List Int} (h : w.ownsRow B 5 1 (.slice ao n cap) n (zs.map (Value.int .u8))) : Rd w ao zs := by
  intro k hk
  rcases h.2 with ⟨h0, hn⟩ | ⟨g, cap', cur, h0, hb, hg, h1, h2, h3, h4⟩
  · have := h.1
    simp [hn] at this
    subst this
    simp at hk
  · cases h0
    refine ⟨_, rfl, ?_⟩
    refine h.cells (g := g) rfl k _ ?_
    simp [List.getD, hk]

theorem byte_at {w : World} {B g N cap : Nat} {zs : List Int} (h : w.ownsRow B 5 1 (.slice (some ⟨g, 0, none⟩) N cap) N (zs.map (Value.int .u8))) (k : Nat) (c : Int) (hk : zs[k]? = some c) : w.cell? ⟨g, k, none⟩ = some (.int .u8 c) := by
  have hl := h.1
  simp at hl
  have hlt := (List.getElem?_eq_some_iff.1 hk).1
  rw [h.cellAt k (by omega), List.getElem?_map, hk]
  rfl

theorem rd_right {w : World} {B g N cap o : Nat} {xs ts : List Int} (h : w.ownsRow B 5 1 (.slice (some ⟨g, 0, none⟩) N cap) N ((xs ++ ts).map (Value.int .u8))) (ho : xs.length = o) : Rd w (some ⟨g, o, none⟩) ts := fun k hk => by
  refine ⟨_, rfl, ?_⟩
  rw [Addr.add_lit]
  refine byte_at h (o + k) _ ?_
  rw [List.getElem?_append_right (by omega), show o + k - xs.length = k by omega]
  simp [List.getD, hk]

/-- zzEqual, true. -/
theorem eqY (a b : Option Addr) (n m ca cb : Nat) (xs : List Int) (hn : xs.length ≤ maxLen) (e1 : n = xs.length) (e2 : m = xs.length) (w : World) (h1 : Rd w a xs) (h2 : Rd w b xs) :
    Calls Tryd.prog 10 #[.slice a n ca, .slice b m cb] w fun e w' => e = .returned (.bool true) ∧ Below w.heap.size w w' := by
  refine (eq_yes a b n m ca cb xs hn w e1 e2 h1 h2).mono ?_
  rintro e w' ⟨rfl, k, rfl⟩
  exact ⟨rfl, below_draws _ _⟩

/-- sql.ZZoutputInteger onto nil. -/
theorem out_nil (x : Int) (h0 : -9223372036854775808 ≤ x) (h1 : x ≤ 9223372036854775807) (L : Nat) (hL : (num x).length = L) (w : World) (htab : Tab w.heap.size w) :
    Calls Tryd.prog 6 #[.slice none 0 0, .int .i64 x] w fun e w' => ∃ g cap, e = .returned (.slice (some ⟨g, 0, none⟩) L cap) ∧ w'.ownsRow w.heap.size 5 1 (.slice (some ⟨g, 0, none⟩) L cap) L ((num x).map (Value.int .u8)) ∧ Below w.heap.size w w' := by
  refine (out_any w.heap.size [] x h0 h1 0 rfl (.slice none 0 0) w (World.ownsRow_nil _ _ _ _) (Nat.le_refl _) (by omega) htab).mono ?_
  rintro e w' ⟨v, rfl, ho, hg⟩
  rw [List.nil_append, Nat.zero_add, hL] at ho
  obtain ⟨g, cap, rfl, _⟩ := own_some ho (by rw [← hL]; exact num_pos x)
  exact ⟨g, cap, rfl, ho, below_grown (World.ownsRow_nil _ _ _ _) (Nat.le_refl _) hg⟩

end Go.Proofs.Qxb6615762aDoor.Help
