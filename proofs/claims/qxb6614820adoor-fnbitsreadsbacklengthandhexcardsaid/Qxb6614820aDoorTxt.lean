import Derived.Test.Qxb6614820aDoorBack
namespace Go.Proofs.Qxb6614820aDoor.Read
open Go.RowKit Go.Proofs.Qxb6614820aDoor.Eq Go.Proofs.Qxb6614820aDoor.Clone Go.Proofs.Qxb6614820aDoor.Wr Go.Proofs.Qxb6614820aDoor.Dec Go.Proofs.Qxb6614820aDoor.Plain Go.Proofs.Qxb6614820aDoor.Digs
set_option linter.unusedVariables false
set_option linter.unusedSimpArgs false

theorem at_app {a b : List Int} {n : Nat} (hn : a.length = n) (k : Nat) : (a ++ b)[n + k]? = b[k]? := by
  rw [List.getElem?_append_right (by omega), show n + k - a.length = k by omega]

theorem hx_at : ∀ (bs : List Int), Wr.Bytes bs → ∀ j, j < bs.length → (hx bs)[2 * j]? = some (hxd ((bs.getD j 0).toNat / 16)) ∧ (hx bs)[2 * j + 1]? = some (hxd ((bs.getD j 0).toNat % 16))
  | [], _, j, hj => absurd hj (by simp)
  | b :: t, hb, j, hj => by
    obtain ⟨h0, h1, ht⟩ := bytes_tail hb
    rw [hx_cons b t h0 h1]
    cases j with
    | zero => simp [List.getD]
    | succ j =>
      have := hx_at t ht j (by simpa using hj)
      simp only [List.getD_cons_succ]
      rw [show 2 * (j + 1) = 2 * j + 1 + 1 by omega, List.getElem?_cons_succ, List.getElem?_cons_succ, List.getElem?_cons_succ, List.getElem?_cons_succ]
      exact this

theorem head_at : ∀ j : Fin 10, headT[j.val]? = some ((headS.data.toList[j.val]?.getD 0).toNat : Int) := by decide
theorem mid_at : ∀ j : Fin 10, midT[j.val]? = some ((midS.data.toList[j.val]?.getD 0).toNat : Int) := by decide

theorem txt_of (sg ds bs : List Int) (S D : Nat) (neg : Bool) (dg : Nat → Nat) (hS : S = 10 + sg.length) (hD : ds.length = D) (hneg : neg = true → sg = [45]) (hdg : ∀ j, j < D → ds[j]? = some (48 + (dg j : Int))) (hb : Wr.Bytes bs) :
    Txt (headT ++ (sg ++ (ds ++ (midT ++ (hx bs ++ [34, 125]))))) bs S D neg dg := by
  have e1 : headT.length = 10 := rfl
  have e2 : midT.length = 10 := rfl
  have e3 := hx_length bs
  subst hS
  have q : ∀ k, (headT ++ (sg ++ (ds ++ (midT ++ (hx bs ++ [34, 125])))))[10 + sg.length + k]? = (ds ++ (midT ++ (hx bs ++ [34, 125])))[k]? := fun k => by
    rw [Nat.add_assoc, at_app e1, at_app rfl]
  have q2 : ∀ k, (headT ++ (sg ++ (ds ++ (midT ++ (hx bs ++ [34, 125])))))[10 + sg.length + D + k]? = (midT ++ (hx bs ++ [34, 125]))[k]? := fun k => by
    rw [Nat.add_assoc (10 + sg.length), q, at_app hD]
  have q3 : ∀ k, (headT ++ (sg ++ (ds ++ (midT ++ (hx bs ++ [34, 125])))))[10 + sg.length + D + 10 + k]? = (hx bs ++ [34, 125])[k]? := fun k => by
    rw [Nat.add_assoc (10 + sg.length + D), q2, at_app e2]
  refine ⟨?_, ?_, ?_, ?_, ?_, ?_, ?_, ?_, ?_, ?_⟩
  · simp [e1, e2, e3, hD]; omega
  · intro j hj
    rw [Nat.zero_add, List.getElem?_append_left (by rw [e1]; exact hj)]
    exact head_at ⟨j, hj⟩
  · intro hn
    rw [hneg hn]
    rfl
  · intro j hj
    rw [q, List.getElem?_append_left (by omega)]
    exact hdg j hj
  · have := q2 0
    simp only [Nat.add_zero] at this
    rw [this]
    rfl
  · intro j hj
    rw [q2, List.getElem?_append_left (by rw [e2]; exact hj)]
    exact mid_at ⟨j, hj⟩
  · intro j hj
    rw [q3, List.getElem?_append_left (by omega)]
    exact (hx_at bs hb j hj).1
  · intro j hj
    rw [Nat.add_assoc _ (2 * j) 1, q3, List.getElem?_append_left (by omega)]
    exact (hx_at bs hb j hj).2
  · have := q3 (2 * bs.length)
    rw [this, ← e3]
    simp
  · have := q3 (2 * bs.length + 1)
    rw [Nat.add_assoc _ (2 * bs.length) 1, this, ← e3]
    simp

/-- zzReadsBackBits at a text of Bits: true. -/
theorem readsBack_any (g o T ct : Nat) (bs : List Int) (n : Int) (h0 : -9223372036854775808 ≤ n) (h1 : n ≤ 9223372036854775807) (M : Nat) (ab : Option Addr) (cb : Nat) (hM : bs.length = M) (hMm : M ≤ 262144) (hbs : Bytes bs) (hT : (bt bs n).length = T) (w : World) (h : At w g o (bt bs n)) (hr : Rd w ab bs) :
    Calls Tryd.prog 21 #[.slice (some ⟨g, o, none⟩) T ct, .slice ab M cb, .int .i64 n] w fun e w' => e = .returned (.bool true) ∧ Below w.heap.size w w' := by
  have key : Calls Tryd.prog 21 #[.slice (some ⟨g, o, none⟩) T ct, .slice ab M cb, .int .i64 n] w fun e w' => e = .returned (.bool true) ∧ ∃ k, w' = w.drewN k := by
    by_cases hn : n < 0
    · obtain ⟨U, rfl⟩ : ∃ u : Nat, n = -(u : Int) := ⟨n.natAbs, by omega⟩
      obtain ⟨D, f, dg, hD, hD1, hD19, hf0, hfD, hf, hfU, hz⟩ := dec_run U
      refine readsBack_neg g o T ct _ bs D M U f dg ab cb hM hMm hbs hT ?_ (by omega) (by omega) hD1 (hD19 (by omega)) hf0 hfD (fun j hj => ⟨(hf j hj).1, (hf j hj).2.1⟩) hfU hz w h hr
      have := txt_of [45] (dec U) bs 11 D true dg rfl hD (fun _ => rfl) (fun j hj => (hf j hj).2.2) hbs
      unfold bt
      rw [num_neg U (by omega)]
      exact this
    · obtain ⟨U, rfl⟩ : ∃ u : Nat, n = (u : Int) := ⟨n.toNat, by omega⟩
      obtain ⟨D, f, dg, hD, hD1, hD19, hf0, hfD, hf, hfU, hz⟩ := dec_run U
      refine readsBack_pos g o T ct _ bs D M U f dg ab cb hM hMm hbs hT ?_ (by omega) hD1 (hD19 (by omega)) hf0 hfD (fun j hj => ⟨(hf j hj).1, (hf j hj).2.1⟩) hfU hz w h hr
      have := txt_of [] (dec U) bs 10 D false dg rfl hD (fun e => by cases e) (fun j hj => (hf j hj).2.2) hbs
      unfold bt
      rw [num_nonneg U]
      exact this
  refine key.mono ?_
  rintro e w' ⟨rfl, k, rfl⟩
  exact ⟨rfl, below_draws _ _⟩
end Go.Proofs.Qxb6614820aDoor.Read
