import Derived.Test.Qxb6614820aDoorUse
import Derived.Test.Qxb6614820aDoorDec
namespace Go.Proofs.Qxb6614820aDoor.App
open Go.RowKit Go.Proofs.Qxb6614820aDoor.Eq Go.Proofs.Qxb6614820aDoor.Clone Go.Proofs.Qxb6614820aDoor.Wr Go.Proofs.Qxb6614820aDoor.Dec
set_option linter.unusedVariables false
set_option linter.unusedSimpArgs false

/-- What the loop of zzAppendInt keeps: the digits of U are those of m and, behind them, those that lie in the array from place k on. -/
structure St (U k m : Nat) (cs : Array Value) (l : List Int) : Prop where
  k1 : 1 ≤ k
  k20 : k ≤ 20
  room : m < 10 ^ k
  sz : cs.size = 20
  len : l.length + k = 20
  at_ : ∀ j c, l[j]? = some c → cs[k + j]? = some (.int .u8 c)
  digits : dec U = dec m ++ l

theorem St.two {U k m : Nat} {cs : Array Value} {l : List Int} (h : St U k m cs l) (hm : 10 ≤ m) : 2 ≤ k := by
  rcases Nat.lt_or_ge k 2 with h2 | h2
  · have : k = 1 := by have := h.k1; omega
    have hr := h.room
    rw [this] at hr
    omega
  · exact h2

theorem St.step {U k m : Nat} {cs : Array Value} {l : List Int} (h : St U (k + 1) m cs l) (hm : 10 ≤ m) : St U k (m / 10) (cs.setIfInBounds k (.int .u8 (48 + (m : Int) % 10))) ((48 + (m : Int) % 10) :: l) := by
  have h2 := h.two hm
  refine ⟨by omega, by have := h.k20; omega, ?_, by simp [h.sz], by have := h.len; simp; omega, ?_, ?_⟩
  · have hr := h.room
    rw [Nat.pow_succ] at hr
    omega
  · intro j c hj
    cases j with
    | zero =>
      simp at hj
      subst hj
      have h20 := h.k20
      simp only [Nat.add_zero]
      rw [Array.getElem?_setIfInBounds_self_of_lt (by rw [h.sz]; omega)]
    | succ j =>
      have h3 := h.at_ j c (by simpa using hj)
      rw [show k + (j + 1) = k + 1 + j by omega]
      rw [Array.getElem?_setIfInBounds_ne (by omega)]
      exact h3
  · rw [h.digits, dec_big m (by omega)]
    simp

theorem St.last {U k m : Nat} {cs : Array Value} {l : List Int} (h : St U (k + 1) m cs l) (hm : m < 10) : (cs.setIfInBounds k (.int .u8 (48 + (m : Int)))).size = 20 ∧ (dec U).length + k = 20 ∧ ∀ j c, (dec U)[j]? = some c → (cs.setIfInBounds k (.int .u8 (48 + (m : Int))))[k + j]? = some (.int .u8 c) := by
  have e : dec U = (48 + (m : Int)) :: l := by rw [h.digits, dec_small m hm]; rfl
  refine ⟨by simp [h.sz], by rw [e]; have := h.len; simp; omega, ?_⟩
  rw [e]
  intro j c hj
  cases j with
  | zero =>
    simp at hj
    subst hj
    have h20 := h.k20
    simp only [Nat.add_zero]
    rw [Array.getElem?_setIfInBounds_self_of_lt (by rw [h.sz]; omega)]
  | succ j =>
    have h3 := h.at_ j c (by simpa using hj)
    rw [show k + (j + 1) = k + 1 + j by omega]
    rw [Array.getElem?_setIfInBounds_ne (by omega)]
    exact h3

/-- 'buf[i:]'. -/
theorem sl_tail (g k : Nat) (hk : k ≤ 19) (W : World) : (Instr.sliceAt 57 (.pointer (some ⟨g, 0, none⟩)) (some (.int .i64 (k : Int))) none none).run Tryd.prog W = .ok (.slice (some ⟨g, k, none⟩) (20 - k) (20 - k)) W := by
  have hal : Tryd.prog.arrayLen 57 = 20 := by simp [Program.arrayLen, Tryd.underlying57]
  rw [run_sliceAt_array_l W 57 ⟨g, 0, none⟩ (by simp [Program.arrayLen, Program.elem, Tryd.underlying57]) .i64 (k : Int) (by omega) (by rw [hal]; omega)]
  have h2 : ¬ 20 = k := by omega
  have h3 : ¬ 20 - k = 0 := by omega
  go_simp

theorem news_tail (w : World) (cs : Array Value) (k : Nat) (l : List Int) (h : ∀ j c, l[j]? = some c → cs[k + j]? = some (.int .u8 c)) :
    ∀ j u, (l.map (Value.int .u8))[j]? = some u → (w.alloc (.cells cs 57)).cell? ((⟨w.heap.size, k, none⟩ : Addr).add j) = some u := by
  intro j u hu
  rw [List.getElem?_map] at hu
  cases hl : l[j]? with
  | none => rw [hl] at hu; cases hu
  | some c =>
    rw [hl] at hu
    cases hu
    rw [Addr.add_lit, World.cell?_alloc_new]
    exact h j c hl

set_option maxHeartbeats 400000 in
set_option maxRecDepth 100000 in
theorem app_nonneg (B : Nat) (sv : Value) (zs : List Int) (U : Nat) (hU : U ≤ 9223372036854775807) (w : World) (hB : B ≤ w.heap.size) (hown : w.ownsRow B 5 1 sv zs.length (zs.map (Value.int .u8))) (hz : zs.length ≤ 1099511627776) :
    Calls Tryd.prog 12 #[sv, .int .i64 U] w fun e w' => ∃ v', e = .returned v' ∧ w'.ownsRow B 5 1 v' (zs ++ dec U).length ((zs ++ dec U).map (Value.int .u8)) ∧ Below B w w' := by
  obtain ⟨i5, hi5, hz50, hz51, hz52⟩ := info_parts info5
  obtain ⟨ao, cap, rfl⟩ := Wr.shape hown
  have HO := hide hown
  have hw : IntKind.u64.wrap (U : Int) = (U : Int) := by rw [IntKind.wrap_u64]; omega
  clear hown
  generalize hN : zs.length = N at *
  have HN := hide hN
  clear hN
  go_enter Tryd.func12, Tryd.ntmps12
  go_wp2
  go_loopw [6, 7] (fun i u wr => ∃ (k m : Nat) (cs : Array Value) (l : List Int), i = .int .i64 k ∧ u = .int .u64 m ∧ m ≤ 9223372036854775807 ∧ St U k m cs l ∧ wr = w.alloc (.cells cs 57)) (fun _ u _ => (intOf u).toNat)
  case atStart =>
    exact ⟨20, U, _, [], rfl, rfl, hU, ⟨by omega, by omega, by omega, rfl, rfl, fun j c h => by simp at h, by simp⟩, rfl⟩
  case round =>
    obtain ⟨k, m, cs, l, rfl, rfl, hm, hst, rfl⟩ := hrel
    have h1 := hst.k1
    have h20 := hst.k20
    have hsz := hst.sz
    obtain ⟨k, rfl⟩ : ∃ k0, k = k0 + 1 := ⟨k - 1, by omega⟩
    obtain ⟨v0, hv0⟩ : ∃ v0, cs[k]? = some v0 := ⟨cs[k]'(by omega), by rw [Array.getElem?_eq_getElem (by omega)]⟩
    have HST := hide hst
    clear hst
    by_cases hlt : 10 ≤ m
    · have hk : (k : Int) < 20 := by omega
      have hmm : (10 : Int) ≤ (m : Int) := by omega
      go_wp2
      go_roundw
      case rel => exact ⟨k, m / 10, _, _, rfl, by go_num, by omega, HST.out.step hlt, rfl⟩
      case measure => simp [intOf]; omega
    · have hmm : (m : Int) < 10 := by omega
      have hk : (k : Int) < 20 := by omega
      obtain ⟨q1, q2, q3⟩ := HST.out.last (by omega)
      have hk2 : k ≤ 19 := by omega
      have hsl := fun W => sl_tail w.heap.size k hk2 W
      have hlen : ((dec U).map (Value.int .u8)).length = (20 - k) * 1 := by rw [List.length_map]; omega
      have HQ := hide (And.intro hlen (And.intro (news_tail w _ k (dec U) q3) (And.intro (ints_oneCell .u8 (dec U)) q2)))
      clear q1 q2 q3 hlen
      go_wp2_with (at_builtin; refine wpList_append_own _ rfl _ _ 28 rfl B 5 i5 (.int .u8 0) 1 1 Tryd.underlying28 hi5 hz50 hz51 hz52 rfl (by decide) _ _ _ rfl (HO.out.alloc _) ⟨w.heap.size, k, none⟩ (20 - k) (20 - k) ((dec U).map (Value.int .u8)) rfl HQ.out.1 HQ.out.2.1 HQ.out.2.2.1 (by unfold maxLen; omega) (by omega) (by rw [World.size_alloc]; omega) ?_)
      intro v1 w1 hown1 hgrow1 hat1
      have hfin : Hid (w1.ownsRow B 5 1 v1 (zs ++ dec U).length ((zs ++ dec U).map (Value.int .u8)) ∧ Below B w w1) := by
        refine ⟨?_, ((Below.refl B w).alloc hB _).grown hgrow1 (by rw [World.size_alloc]; omega) (fun k hk => (HO.out.lt k hk).1)⟩
        rw [List.map_append, List.length_append, HN.out, show (dec U).length = 20 - k by have := HQ.out.2.2.2; omega]
        exact hown1
      clear hown1 hgrow1 hat1
      go_wp2
      go_ret
      exact ⟨_, rfl, hfin.out.1, hfin.out.2⟩

set_option maxHeartbeats 400000 in
set_option maxRecDepth 100000 in
theorem app_neg (B : Nat) (sv : Value) (zs : List Int) (U : Nat) (hU1 : 1 ≤ U) (hU : U ≤ 9223372036854775808) (w : World) (hB : B ≤ w.heap.size) (hown : w.ownsRow B 5 1 sv zs.length (zs.map (Value.int .u8))) (hz : zs.length ≤ 1099511627776) :
    Calls Tryd.prog 12 #[sv, .int .i64 (-(U : Int))] w fun e w' => ∃ v', e = .returned v' ∧ w'.ownsRow B 5 1 v' (zs ++ 45 :: dec U).length ((zs ++ 45 :: dec U).map (Value.int .u8)) ∧ Below B w w' := by
  obtain ⟨i5, hi5, hz50, hz51, hz52⟩ := info_parts info5
  obtain ⟨ao, cap, rfl⟩ := Wr.shape hown
  have HO := hide hown
  obtain ⟨X, hX⟩ : ∃ X, IntKind.u64.wrap (-(U : Int)) = X := ⟨_, rfl⟩
  have hw : IntKind.u64.wrap (-X) = (U : Int) := by rw [← hX, IntKind.wrap_u64, IntKind.wrap_u64]; omega
  have hneg : -(U : Int) < 0 := by omega
  clear hown
  generalize hN : zs.length = N at *
  have HN := hide hN
  clear hN
  go_enter Tryd.func12, Tryd.ntmps12
  go_wp2
  go_loopw [6, 7] (fun i u wr => ∃ (k m : Nat) (cs : Array Value) (l : List Int), i = .int .i64 k ∧ u = .int .u64 m ∧ m ≤ 9223372036854775808 ∧ St U k m cs l ∧ wr = w.alloc (.cells cs 57)) (fun _ u _ => (intOf u).toNat)
  case atStart =>
    exact ⟨20, U, _, [], rfl, rfl, hU, ⟨by omega, by omega, by omega, rfl, rfl, fun j c h => by simp at h, by simp⟩, rfl⟩
  case round =>
    clear hX hw
    obtain ⟨k, m, cs, l, rfl, rfl, hm, hst, rfl⟩ := hrel
    have h1 := hst.k1
    have h20 := hst.k20
    have hsz := hst.sz
    obtain ⟨k, rfl⟩ : ∃ k0, k = k0 + 1 := ⟨k - 1, by omega⟩
    obtain ⟨v0, hv0⟩ : ∃ v0, cs[k]? = some v0 := ⟨cs[k]'(by omega), by rw [Array.getElem?_eq_getElem (by omega)]⟩
    have HST := hide hst
    clear hst
    by_cases hlt : 10 ≤ m
    · have hk : (k : Int) < 20 := by omega
      have hmm : (10 : Int) ≤ (m : Int) := by omega
      go_wp2
      go_roundw
      case rel => exact ⟨k, m / 10, _, _, rfl, by go_num, by omega, HST.out.step hlt, rfl⟩
      case measure => simp [intOf]; omega
    · have hmm : (m : Int) < 10 := by omega
      have hk : (k : Int) < 20 := by omega
      obtain ⟨q1, q2, q3⟩ := HST.out.last (by omega)
      have hk2 : k ≤ 19 := by omega
      have hsl := fun W => sl_tail w.heap.size k hk2 W
      have hlen : ((dec U).map (Value.int .u8)).length = (20 - k) * 1 := by rw [List.length_map]; omega
      have HQ := hide (And.intro hlen (And.intro (news_tail w _ k (dec U) q3) (And.intro (ints_oneCell .u8 (dec U)) q2)))
      clear q1 q2 q3 hlen
      go_wp2_with (at_builtin; refine wpList_append_lies _ rfl _ _ 28 rfl B 5 i5 (.int .u8 0) 1 1 Tryd.underlying28 hi5 hz50 hz51 hz52 rfl (by decide) _ _ _ rfl ((HO.out.alloc _).alloc _) ⟨w.heap.size + 1, 0, none⟩ 1 1 [Value.int .u8 45] rfl rfl ?q1 (by intro u hu; simp at hu; subst hu; rfl) (by omega) (by unfold maxLen; omega) (by omega) (by rw [World.size_alloc, World.size_alloc]; omega) (w.heap.size + 2) (by rw [World.size_alloc, World.size_alloc]) ?_)
      case q1 =>
        rw [← World.size_alloc w (.cells (cs.setIfInBounds k (.int .u8 (48 + (m : Int)))) 57)]
        exact cell_one_new _ _ _
      intro g cap1 w1 hown1 hgrow1 hat1 hlt1
      have hblk : ∀ j u, ((dec U).map (Value.int .u8))[j]? = some u → w1.cell? ((⟨w.heap.size, k, none⟩ : Addr).add j) = some u := by
        intro j u hu
        have h5 := HQ.out.2.1 j u hu
        rw [Addr.add_lit] at h5 ⊢
        refine hgrow1.cell (by rw [World.cell?_alloc_past _ _ _ (by rw [World.size_alloc]; omega)]; exact h5) ?_
        intro hc
        have h6 := (HO.out.lt w.heap.size hc.symm).2
        omega
      have hb1 : Below B w w1 := (((Below.refl B w).alloc hB _).alloc (by rw [World.size_alloc]; omega) _).grown hgrow1 (by rw [World.size_alloc, World.size_alloc]; omega) (fun k hk => (HO.out.lt k hk).1)
      have HA := hide (And.intro hown1 (And.intro hblk hb1))
      have hB1 : B ≤ w1.heap.size := by have := hb1.size; omega
      clear hown1 hgrow1 hat1 hblk hb1
      go_wp2_with (at_builtin; refine wpList_append_own _ rfl _ _ 28 rfl B 5 i5 (.int .u8 0) 1 1 Tryd.underlying28 hi5 hz50 hz51 hz52 rfl (by decide) _ _ _ rfl HA.out.1 ⟨w.heap.size, k, none⟩ (20 - k) (20 - k) ((dec U).map (Value.int .u8)) rfl HQ.out.1 HA.out.2.1 HQ.out.2.2.1 (by unfold maxLen; omega) (by omega) hB1 ?_)
      intro v2 w2 hown2 hgrow2 hat2
      have hfin : Hid (w2.ownsRow B 5 1 v2 (zs ++ 45 :: dec U).length ((zs ++ 45 :: dec U).map (Value.int .u8)) ∧ Below B w w2) := by
        refine ⟨?_, HA.out.2.2.grown hgrow2 hB1 (fun k hk => (HA.out.1.lt k hk).1)⟩
        rw [List.map_append, List.length_append, HN.out, List.length_cons, show (dec U).length = 20 - k by have := HQ.out.2.2.2; omega, List.map_cons, show N + (20 - k + 1) = N + 1 + (20 - k) by omega]
        simpa using hown2
      clear hown2 hgrow2 hat2
      go_wp2
      go_ret
      exact ⟨_, rfl, hfin.out.1, hfin.out.2⟩

/-- zzAppendInt: the decimal numeral of x, appended. -/
theorem app_any (B : Nat) (sv : Value) (zs : List Int) (x : Int) (h0 : -9223372036854775808 ≤ x) (h1 : x ≤ 9223372036854775807) (w : World) (hB : B ≤ w.heap.size) (hown : w.ownsRow B 5 1 sv zs.length (zs.map (Value.int .u8))) (hz : zs.length ≤ 1099511627776) :
    Calls Tryd.prog 12 #[sv, .int .i64 x] w fun e w' => ∃ v', e = .returned v' ∧ w'.ownsRow B 5 1 v' (zs ++ num x).length ((zs ++ num x).map (Value.int .u8)) ∧ Below B w w' := by
  by_cases hneg : x < 0
  · obtain ⟨U, rfl⟩ : ∃ U : Nat, x = -(U : Int) := ⟨x.natAbs, by omega⟩
    rw [num_neg U (by omega)]
    exact app_neg B sv zs U (by omega) (by omega) w hB hown hz
  · obtain ⟨U, rfl⟩ : ∃ U : Nat, x = (U : Int) := ⟨x.toNat, by omega⟩
    rw [num_nonneg]
    exact app_nonneg B sv zs U (by omega) w hB hown hz
end Go.Proofs.Qxb6614820aDoor.App
