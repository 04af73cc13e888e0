import Derived.Test.Qxb6614820aDoorInt
import Derived.Test.Qxb6614820aDoorName
import Derived.Lib.HexFns
namespace Go.Proofs.Qxb6614820aDoor.Wr
open Go.RowKit Go.Proofs.Qxb6614820aDoor.Eq Go.Proofs.Qxb6614820aDoor.Clone Go.Proofs.Qxb6614820aDoor.Dec
set_option linter.unusedVariables false
set_option linter.unusedSimpArgs false

/-- The hex digits of the bytes bs. -/
def hx (bs : List Int) : List Int := ofB (Lib.Hx.encode (Lib.bytesOf bs))

theorem hx_length (bs : List Int) : (hx bs).length = 2 * bs.length := by
  unfold hx
  rw [ofB_length, Lib.Hx.encode_length]
  simp [Lib.bytesOf]

def Bytes (bs : List Int) : Prop := ∀ i, i < bs.length → 0 ≤ bs.getD i 0 ∧ bs.getD i 0 < 256

/-- slices.Grow without room, in this program's numbers. -/
theorem grow_grow (i0 : TypeInfo) (z : Value) (hi0 : Tryd.prog.info? 5 = some i0) (hz0 : i0.zero = some z) (hs0 : 0 < i0.size)
    (base : Option Addr) (l c n : Nat) (cs : List Value) (w : World) (hlc : l ≤ c) (hroom : c < l + n) (hbig : (l + n) * i0.bytes ≤ 140737488355328) (h63 : l + n ≤ 4611686018427387904)
    (hcl : cs.length = c * i0.size) (hnil : base = none → c = 0) (hcs : ∀ a, base = some a → ∀ j v, cs[j]? = some v → w.cell? (a.add j) = some v) :
    Calls Tryd.prog 37 #[.slice base l c, .int .i64 n] w fun e w' =>
      e = .returned (.slice (some ⟨w.heap.size, 0, none⟩) l (grownCap w (l + n) c 5)) ∧
      w' = w.drew.alloc (.cells (cs.toArray ++ Builtin.zeroCells z.cells (l + n - c) ++ Builtin.zeroCells z.cells (grownCap w (l + n) c 5 - (l + n))) 5) :=
  Any8.slices_Grow_grow Tryd.growB i0 z hi0 hz0 hs0 base l c n cs w hlc hroom hbig h63 hcl hnil hcs

/-- slices.Grow at []byte, onto a row of the call's own. -/
theorem grow_any (B N n : Nat) (sv : Value) (xs : List Value) (w : World) (hown : w.ownsRow B 5 1 sv N xs) (hB : B ≤ w.heap.size) (hN : N ≤ 1099511627776) (hn : n ≤ 1099511627776) :
    Calls Tryd.prog 37 #[sv, .int .i64 n] w fun e w' => ∃ ao cap, e = .returned (.slice ao N cap) ∧ w'.ownsRow B 5 1 (.slice ao N cap) N xs ∧ N + n ≤ cap ∧ w.grownBy w' none ∧ (.slice ao N cap = sv ∨ ao = some ⟨w.heap.size, 0, none⟩) := by
  obtain ⟨ao, cap, rfl⟩ := Wr.shape hown
  obtain ⟨i5, hi5, hz50, hz51, hz52⟩ := info_parts info5
  have hcap : N ≤ cap ∧ cap ≤ maxLen := by
    rcases hown.2 with ⟨h, rfl⟩ | ⟨g, cap', cur, h, _, _, h1, h2, _⟩
    · cases h; exact ⟨Nat.le_refl _, Nat.zero_le _⟩
    · cases h; exact ⟨h1, h2⟩
  have hm := hcap.2
  unfold maxLen at hm
  by_cases hroom : N + n ≤ cap
  · refine (Any8.slices_Grow_room Tryd.growB ao N cap n w hcap.1 (by omega) (by omega) hroom).mono ?_
    rintro e w' ⟨rfl, rfl⟩
    exact ⟨ao, cap, rfl, hown, hroom, World.grownBy.refl _ _, .inl rfl⟩
  · obtain ⟨cs, hcl, hnil, hcs, htk⟩ : ∃ cs : List Value, cs.length = cap * i5.size ∧ (ao = none → cap = 0) ∧ (∀ a, ao = some a → ∀ j v, cs[j]? = some v → w.cell? (a.add j) = some v) ∧ cs.take N = xs := by
      rcases hown.2 with ⟨h, rfl⟩ | ⟨g, cap', cur, h, hb, hg, h1, h2, h3, h4⟩
      · cases h
        have hx := hown.1
        have : xs = [] := List.eq_nil_of_length_eq_zero (by simpa using hx)
        exact ⟨[], by simp, (fun _ => rfl), (fun a h => nomatch h), by simp [this]⟩
      · cases h
        refine ⟨cur.toList, by rw [hz51]; simpa using h3, (fun h => nomatch h), fun a ha j v hj => ?_, by simpa using h4⟩
        cases ha
        rw [Addr.add_lit, Nat.zero_add, cell_of_row w g j cur 5 (0, 0) hg]
        simpa using hj
    refine (grow_grow i5 (.int .u8 0) hi5 hz50 (by omega) ao N cap n cs w hcap.1 (by omega) (by rw [hz52]; omega) (by omega) hcl hnil hcs).mono ?_
    rintro e w' ⟨rfl, rfl⟩
    have hge := grownCap_ge w (N + n) cap 5
    refine ⟨_, _, rfl, ⟨hown.1, .inr ⟨w.heap.size, _, _, rfl, hB, heap_alloc_new w.drew _, by omega, grownCap_le_maxLen w (N + n) cap 5 (by unfold maxLen; omega), ?_, ?_⟩⟩, hge, ⟨rfl, rfl, rfl, by simp, fun k hk _ => Below.heap_alloc w.drew _ k hk⟩, .inr rfl⟩
    · simp only [Array.size_append, List.size_toArray, size_zeroCells, hcl, hz51]
      have : (Value.int .u8 0).cells.size = 1 := rfl
      rw [this]
      show cap * 1 + (N + n - cap) * 1 + (grownCap w (N + n) cap 5 - (N + n)) * 1 = grownCap w (N + n) cap 5 * 1
      omega
    · rw [Nat.mul_one, Array.toList_append, Array.toList_append, List.append_assoc, List.take_append_of_le_length (by simp [hcl, hz51]; omega)]
      exact htk

set_option maxHeartbeats 400000 in
theorem enc_empty (a b : Option Addr) (l c d : Nat) (w : World) : Calls Tryd.prog 38 #[.slice a l c, .slice b 0 d] w fun e w' => e = .returned (.int .i64 0) ∧ w' = w := by
  go_enter Tryd.func38, Tryd.ntmps38
  go_wp2
  go_loop [5, 10] (fun j i => j = .int .i64 0 ∧ i = .int .i64 0) (fun _ _ => 0)
  case atStart => exact ⟨rfl, rfl⟩
  case round =>
    obtain ⟨rfl, rfl⟩ := hrel
    go_wp2
    go_ret
    exact ⟨rfl, rfl⟩

theorem growK (B N n : Nat) (K : Int) (hK : K = n) (sv : Value) (xs : List Value) (w : World) (hown : w.ownsRow B 5 1 sv N xs) (hB : B ≤ w.heap.size) (hN : N ≤ 1099511627776) (hn : n ≤ 1099511627776) :
    Calls Tryd.prog 37 #[sv, .int .i64 K] w fun e w' => ∃ ao cap, e = .returned (.slice ao N cap) ∧ w'.ownsRow B 5 1 (.slice ao N cap) N xs ∧ N + n ≤ cap ∧ w.grownBy w' none ∧ (.slice ao N cap = sv ∨ ao = some ⟨w.heap.size, 0, none⟩) := by
  subst hK
  exact grow_any B N n sv xs w hown hB hN hn

theorem capo {w : World} {B : Nat} {e : TypeId} {k n n' cap : Nat} {ao : Option Addr} {xs : List Value} (hv : w.ownsRow B e k (.slice ao n' cap) n xs) : n ≤ cap ∧ cap ≤ maxLen := by
  rcases hv.2 with ⟨h, rfl⟩ | ⟨g, cap', cur, h, _, _, h1, h2, _⟩
  · cases h; exact ⟨Nat.le_refl _, Nat.zero_le _⟩
  · cases h; exact ⟨h1, h2⟩

set_option maxHeartbeats 400000 in
theorem appEnc_nil (B : Nat) (sv : Value) (zs : List Int) (a : Option Addr) (c : Nat) (w : World) (hown : w.ownsRow B 5 1 sv zs.length (zs.map (Value.int .u8))) (hB : B ≤ w.heap.size) (hz : zs.length ≤ 549755813888) :
    Calls Tryd.prog 34 #[sv, .slice a 0 c] w fun e w' => ∃ v', e = .returned v' ∧ w'.ownsRow B 5 1 v' zs.length (zs.map (Value.int .u8)) ∧ Below B w w' ∧ Lib.OthersKept 5 none w w' := by
  obtain ⟨ao, cap, rfl⟩ := Wr.shape hown
  have HO := hide hown
  clear hown
  generalize hN : zs.length = N at *
  clear hN
  go_enter Tryd.func34, Tryd.ntmps34
  go_wp2_with (first | (go_at_call 36; go_in))
  refine (growK B N 0 0 rfl _ _ w HO.out hB (by omega) (by omega)).mono ?_
  rintro e w1 ⟨ao1, cap1, rfl, hown1, hc1, hg1, _⟩
  obtain ⟨hcc, hcm⟩ := capo hown1
  unfold maxLen at hcm
  have hcI : (N : Int) ≤ (cap1 : Int) := by omega
  have hfin := hide (And.intro hown1 (And.intro ((Below.refl B w).grown hg1 hB (fun k hk => by cases hk)) ((Lib.OthersKept.refl 5 none w).grown hg1 (fun g hk => by cases hk))))
  clear hown1 hg1 HO
  have hsplit : cap1 = N ∨ ¬ cap1 = N := by omega
  rcases hsplit with rfl | hcN
  all_goals
    go_wp2_with fail
    refine (enc_empty _ a _ _ c w1).mono ?_
    rintro e w2 ⟨rfl, rfl⟩
    go_wp2
    go_ret
    exact ⟨_, rfl, hfin.out.1, hfin.out.2.1, hfin.out.2.2⟩

theorem row_of_own {w : World} {B g N cap : Nat} {xs : List Value} (h : w.ownsRow B 5 1 (.slice (some ⟨g, 0, none⟩) N cap) N xs) : ∃ f, w.rowIs g 5 cap f ∧ ∀ j, j < N → xs[j]? = some (f j) := by
  rcases h.2 with ⟨h0, _⟩ | ⟨g', cap', cur, h0, hb, hg, h1, h2, h3, h4⟩
  · cases h0
  · cases h0
    refine ⟨fun i => (cur[i]?).getD (.int .u8 0), ⟨cur, hg, by simpa using h3, fun i hi => ?_⟩, fun j hj => ?_⟩
    · have : i < cur.size := by rw [h3]; omega
      simp [this]
    · have hjc : j < cur.size := by rw [h3]; omega
      rw [← h4, List.getElem?_take, if_pos (by omega)]
      simp [hjc]

theorem own_of_row {w : World} {B g N cap : Nat} {zs bs : List Int} {f : Nat → Value} (hB : B ≤ g) (hcm : cap ≤ maxLen) (hN : zs.length = N) (hfit : N + 2 * bs.length ≤ cap)
    (hf : ∀ j, j < N → (zs.map (Value.int .u8))[j]? = some (f j)) (h : w.rowIs g 5 cap (Lib.Hx.row f N (Lib.bytesOf bs) bs.length)) :
    w.ownsRow B 5 1 (.slice (some ⟨g, 0, none⟩) (N + 2 * bs.length) cap) (N + 2 * bs.length) ((zs ++ hx bs).map (Value.int .u8)) := by
  obtain ⟨c, hc, hs, hcell⟩ := h
  refine ⟨by rw [List.length_map, List.length_append, hx_length, hN, Nat.mul_one], .inr ⟨g, cap, c, rfl, hB, hc, hfit, hcm, by omega, ?_⟩⟩
  apply List.ext_getElem?
  intro i
  by_cases hi : i < N + 2 * bs.length
  · rw [List.getElem?_take, if_pos (by omega)]
    have e1 : c.toList[i]? = some (Lib.Hx.row f N (Lib.bytesOf bs) bs.length i) := by
      have := hcell i (by omega)
      simpa using this
    rw [e1, List.map_append]
    by_cases hiN : i < N
    · rw [List.getElem?_append_left (by simp; omega), hf i hiN]
      unfold Lib.Hx.row
      rw [if_neg (by omega)]
    · rw [List.getElem?_append_right (by simp; omega), List.length_map, hN]
      unfold Lib.Hx.row
      rw [if_pos (by omega)]
      have hl : i - N < (hx bs).length := by rw [hx_length]; omega
      have hl2 : i - N < (Lib.Hx.encode (Lib.bytesOf bs)).length := by unfold hx at hl; rwa [ofB_length] at hl
      unfold hx ofB
      simp [hl2]
  · rw [List.getElem?_eq_none (by simp; omega), List.getElem?_eq_none (by simp [hx_length]; omega)]

set_option maxHeartbeats 400000 in
theorem appEnc_some (B : Nat) (sv : Value) (zs : List Int) (b o : Nat) (bs : List Int) (c : Nat) (w : World) (hown : w.ownsRow B 5 1 sv zs.length (zs.map (Value.int .u8))) (hB : B ≤ w.heap.size) (hz : zs.length ≤ 549755813888) (hb0 : 0 < bs.length) (hb1 : bs.length ≤ 1048576) (hby : Bytes bs) (hlow : b < B)
    (hsrc : ∀ k, k < bs.length → w.cell? ⟨b, o + k, none⟩ = some (.int .u8 (bs.getD k 0))) :
    Calls Tryd.prog 34 #[sv, .slice (some ⟨b, o, none⟩) bs.length c] w fun e w' => ∃ v', e = .returned v' ∧ w'.ownsRow B 5 1 v' (zs ++ hx bs).length ((zs ++ hx bs).map (Value.int .u8)) ∧ Below B w w' ∧ Lib.OthersKept 5 none w w' := by
  obtain ⟨ao, cap, rfl⟩ := Wr.shape hown
  have HO := hide hown
  have HS := hide (And.intro hsrc hby)
  clear hown hsrc hby
  generalize hN : zs.length = N at *
  generalize hM : bs.length = M at *
  have HN := hide hN
  have HM := hide hM
  clear hN hM
  go_enter Tryd.func34, Tryd.ntmps34
  go_wp2_with (first | (go_at_call 36; go_in))
  refine (growK B N (M * 2) _ (by omega) _ _ w HO.out hB (by omega) (by omega)).mono ?_
  rintro e w1 ⟨ao1, cap1, rfl, hown1, hc1, hg1, _⟩
  obtain ⟨hcc, hcm⟩ := capo hown1
  obtain ⟨g, rfl, hBg⟩ : ∃ g, ao1 = some ⟨g, 0, none⟩ ∧ B ≤ g := by
    rcases hown1.2 with ⟨h, _⟩ | ⟨g, cap', cur, h, h1, _⟩
    · cases h; omega
    · cases h; exact ⟨g, rfl, h1⟩
  obtain ⟨f, hrow, hf⟩ := row_of_own hown1
  have hb1' : Below B w w1 := (Below.refl B w).grown hg1 hB (fun k hk => by cases hk)
  have hB1 : B ≤ w1.heap.size := by have := hb1'.size; omega
  have hsrc1 : ∀ i, i < M → w1.cell? ⟨b, o + i, none⟩ = some (.int .u8 (bs.getD i 0)) := fun i hi => by rw [hb1'.cell (p := ⟨b, o + i, none⟩) hlow]; exact HS.out.1 i hi
  have HE := hide (Tryd.hex_Encode g N (M * 2) (cap1 - N) cap1 f b o M c bs w1 HM.out (fun i hi => HS.out.2 i (by rw [HM.out]; exact hi)) hsrc1 hrow (by omega) (by omega) (by omega) (by omega))
  have HG := hide (And.intro hown1 (And.intro hf (And.intro hb1' ((Lib.OthersKept.refl 5 none w).grown hg1 (fun g hk => by cases hk)))))
  unfold maxLen at hcm
  have q1 : (N : Int) ≤ (cap1 : Int) := by omega
  have q2 : (N : Int) + M * 2 ≤ (cap1 : Int) := by omega
  have q3 : ¬ cap1 = N := by omega
  have q4 : ((M * 2 : Nat) : Int) ≤ ((cap1 - N : Nat) : Int) := by omega
  clear hown1 hg1 hrow hf hb1' hsrc1 HO HS
  go_wp2_with fail
  refine HE.out.mono ?_
  rintro e w2 ⟨rfl, hrow2, hg2⟩
  have hfin : Hid (w2.ownsRow B 5 1 (.slice (some ⟨g, 0, none⟩) (N + M * 2) cap1) (zs ++ hx bs).length ((zs ++ hx bs).map (Value.int .u8)) ∧ Below B w w2 ∧ Lib.OthersKept 5 none w w2) := by
    refine ⟨?_, HG.out.2.2.1.grown hg2 hB1 (fun k hk => by cases hk; exact hBg), HG.out.2.2.2.grown hg2 (fun k hk => by cases hk; exact Lib.ownsRow_kind HG.out.1 g rfl)⟩
    have h5 := own_of_row (B := B) hBg (by unfold maxLen; omega) HN.out (by rw [HM.out]; omega) HG.out.2.1 (by rw [HM.out]; exact hrow2)
    rw [List.length_append, hx_length, HN.out, HM.out, show N + M * 2 = N + 2 * M by omega]
    rw [HM.out] at h5
    exact h5
  clear hrow2 hg2 HG HE
  go_wp2
  go_ret
  exact ⟨_, rfl, hfin.out.1, hfin.out.2.1, hfin.out.2.2⟩

/-- hex.AppendEncode onto a row of the call's own; what is encoded lies below its blocks. -/
theorem appEnc (B : Nat) (sv : Value) (zs : List Int) (a : Option Addr) (bs : List Int) (n c : Nat) (hn : n = bs.length) (w : World) (hown : w.ownsRow B 5 1 sv zs.length (zs.map (Value.int .u8))) (hB : B ≤ w.heap.size) (hz : zs.length ≤ 549755813888) (hb1 : bs.length ≤ 1048576) (hby : Bytes bs) (hr : Rd w a bs)
    (hlow : ∀ x, a = some x → 0 < bs.length → x.block < B) :
    Calls Tryd.prog 34 #[sv, .slice a n c] w fun e w' => ∃ v', e = .returned v' ∧ w'.ownsRow B 5 1 v' (zs ++ hx bs).length ((zs ++ hx bs).map (Value.int .u8)) ∧ Below B w w' ∧ Lib.OthersKept 5 none w w' := by
  subst hn
  by_cases h0 : 0 < bs.length
  · obtain ⟨b, o, rfl, hc⟩ := hr.form h0
    exact appEnc_some B sv zs b o bs c w hown hB hz h0 hb1 hby (hlow _ rfl h0) hc
  · have e : bs = [] := List.eq_nil_of_length_eq_zero (by omega)
    subst e
    have e2 : zs ++ hx [] = zs := by simp [hx, ofB, Lib.bytesOf, Lib.Hx.encode]
    rw [e2]
    exact appEnc_nil B sv zs a c w hown hB hz

set_option maxHeartbeats 800000 in
set_option maxRecDepth 100000 in
/-- (*JSONWriter).Hex -/
theorem hex_any (B p : Nat) (zs : List Int) (first : Bool) (ps : List (Bool × ByteArray × Int)) (a : Option Addr) (bs : List Int) (n c : Nat) (hn : n = bs.length) (hz : zs.length ≤ 274877906944) (hb1 : bs.length ≤ 1048576) (hby : Bytes bs) (w : World) (hr : Rd w a bs) (hlow : ∀ x, a = some x → 0 < bs.length → x.block < B)
    (h : Wr B p zs first ps w) :
    Calls Tryd.prog 29 #[.pointer (some ⟨p, 0, none⟩), .slice a n c] w fun e w' => e = .returned (.tuple #[]) ∧ Wr B p (zs ++ [34] ++ hx bs ++ [34]) first ps w' ∧ Below B w w' := by
  obtain ⟨bv, av, h⟩ := h
  obtain ⟨i5, hi5, hz50, hz51, hz52⟩ := info_parts info5
  obtain ⟨ao, cap, rfl⟩ := Wr.shape h.bo
  have hBw := h.hB
  obtain ⟨c0, f0⟩ := h.cell0
  have H := hide h
  have HR := hide (And.intro hn (And.intro hby (And.intro hr hlow)))
  clear h hn hby hr hlow
  generalize hN : zs.length = N at *
  generalize hM : bs.length = M at *
  have HN := hide hN
  have HM := hide hM
  clear hN hM
  go_enter Tryd.func29, Tryd.ntmps29
  go_wp2_with (at_builtin; refine wpList_append_lies _ rfl _ _ 28 rfl B 5 i5 (.int .u8 0) 1 1 Tryd.underlying28 hi5 hz50 hz51 hz52 rfl (by decide) _ _ _ rfl (HN.out ▸ H.out.bo.alloc _) ⟨w.heap.size, 0, none⟩ 1 1 [Value.int .u8 34] rfl rfl (cell_one_new _ _ _) (by intro u hu; simp at hu; subst hu; rfl) (by omega) (by unfold maxLen; omega) (by omega) (by rw [World.size_alloc]; omega) (w.heap.size + 1) (by simp) ?_)
  intro g2 cap2 w2 hown2 hgrow2 hat2 hlt2
  have I2 := H.out.alloc (.cells #[Value.int .u8 34] 5)
  obtain ⟨c1, f1⟩ := I2.grown0 hgrow2
  obtain ⟨J2, bel2⟩ := I2.bytes hgrow2 (bv' := .slice (some ⟨g2, 0, none⟩) (N + 1) cap2) (zs' := zs ++ [34]) (by rw [map_snoc, len_snoc, HN.out]; exact hown2)
  have H3 := hide (And.intro J2 (((Below.refl B w).alloc hBw (.cells #[Value.int .u8 34] 5)).trans bel2))
  clear hown2 hgrow2 hat2 I2 J2 bel2 c0 f0
  have hr3 : Rd (w2.setCell ⟨p, 0, none⟩ (.slice (some ⟨g2, 0, none⟩) (N + 1) cap2)) a bs := by
    intro k hk
    obtain ⟨x, rfl, hcx⟩ := HR.out.2.2.1 k hk
    refine ⟨x, rfl, ?_⟩
    have hxl : x.block < B := HR.out.2.2.2 x rfl (by have := HM.out; omega)
    rw [H3.out.2.cell (p := x.add k) (by unfold Addr.add; split <;> exact hxl)]
    exact hcx
  have HC := hide (appEnc B (.slice (some ⟨g2, 0, none⟩) (N + 1) cap2) (zs ++ [34]) a bs n c (by rw [HR.out.1, HM.out]) (w2.setCell ⟨p, 0, none⟩ (.slice (some ⟨g2, 0, none⟩) (N + 1) cap2)) H3.out.1.bo H3.out.1.hB (by rw [len_snoc, HN.out]; omega) (by rw [HM.out]; exact hb1) HR.out.2.1 hr3 (by rw [HM.out]; exact HR.out.2.2.2))
  clear hr3 HR
  go_wp2_with fail
  refine HC.out.mono ?_
  rintro e w4 ⟨v4, rfl, hown4, hb4, hk4⟩
  obtain ⟨ao4, cap4, rfl⟩ := Wr.shape hown4
  obtain ⟨J4, bel4, hp4⟩ := H3.out.1.bytesK hb4 hk4 hown4
  rw [H3.out.1.blk] at hp4
  obtain ⟨c4, f4⟩ := cell_blk hp4 0
  simp only [List.getElem?_toArray, List.getElem?_cons_zero, List.getElem?_cons_succ] at c4
  have hl4 : (zs ++ [34] ++ hx bs).length = N + 1 + 2 * M := by rw [List.length_append, len_snoc, hx_length, HN.out, HM.out]
  rw [hl4] at J4 bel4
  rw [hl4]
  have H5 := hide (And.intro J4 (H3.out.2.trans bel4))
  clear hown4 hb4 hk4 J4 bel4 hp4 H3 HC c1 f1
  have hb5 := H5.out.1.bo
  rw [hl4] at hb5
  have HB5 := hide hb5
  have HL4 := hide hl4
  have hsz5 : (w4.setCell ⟨p, 0, none⟩ (.slice ao4 (N + 1 + 2 * M) cap4)).heap.size = w4.heap.size := by simp [World.setCell]
  have HS5 := hide hsz5
  have hBw4 : B ≤ w4.heap.size := by rw [← hsz5]; exact H5.out.1.hB
  clear hb5 hsz5 hl4
  go_wp2_with (at_builtin; refine wpList_append_lies _ rfl _ _ 28 rfl B 5 i5 (.int .u8 0) 1 1 Tryd.underlying28 hi5 hz50 hz51 hz52 rfl (by decide) _ _ _ rfl (HB5.out.alloc _) ⟨w4.heap.size, 0, none⟩ 1 1 [Value.int .u8 34] rfl rfl ?q2 (by intro u hu; simp at hu; subst hu; rfl) (by omega) (by unfold maxLen; omega) (by omega) ?q3 (w4.heap.size + 1) ?q4 ?_)
  case q2 =>
    rw [← HS5.out]
    exact cell_one_new _ _ _
  case q3 => rw [World.size_alloc, HS5.out]; omega
  case q4 => rw [World.size_alloc, HS5.out]
  intro g6 cap6 w6 hown6 hgrow6 hat6 hlt6
  have I6 := H5.out.1.alloc (.cells #[Value.int .u8 34] 5)
  obtain ⟨c6, f6⟩ := I6.grown0 hgrow6
  obtain ⟨J6, bel6⟩ := I6.bytes hgrow6 (bv' := .slice (some ⟨g6, 0, none⟩) (N + 1 + 2 * M + 1) cap6) (zs' := zs ++ [34] ++ hx bs ++ [34]) (by rw [map_snoc, len_snoc, HL4.out]; simpa using hown6)
  have hfin := hide (And.intro J6 ((H5.out.2.alloc H5.out.1.hB _).trans bel6))
  clear hown6 hgrow6 hat6 I6 J6 bel6 H5 HB5 HS5 c4 f4
  go_wp2
  go_end0
  exact ⟨rfl, ⟨_, _, hfin.out.1⟩, hfin.out.2⟩

end Go.Proofs.Qxb6614820aDoor.Wr
