import Derived.Test.Qxb6615762aDoorClone
import Derived.Test.Qxb6615762aDoorDec
import Derived.Test.Qxb6615762aDoorShelf
import Derived.Deep.AppendLies
import Derived.Lib.AppendIntMem
import Derived.Lib.ItoaWalk
import Derived.Lib.Slices
namespace Go.Proofs.Qxb6615762aDoor.App
open Go.RowKit Go.Sort Go.Lib Go.Proofs.Qxb6615762aDoor.Eq Go.Proofs.Qxb6615762aDoor.Clone Go.Proofs.Qxb6615762aDoor.Dec
set_option linter.unusedVariables false
set_option linter.unusedSimpArgs false

theorem own_shape {w : World} {B : Nat} {e : TypeId} {k n : Nat} {v : Value} {xs : List Value} (hv : w.ownsRow B e k v n xs) : ∃ ao cap, v = .slice ao n cap := by
  rcases hv.2 with ⟨rfl, rfl⟩ | ⟨g, cap, cur, rfl, _⟩
  · exact ⟨none, 0, rfl⟩
  · exact ⟨_, _, rfl⟩

theorem grown_trans {a b c : World} {row : Option Nat} (h : a.grownBy b none) (k : b.grownBy c row) : a.grownBy c row :=
  ⟨k.os.trans h.os, k.tape.trans h.tape, k.output.trans h.output, Nat.le_trans h.size k.size, fun i hi hr => (k.block i (Nat.lt_of_lt_of_le hi h.size) hr).trans (h.block i hi (by simp))⟩

theorem grown_more {a b c : World} {row row' : Option Nat} (h : a.grownBy b row) (k : b.grownBy c row') (hr : ∀ g, row' = some g → row = some g ∨ a.heap.size ≤ g) : a.grownBy c row := by
  refine ⟨k.os.trans h.os, k.tape.trans h.tape, k.output.trans h.output, Nat.le_trans h.size k.size, fun i hi hn => ?_⟩
  rw [k.block i (Nat.lt_of_lt_of_le hi h.size) ?_, h.block i hi hn]
  intro he
  rcases hr i he.symm with h1 | h1
  · exact hn h1.symm
  · omega

set_option maxHeartbeats 1600000 in
set_option maxRecDepth 100000 in
/-- internal/strconv.AppendUint(dst, u, 10), u below 100, with its exact frame. -/
theorem uint_small (B n u : Nat) (hu : u < 100) (sv : Value) (xs : List Value) (w : World) (hown : w.ownsRow B 5 1 sv n xs) (hBw : B ≤ w.heap.size) (hlim : n + 20 ≤ 140737488355328) :
    Calls Tryd.prog 15 #[sv, .int .u64 u, .int .i64 10] w fun e w' => ∃ v', e = .returned v' ∧ w'.ownsRow B 5 1 v' (n + (Lib.decDigits u).length) (xs ++ Lib.byteCells (Lib.decDigits u)) ∧ w.grownBy w' sv.ownBlock := by
  obtain ⟨i0, hi, hz0, hz1, hz2⟩ := info_parts info5
  have hlen : (Lib.decDigits u).length ≤ 20 := by
    rw [Lib.decDigits_length]
    by_cases h10 : u < 10
    · rw [Lib.nDigits_small h10]; omega
    · rw [Lib.nDigits_big h10, Lib.nDigits_small (show u / 10 < 10 by omega)]; omega
  have hsz : (⟨(Lib.decDigits u).toArray⟩ : ByteArray).size = (Lib.decDigits u).length := by simp [ByteArray.size]
  have HO := Lib.hid hown
  clear hown
  go_enter Tryd.func15, Tryd.ntmps15
  go_wp2_with (first
    | (go_at_call 16; refine (Tryd.internal_strconv_small u hu _).mono ?_; rintro e w' ⟨rfl, rfl⟩)
    | (at_builtin; refine Lib.wpList_append_own_string _ rfl _ _ 22 9 rfl B 5 i0 Tryd.underlying22 Tryd.underlying9 hi hz0 hz1 hz2 _ _ _ rfl HO.out ⟨(Lib.decDigits u).toArray⟩ rfl (by rw [hsz]; unfold maxLen; omega) (by rw [hsz]; omega) hBw ?_))
  intro v' w1 hown' hgrow _
  go_wp2
  go_ret
  refine ⟨v', rfl, ?_, hgrow⟩
  first | exact hown' | (rw [hsz] at hown'; exact hown')

theorem grown_of {w w' : World} (h : Below w.heap.size w w') : w.grownBy w' none := ⟨h.1, h.2, h.3, h.4, fun i hi _ => h.5 i hi⟩

theorem arr38 : Tryd.prog.arrayLen 38 = 24 := by kernel_rfl

set_option maxHeartbeats 3200000 in
set_option maxRecDepth 100000 in
/-- internal/strconv.AppendUint(dst, u, 10), u from 100 on, with its exact frame. -/
theorem uint_big (B n u : Nat) (hu : 100 ≤ u) (hu64 : u < 18446744073709551616) (sv : Value) (xs : List Value) (w : World) (hown : w.ownsRow B 5 1 sv n xs) (hBw : B ≤ w.heap.size) (hlim : n + 20 ≤ 140737488355328) (htab : Lib.TabIs Tryd.prog w Qxb6615762aDoor.tabName .u64 Lib.pow10Tab) :
    Calls Tryd.prog 15 #[sv, .int .u64 u, .int .i64 10] w fun e w' => ∃ v', e = .returned v' ∧ w'.ownsRow B 5 1 v' (n + (Lib.decDigits u).length) (xs ++ Lib.byteCells (Lib.decDigits u)) ∧ w.grownBy w' sv.ownBlock := by
  obtain ⟨i0, hi, hz0, hz1, hz2⟩ := info_parts info5
  have hu1 : 1 ≤ u := by omega
  have hnd20 : Lib.nDigits u ≤ 20 := by have := Lib.numDigits_eq u hu1 hu64; split at this <;> omega
  have hsl : ∀ W, (Instr.sliceAt 38 (.pointer (some ⟨w.heap.size, 0, none⟩)) none (some (.int .i64 (Lib.nDigits u : Int))) none).run Tryd.prog W = .ok (.slice (some ⟨w.heap.size, 0, none⟩) (Lib.nDigits u) 24) W := fun W => by
    rw [run_sliceAt_array_h W 38 ⟨w.heap.size, 0, none⟩ (by kernel_rfl) .i64 (Lib.nDigits u : Int) (by omega) (by rw [arr38]; omega), arr38]
    go_simp
  have hH0 := Lib.holds_zero0 w 38 (Lib.nDigits u) (by omega)
  have hfmt := Tryd.internal_strconv_formatBase10 w.heap.size 0 24 u (Array.replicate (Lib.nDigits u) 0) (w.alloc (.cells Lib.zeros24 38)) hH0 (by rw [Array.size_replicate]; exact Lib.lt_pow_nDigits u) hu64 (by rw [Array.size_replicate]; omega)
  rw [Array.size_replicate] at hfmt
  have HH0 := Lib.hid hH0
  have HN := Lib.hid (Tryd.internal_strconv_numDigits u hu1 hu64 _ (Lib.tabIs_alloc htab (.cells Lib.zeros24 38)))
  have HF := Lib.hid hfmt
  have HO := Lib.hid hown
  have iu : (100 : Int) ≤ (u : Int) := by omega
  clear hH0 hfmt hown htab
  go_enter Tryd.func15, Tryd.ntmps15
  go_wp2_with (first
    | (go_at_call 17; refine HN.out.mono ?_; rintro e w' ⟨rfl, rfl⟩))
  refine HF.out.mono ?_
  rintro e w' ⟨rfl, k, v', dk, rfl, hF⟩
  have hcells : ∀ j u', (Lib.byteCells (Lib.decDigits u))[j]? = some u' → ((putRow (fun (b : UInt8) => Value.int .u8 (b.toNat : Int)) (w.alloc (.cells Lib.zeros24 38)) w.heap.size 0 dk).drewN k).cell? ((⟨w.heap.size, 0, none⟩ : Addr).add j) = some u' := by
    intro j u' hj
    have hjl : j < (Lib.decDigits u).length := by
      have h5 := (List.getElem?_eq_some_iff.1 hj).1
      rwa [Lib.byteCells_length] at h5
    have e5 : (Lib.byteCells (Lib.decDigits u))[j]? = some (Value.int .u8 ((Lib.decDigits u)[j].toNat : Int)) := by simp [Lib.byteCells, hjl]
    rw [e5] at hj
    cases hj
    rw [Lib.row_is_numeral hF j hjl, Lib.add_plain, World.cell?_drewN]
    exact cell?_putRow (fun (b : UInt8) => Value.int .u8 (b.toNat : Int)) _ w.heap.size 0 _ dk HH0.out (by rw [hF.size, Array.size_replicate]) j (by rw [hF.size]; rw [Lib.decDigits_length] at hjl; exact hjl)
  obtain ⟨os, eo⟩ := Lib.fin_at w (.cells Lib.zeros24 38) dk k 0
  have hown2 : ((putRow (fun (b : UInt8) => Value.int .u8 (b.toNat : Int)) (w.alloc (.cells Lib.zeros24 38)) w.heap.size 0 dk).drewN k).ownsRow B 5 1 sv n xs := by rw [eo]; exact Lib.ownsRow_grow HO.out k os
  have hnx2 : Below w.heap.size w ((putRow (fun (b : UInt8) => Value.int .u8 (b.toNat : Int)) (w.alloc (.cells Lib.zeros24 38)) w.heap.size 0 dk).drewN k) := by rw [eo]; exact Lib.below_grow w.heap.size w (Nat.le_refl _) k os
  generalize (putRow (fun (b : UInt8) => Value.int .u8 (b.toNat : Int)) (w.alloc (.cells Lib.zeros24 38)) w.heap.size 0 dk).drewN k = W2 at hcells hown2 hnx2 ⊢
  have hsz2 := hnx2.size
  clear eo HH0 HF HN
  go_wp2_with (at_builtin; refine wpList_append_own _ rfl _ _ 22 rfl B 5 i0 (.int .u8 0) 1 1 Tryd.underlying22 hi hz0 hz1 hz2 rfl (by decide) _ _ _ rfl hown2 ⟨w.heap.size, 0, none⟩ (Lib.nDigits u) 24 (Lib.byteCells (Lib.decDigits u)) rfl ?c0 hcells ?c2 ?c3 ?c4 ?c5 ?_)
  case c0 => rw [Lib.byteCells_length, Lib.decDigits_length, Nat.mul_one]
  case c2 => intro u' hu'; simp only [Lib.byteCells, List.mem_map] at hu'; obtain ⟨b, _, rfl⟩ := hu'; rfl
  case c3 => unfold maxLen; omega
  case c4 => omega
  case c5 => omega
  intro v2 w3 hown' hgrow _
  go_wp2
  go_ret
  refine ⟨v2, rfl, ?_, grown_trans (grown_of hnx2) hgrow⟩
  rw [Lib.decDigits_length]
  exact hown'

/-- The two as one. -/
theorem uint_any (B n u : Nat) (hu64 : u < 18446744073709551616) (sv : Value) (xs : List Value) (w : World) (hown : w.ownsRow B 5 1 sv n xs) (hBw : B ≤ w.heap.size) (hlim : n + 20 ≤ 140737488355328) (htab : Lib.TabIs Tryd.prog w Qxb6615762aDoor.tabName .u64 Lib.pow10Tab) :
    Calls Tryd.prog 15 #[sv, .int .u64 u, .int .i64 10] w fun e w' => ∃ v', e = .returned v' ∧ w'.ownsRow B 5 1 v' (n + (Lib.decDigits u).length) (xs ++ Lib.byteCells (Lib.decDigits u)) ∧ w.grownBy w' sv.ownBlock := by
  by_cases h : u < 100
  · exact uint_small B n u h sv xs w hown hBw hlim
  · exact uint_big B n u (by omega) hu64 sv xs w hown hBw hlim htab
end Go.Proofs.Qxb6615762aDoor.App
