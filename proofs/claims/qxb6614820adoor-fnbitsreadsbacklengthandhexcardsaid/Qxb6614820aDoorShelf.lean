import Derived.Shelf.Strconv.Itoa0
import Derived.Shelf.Strconv.Itoa1
import Derived.Shelf.LaysM
import Derived.Shelf.Strconv.Itoa2
import Derived.Shelf.Strconv.AppendUint10
import Derived.Shelf.Strconv.AppendInt10
import Derived.Shelf.Strconv.AppendIntPublic10
import Derived.Ground.PaProg
import Derived.Shelf.Hex.Lens
import Derived.Shelf.Hex.Encode
import Derived.Shelf.Spec.SlicesGrow
import Derived.Test.Qxb6614820aDoorRows
namespace Go.Proofs
open Go.Shelf
def Qxb6614820aDoor.tabName : String := Qxb6614820aDoor.Rows.fnElementJoinsArrayOfIntsRow.named.headD ""
def Tryd.lays129_ren : Go.Shelf.Ren := ⟨fun | 129 => 44 | n => n, fun | 53 => 58 | 3 => 3 | 4 => 4 | 46 => 64 | 5 => 5 | 9 => 9 | n => n, fun | n => n⟩
theorem Tryd.lays129 : Go.Proofs.Lays.n129 Tryd.prog Tryd.lays129_ren := {
  mixed := by kernel_rfl
  f129 := Tryd.func44.trans (congrArg some (by kernel_rfl))
  t3 := Tryd.underlying3
  a3 := Tryd.isAgg3
  z3 := Tryd.sizeOf3
  v3 := Tryd.zeroValue3
  t4 := Tryd.underlying4
  a4 := Tryd.isAgg4
  z4 := Tryd.sizeOf4
  v4 := Tryd.zeroValue4
  t5 := Tryd.underlying5
  a5 := Tryd.isAgg5
  z5 := Tryd.sizeOf5
  v5 := Tryd.zeroValue5
  t9 := Tryd.underlying9
  a9 := Tryd.isAgg9
  z9 := Tryd.sizeOf9
  v9 := Tryd.zeroValue9
  t46 := Tryd.underlying64
  a46 := Tryd.isAgg64
  z46 := Tryd.sizeOf64
  v46 := Tryd.zeroValue64
  t53 := Tryd.underlying58
  a53 := Tryd.isAgg58
  z53 := Tryd.sizeOf58
  v53 := Tryd.zeroValue58 }
theorem Tryd.bits_Len64 (x : Int) (w : World) (h0 : 0 ≤ x) (h1 : x ≤ 18446744073709551615) :
    Calls Tryd.prog 44 #[.int .u64 x] w fun e w' => e = .returned (.int .i64 (Lib.bitLen x.toNat)) ∧ w' = w := Any.bits_Len64 Tryd.lays129 x w h0 h1
def Tryd.lays317_ren : Go.Shelf.Ren := ⟨fun | 317 => 43 | n => n, fun | 3 => 3 | 46 => 64 | n => n, fun | n => n⟩
theorem Tryd.lays317 : Go.Proofs.Lays.n317 Tryd.prog Tryd.lays317_ren := {
  mixed := by kernel_rfl
  f317 := Tryd.func43.trans (congrArg some (by kernel_rfl))
  t3 := Tryd.underlying3
  a3 := Tryd.isAgg3
  z3 := Tryd.sizeOf3
  v3 := Tryd.zeroValue3
  t46 := Tryd.underlying64
  a46 := Tryd.isAgg64
  z46 := Tryd.sizeOf64
  v46 := Tryd.zeroValue64 }
open Go.Lib in
theorem Tryd.internal_strconv_log10Pow2 (x : Nat) (h : x ≤ 64) (w : World) :
    Calls Tryd.prog 43 #[.int .i64 x] w fun e w' => e = .returned (.int .i64 (Lib.l10 x)) ∧ w' = w := Any.internal_strconv_log10Pow2 Tryd.lays317 x h w
def Tryd.lays318_ren : Go.Shelf.Ren := ⟨fun | 318 => 45 | n => n, fun | 3 => 3 | 4 => 4 | n => n, fun | n => n⟩
theorem Tryd.lays318 : Go.Proofs.Lays.n318 Tryd.prog Tryd.lays318_ren := {
  mixed := by kernel_rfl
  f318 := Tryd.func45.trans (congrArg some (by kernel_rfl))
  t3 := Tryd.underlying3
  a3 := Tryd.isAgg3
  z3 := Tryd.sizeOf3
  v3 := Tryd.zeroValue3
  t4 := Tryd.underlying4
  a4 := Tryd.isAgg4
  z4 := Tryd.sizeOf4
  v4 := Tryd.zeroValue4 }
open Go.Lib in
theorem Tryd.internal_strconv_bool2_int (b : Bool) (w : World) :
    Calls Tryd.prog 45 #[.bool b] w fun e w' => e = .returned (.int .i64 (if b then 1 else 0)) ∧ w' = w := Any.internal_strconv_bool2_int Tryd.lays318 b w
def Tryd.lays283_ren : Go.Shelf.Ren := ⟨fun | 283 => 39 | n => n, fun | 3 => 3 | 9 => 9 | 4 => 4 | n => n, fun | n => n⟩
theorem Tryd.lays283 : Go.Proofs.Lays.n283 Tryd.prog Tryd.lays283_ren := {
  mixed := by kernel_rfl
  f283 := Tryd.func39.trans (congrArg some (by kernel_rfl))
  t3 := Tryd.underlying3
  a3 := Tryd.isAgg3
  z3 := Tryd.sizeOf3
  v3 := Tryd.zeroValue3
  t4 := Tryd.underlying4
  a4 := Tryd.isAgg4
  z4 := Tryd.sizeOf4
  v4 := Tryd.zeroValue4
  t9 := Tryd.underlying9
  a9 := Tryd.isAgg9
  z9 := Tryd.sizeOf9
  v9 := Tryd.zeroValue9 }
open Go.Lib in
theorem Tryd.internal_strconv_small (i : Nat) (h : i < 100) (w : World) :
    Calls Tryd.prog 39 #[.int .i64 i] w fun e w' => e = .returned (.string ⟨(Lib.decDigits i).toArray⟩) ∧ w' = w := Any.internal_strconv_small Tryd.lays283 i h w
def Tryd.laysM284_ren : Go.Shelf.Ren := ⟨fun | 284 => 40 | 129 => 44 | 317 => 43 | 318 => 45 | n => n, fun | 53 => 58 | 3 => 3 | 212 => 81 | 0 => 0 | 4 => 4 | 46 => 64 | 5 => 5 | 9 => 9 | n => n, fun | 17 => 0 | n => n⟩
theorem Tryd.laysM284 : Go.Proofs.LaysM.n284 Tryd.prog Tryd.laysM284_ren := {
  mixed := by kernel_rfl
  f129 := Tryd.func44.trans (congrArg some (by kernel_rfl))
  f284 := Tryd.func40.trans (congrArg some (by kernel_rfl))
  f317 := Tryd.func43.trans (congrArg some (by kernel_rfl))
  f318 := Tryd.func45.trans (congrArg some (by kernel_rfl))
  t0 := Tryd.underlying0
  a0 := Tryd.isAgg0
  z0 := Tryd.sizeOf0
  v0 := Tryd.zeroValue0
  t3 := Tryd.underlying3
  a3 := Tryd.isAgg3
  z3 := Tryd.sizeOf3
  v3 := Tryd.zeroValue3
  t4 := Tryd.underlying4
  a4 := Tryd.isAgg4
  z4 := Tryd.sizeOf4
  v4 := Tryd.zeroValue4
  t5 := Tryd.underlying5
  a5 := Tryd.isAgg5
  z5 := Tryd.sizeOf5
  v5 := Tryd.zeroValue5
  t9 := Tryd.underlying9
  a9 := Tryd.isAgg9
  z9 := Tryd.sizeOf9
  v9 := Tryd.zeroValue9
  t46 := Tryd.underlying64
  a46 := Tryd.isAgg64
  z46 := Tryd.sizeOf64
  v46 := Tryd.zeroValue64
  t53 := Tryd.underlying58
  a53 := Tryd.isAgg58
  z53 := Tryd.sizeOf58
  v53 := Tryd.zeroValue58
  t212 := Tryd.underlying81
  a212 := Tryd.isAgg81
  z212 := Tryd.sizeOf81
  v212 := Tryd.zeroValue81
  g17 := by kernel_rfl
  i0 := by kernel_rfl
  i3 := by kernel_rfl
  i4 := by kernel_rfl
  i5 := by kernel_rfl
  i9 := by kernel_rfl
  i46 := by kernel_rfl
  i53 := by kernel_rfl
  i212 := by kernel_rfl
  m17 := by kernel_rfl }
open Go.Lib in
theorem Tryd.internal_strconv_numDigits (u : Nat) (h1 : 1 ≤ u) (h2 : u < 18446744073709551616) (w : World) (htab : Lib.TabIs Tryd.prog w Qxb6614820aDoor.tabName .u64 Lib.pow10Tab) :
    Calls Tryd.prog 40 #[.int .u64 u] w fun e w' => e = .returned (.int .i64 (Lib.nDigits u)) ∧ w' = w := Any.internal_strconv_numDigits Tryd.laysM284 u h1 h2 w htab
def Tryd.lays285_ren : Go.Shelf.Ren := ⟨fun | 285 => 41 | n => n, fun | 37 => 28 | 53 => 58 | 3 => 3 | 4 => 4 | 51 => 82 | 9 => 9 | 5 => 5 | 0 => 0 | n => n, fun | n => n⟩
theorem Tryd.lays285 : Go.Proofs.Lays.n285 Tryd.prog Tryd.lays285_ren := {
  mixed := by kernel_rfl
  f285 := Tryd.func41.trans (congrArg some (by kernel_rfl))
  t0 := Tryd.underlying0
  a0 := Tryd.isAgg0
  z0 := Tryd.sizeOf0
  v0 := Tryd.zeroValue0
  t3 := Tryd.underlying3
  a3 := Tryd.isAgg3
  z3 := Tryd.sizeOf3
  v3 := Tryd.zeroValue3
  t4 := Tryd.underlying4
  a4 := Tryd.isAgg4
  z4 := Tryd.sizeOf4
  v4 := Tryd.zeroValue4
  t5 := Tryd.underlying5
  a5 := Tryd.isAgg5
  z5 := Tryd.sizeOf5
  v5 := Tryd.zeroValue5
  t9 := Tryd.underlying9
  a9 := Tryd.isAgg9
  z9 := Tryd.sizeOf9
  v9 := Tryd.zeroValue9
  t37 := Tryd.underlying28
  a37 := Tryd.isAgg28
  z37 := Tryd.sizeOf28
  v37 := Tryd.zeroValue28
  t51 := Tryd.underlying82
  a51 := Tryd.isAgg82
  z51 := Tryd.sizeOf82
  v51 := Tryd.zeroValue82
  t53 := Tryd.underlying58
  a53 := Tryd.isAgg58
  z53 := Tryd.sizeOf58
  v53 := Tryd.zeroValue58 }
open Go.RowKit Go.Sort Go.Lib in
theorem Tryd.internal_strconv_formatBase10 (blk off cap : Nat) (u : Nat) (d : Array UInt8) (w : World) (hH : Holds (fun (b : UInt8) => Value.int .u8 (b.toNat : Int)) w blk off d) (hu : u < 10 ^ d.size) (hu64 : u < 18446744073709551616) (hsz : d.size < 4611686018427387904) :
    Calls Tryd.prog 41 #[.slice (some ⟨blk, off, none⟩) d.size cap, .int .u64 u] w fun e w' =>
      e = .returned (.tuple #[]) ∧ ∃ (n v' : Nat) (dk : Array UInt8), w' = (putRow (fun (b : UInt8) => Value.int .u8 (b.toNat : Int)) w blk off dk).drewN n ∧ FmtInv d.size u 0 v' dk := Any.internal_strconv_formatBase10 Tryd.lays285 blk off cap u d w hH hu hu64 hsz
def Tryd.laysM288_ren : Go.Shelf.Ren := ⟨fun | 288 => 35 | 283 => 39 | 284 => 40 | 285 => 41 | 286 => 42 | 129 => 44 | 317 => 43 | 318 => 45 | 319 => 46 | 320 => 47 | 337 => 48 | 338 => 49 | n => n, fun | 37 => 28 | 53 => 58 | 3 => 3 | 4 => 4 | 9 => 9 | 171 => 75 | 0 => 0 | 173 => 78 | 212 => 81 | 51 => 82 | 5 => 5 | 20 => 20 | 213 => 83 | 46 => 64 | 232 => 87 | 233 => 88 | n => n, fun | 17 => 0 | 18 => 1 | 19 => 2 | n => n⟩
theorem Tryd.laysM288 : Go.Proofs.LaysM.n288 Tryd.prog Tryd.laysM288_ren := {
  mixed := by kernel_rfl
  f129 := Tryd.func44.trans (congrArg some (by kernel_rfl))
  f283 := Tryd.func39.trans (congrArg some (by kernel_rfl))
  f284 := Tryd.func40.trans (congrArg some (by kernel_rfl))
  f285 := Tryd.func41.trans (congrArg some (by kernel_rfl))
  f286 := Tryd.func42.trans (congrArg some (by kernel_rfl))
  f288 := Tryd.func35.trans (congrArg some (by kernel_rfl))
  f317 := Tryd.func43.trans (congrArg some (by kernel_rfl))
  f318 := Tryd.func45.trans (congrArg some (by kernel_rfl))
  f319 := Tryd.func46.trans (congrArg some (by kernel_rfl))
  f320 := Tryd.func47.trans (congrArg some (by kernel_rfl))
  f337 := Tryd.func48.trans (congrArg some (by kernel_rfl))
  f338 := Tryd.func49.trans (congrArg some (by kernel_rfl))
  t0 := Tryd.underlying0
  a0 := Tryd.isAgg0
  z0 := Tryd.sizeOf0
  v0 := Tryd.zeroValue0
  t3 := Tryd.underlying3
  a3 := Tryd.isAgg3
  z3 := Tryd.sizeOf3
  v3 := Tryd.zeroValue3
  t4 := Tryd.underlying4
  a4 := Tryd.isAgg4
  z4 := Tryd.sizeOf4
  v4 := Tryd.zeroValue4
  t5 := Tryd.underlying5
  a5 := Tryd.isAgg5
  z5 := Tryd.sizeOf5
  v5 := Tryd.zeroValue5
  t9 := Tryd.underlying9
  a9 := Tryd.isAgg9
  z9 := Tryd.sizeOf9
  v9 := Tryd.zeroValue9
  t20 := Tryd.underlying20
  a20 := Tryd.isAgg20
  z20 := Tryd.sizeOf20
  v20 := Tryd.zeroValue20
  t37 := Tryd.underlying28
  a37 := Tryd.isAgg28
  z37 := Tryd.sizeOf28
  v37 := Tryd.zeroValue28
  t46 := Tryd.underlying64
  a46 := Tryd.isAgg64
  z46 := Tryd.sizeOf64
  v46 := Tryd.zeroValue64
  t51 := Tryd.underlying82
  a51 := Tryd.isAgg82
  z51 := Tryd.sizeOf82
  v51 := Tryd.zeroValue82
  t53 := Tryd.underlying58
  a53 := Tryd.isAgg58
  z53 := Tryd.sizeOf58
  v53 := Tryd.zeroValue58
  t171 := Tryd.underlying75
  a171 := Tryd.isAgg75
  z171 := Tryd.sizeOf75
  v171 := Tryd.zeroValue75
  t173 := Tryd.underlying78
  a173 := Tryd.isAgg78
  z173 := Tryd.sizeOf78
  v173 := Tryd.zeroValue78
  t212 := Tryd.underlying81
  a212 := Tryd.isAgg81
  z212 := Tryd.sizeOf81
  v212 := Tryd.zeroValue81
  t213 := Tryd.underlying83
  a213 := Tryd.isAgg83
  z213 := Tryd.sizeOf83
  t232 := Tryd.underlying87
  a232 := Tryd.isAgg87
  z232 := Tryd.sizeOf87
  v232 := Tryd.zeroValue87
  t233 := Tryd.underlying88
  a233 := Tryd.isAgg88
  z233 := Tryd.sizeOf88
  v233 := Tryd.zeroValue88
  g17 := by kernel_rfl
  g18 := by kernel_rfl
  g19 := by kernel_rfl
  i0 := by kernel_rfl
  i3 := by kernel_rfl
  i4 := by kernel_rfl
  i5 := by kernel_rfl
  i9 := by kernel_rfl
  i20 := by kernel_rfl
  i37 := by kernel_rfl
  i46 := by kernel_rfl
  i51 := by kernel_rfl
  i53 := by kernel_rfl
  i171 := by kernel_rfl
  i173 := by kernel_rfl
  i212 := by kernel_rfl
  i232 := by kernel_rfl
  i233 := by kernel_rfl
  m17 := by kernel_rfl
  m18 := by kernel_rfl
  m19 := by kernel_rfl }
open Go.RowKit Go.Sort Go.Lib in
theorem Tryd.internal_strconv_AppendUint_10_small (B n u : Nat) (hu : u < 100) (sv : Value) (xs : List Value) (w : World) (hown : w.ownsRow B 5 1 sv n xs) (hBw : B ≤ w.heap.size) (hlim : n + 20 ≤ 140737488355328) :
    Calls Tryd.prog 35 #[sv, .int .u64 u, .int .i64 10] w fun e w' => ∃ v', e = .returned v' ∧ w'.ownsRow B 5 1 v' (n + (Lib.decDigits u).length) (xs ++ Lib.byteCells (Lib.decDigits u)) ∧ Below B w w' ∧ Lib.OthersKept 5 none w w' := Any.internal_strconv_AppendUint_10_small Tryd.laysM288 B n u hu sv xs w hown hBw hlim
open Go.RowKit Go.Sort Go.Lib in
theorem Tryd.internal_strconv_AppendUint_10_big (B n u : Nat) (hu : 100 ≤ u) (hu64 : u < 18446744073709551616) (sv : Value) (xs : List Value) (w : World) (hown : w.ownsRow B 5 1 sv n xs) (hBw : B ≤ w.heap.size) (hlim : n + 20 ≤ 140737488355328) (htab : Lib.TabIs Tryd.prog w Qxb6614820aDoor.tabName .u64 Lib.pow10Tab) :
    Calls Tryd.prog 35 #[sv, .int .u64 u, .int .i64 10] w fun e w' => ∃ v', e = .returned v' ∧ w'.ownsRow B 5 1 v' (n + (Lib.decDigits u).length) (xs ++ Lib.byteCells (Lib.decDigits u)) ∧ Below B w w' ∧ Lib.OthersKept 5 none w w' := Any.internal_strconv_AppendUint_10_big Tryd.laysM288 B n u hu hu64 sv xs w hown hBw hlim htab
open Go.RowKit Go.Sort Go.Lib in
theorem Tryd.internal_strconv_AppendUint_10 (B n u : Nat) (hu64 : u < 18446744073709551616) (sv : Value) (xs : List Value) (w : World) (hown : w.ownsRow B 5 1 sv n xs) (hBw : B ≤ w.heap.size) (hlim : n + 20 ≤ 140737488355328) (htab : Lib.TabIs Tryd.prog w Qxb6614820aDoor.tabName .u64 Lib.pow10Tab) :
    Calls Tryd.prog 35 #[sv, .int .u64 u, .int .i64 10] w fun e w' => ∃ v', e = .returned v' ∧ w'.ownsRow B 5 1 v' (n + (Lib.decDigits u).length) (xs ++ Lib.byteCells (Lib.decDigits u)) ∧ Below B w w' ∧ Lib.OthersKept 5 none w w' := Any.internal_strconv_AppendUint_10 Tryd.laysM288 B n u hu64 sv xs w hown hBw hlim htab
def Tryd.laysM249_ren : Go.Shelf.Ren := ⟨fun | 249 => 33 | 288 => 35 | 283 => 39 | 284 => 40 | 285 => 41 | 286 => 42 | 129 => 44 | 317 => 43 | 318 => 45 | 319 => 46 | 320 => 47 | 337 => 48 | 338 => 49 | n => n, fun | 37 => 28 | 2 => 2 | 3 => 3 | 53 => 58 | 4 => 4 | 9 => 9 | 171 => 75 | 0 => 0 | 173 => 78 | 212 => 81 | 51 => 82 | 5 => 5 | 20 => 20 | 213 => 83 | 46 => 64 | 232 => 87 | 233 => 88 | n => n, fun | 17 => 0 | 18 => 1 | 19 => 2 | n => n⟩
theorem Tryd.laysM249 : Go.Proofs.LaysM.n249 Tryd.prog Tryd.laysM249_ren := {
  mixed := by kernel_rfl
  f129 := Tryd.func44.trans (congrArg some (by kernel_rfl))
  f249 := Tryd.func33.trans (congrArg some (by kernel_rfl))
  f283 := Tryd.func39.trans (congrArg some (by kernel_rfl))
  f284 := Tryd.func40.trans (congrArg some (by kernel_rfl))
  f285 := Tryd.func41.trans (congrArg some (by kernel_rfl))
  f286 := Tryd.func42.trans (congrArg some (by kernel_rfl))
  f288 := Tryd.func35.trans (congrArg some (by kernel_rfl))
  f317 := Tryd.func43.trans (congrArg some (by kernel_rfl))
  f318 := Tryd.func45.trans (congrArg some (by kernel_rfl))
  f319 := Tryd.func46.trans (congrArg some (by kernel_rfl))
  f320 := Tryd.func47.trans (congrArg some (by kernel_rfl))
  f337 := Tryd.func48.trans (congrArg some (by kernel_rfl))
  f338 := Tryd.func49.trans (congrArg some (by kernel_rfl))
  t0 := Tryd.underlying0
  a0 := Tryd.isAgg0
  z0 := Tryd.sizeOf0
  v0 := Tryd.zeroValue0
  t2 := Tryd.underlying2
  a2 := Tryd.isAgg2
  z2 := Tryd.sizeOf2
  v2 := Tryd.zeroValue2
  t3 := Tryd.underlying3
  a3 := Tryd.isAgg3
  z3 := Tryd.sizeOf3
  v3 := Tryd.zeroValue3
  t4 := Tryd.underlying4
  a4 := Tryd.isAgg4
  z4 := Tryd.sizeOf4
  v4 := Tryd.zeroValue4
  t5 := Tryd.underlying5
  a5 := Tryd.isAgg5
  z5 := Tryd.sizeOf5
  v5 := Tryd.zeroValue5
  t9 := Tryd.underlying9
  a9 := Tryd.isAgg9
  z9 := Tryd.sizeOf9
  v9 := Tryd.zeroValue9
  t20 := Tryd.underlying20
  a20 := Tryd.isAgg20
  z20 := Tryd.sizeOf20
  v20 := Tryd.zeroValue20
  t37 := Tryd.underlying28
  a37 := Tryd.isAgg28
  z37 := Tryd.sizeOf28
  v37 := Tryd.zeroValue28
  t46 := Tryd.underlying64
  a46 := Tryd.isAgg64
  z46 := Tryd.sizeOf64
  v46 := Tryd.zeroValue64
  t51 := Tryd.underlying82
  a51 := Tryd.isAgg82
  z51 := Tryd.sizeOf82
  v51 := Tryd.zeroValue82
  t53 := Tryd.underlying58
  a53 := Tryd.isAgg58
  z53 := Tryd.sizeOf58
  v53 := Tryd.zeroValue58
  t171 := Tryd.underlying75
  a171 := Tryd.isAgg75
  z171 := Tryd.sizeOf75
  v171 := Tryd.zeroValue75
  t173 := Tryd.underlying78
  a173 := Tryd.isAgg78
  z173 := Tryd.sizeOf78
  v173 := Tryd.zeroValue78
  t212 := Tryd.underlying81
  a212 := Tryd.isAgg81
  z212 := Tryd.sizeOf81
  v212 := Tryd.zeroValue81
  t213 := Tryd.underlying83
  a213 := Tryd.isAgg83
  z213 := Tryd.sizeOf83
  t232 := Tryd.underlying87
  a232 := Tryd.isAgg87
  z232 := Tryd.sizeOf87
  v232 := Tryd.zeroValue87
  t233 := Tryd.underlying88
  a233 := Tryd.isAgg88
  z233 := Tryd.sizeOf88
  v233 := Tryd.zeroValue88
  g17 := by kernel_rfl
  g18 := by kernel_rfl
  g19 := by kernel_rfl
  i0 := by kernel_rfl
  i2 := by kernel_rfl
  i3 := by kernel_rfl
  i4 := by kernel_rfl
  i5 := by kernel_rfl
  i9 := by kernel_rfl
  i20 := by kernel_rfl
  i37 := by kernel_rfl
  i46 := by kernel_rfl
  i51 := by kernel_rfl
  i53 := by kernel_rfl
  i171 := by kernel_rfl
  i173 := by kernel_rfl
  i212 := by kernel_rfl
  i232 := by kernel_rfl
  i233 := by kernel_rfl
  m17 := by kernel_rfl
  m18 := by kernel_rfl
  m19 := by kernel_rfl }
open Go.RowKit Go.Sort Go.Lib in
theorem Tryd.internal_strconv_AppendInt_10 (B n : Nat) (i : Int) (h0 : -9223372036854775808 ≤ i) (h1 : i ≤ 9223372036854775807) (sv : Value) (xs : List Value) (w : World) (hown : w.ownsRow B 5 1 sv n xs) (hBw : B ≤ w.heap.size) (hlim : n + 21 ≤ 140737488355328) (htab : Lib.TabBelow Tryd.prog B w Qxb6614820aDoor.tabName .u64 Lib.pow10Tab) :
    Calls Tryd.prog 33 #[sv, .int .i64 i, .int .i64 10] w fun e w' => ∃ v', e = .returned v' ∧ w'.ownsRow B 5 1 v' (n + (Lib.itoa i).length) (xs ++ Lib.byteCells (Lib.itoa i)) ∧ Below B w w' ∧ Lib.OthersKept 5 none w w' := Any.internal_strconv_AppendInt_10 Tryd.laysM249 B n i h0 h1 sv xs w hown hBw hlim htab
def Tryd.laysM176_ren : Go.Shelf.Ren := ⟨fun | 176 => 27 | 249 => 33 | 288 => 35 | 283 => 39 | 284 => 40 | 285 => 41 | 286 => 42 | 129 => 44 | 317 => 43 | 318 => 45 | 319 => 46 | 320 => 47 | 337 => 48 | 338 => 49 | n => n, fun | 37 => 28 | 2 => 2 | 3 => 3 | 53 => 58 | 4 => 4 | 9 => 9 | 171 => 75 | 0 => 0 | 173 => 78 | 212 => 81 | 51 => 82 | 5 => 5 | 20 => 20 | 213 => 83 | 46 => 64 | 232 => 87 | 233 => 88 | n => n, fun | 17 => 0 | 18 => 1 | 19 => 2 | n => n⟩
theorem Tryd.laysM176 : Go.Proofs.LaysM.n176 Tryd.prog Tryd.laysM176_ren := {
  mixed := by kernel_rfl
  f129 := Tryd.func44.trans (congrArg some (by kernel_rfl))
  f176 := Tryd.func27.trans (congrArg some (by kernel_rfl))
  f249 := Tryd.func33.trans (congrArg some (by kernel_rfl))
  f283 := Tryd.func39.trans (congrArg some (by kernel_rfl))
  f284 := Tryd.func40.trans (congrArg some (by kernel_rfl))
  f285 := Tryd.func41.trans (congrArg some (by kernel_rfl))
  f286 := Tryd.func42.trans (congrArg some (by kernel_rfl))
  f288 := Tryd.func35.trans (congrArg some (by kernel_rfl))
  f317 := Tryd.func43.trans (congrArg some (by kernel_rfl))
  f318 := Tryd.func45.trans (congrArg some (by kernel_rfl))
  f319 := Tryd.func46.trans (congrArg some (by kernel_rfl))
  f320 := Tryd.func47.trans (congrArg some (by kernel_rfl))
  f337 := Tryd.func48.trans (congrArg some (by kernel_rfl))
  f338 := Tryd.func49.trans (congrArg some (by kernel_rfl))
  t0 := Tryd.underlying0
  a0 := Tryd.isAgg0
  z0 := Tryd.sizeOf0
  v0 := Tryd.zeroValue0
  t2 := Tryd.underlying2
  a2 := Tryd.isAgg2
  z2 := Tryd.sizeOf2
  v2 := Tryd.zeroValue2
  t3 := Tryd.underlying3
  a3 := Tryd.isAgg3
  z3 := Tryd.sizeOf3
  v3 := Tryd.zeroValue3
  t4 := Tryd.underlying4
  a4 := Tryd.isAgg4
  z4 := Tryd.sizeOf4
  v4 := Tryd.zeroValue4
  t5 := Tryd.underlying5
  a5 := Tryd.isAgg5
  z5 := Tryd.sizeOf5
  v5 := Tryd.zeroValue5
  t9 := Tryd.underlying9
  a9 := Tryd.isAgg9
  z9 := Tryd.sizeOf9
  v9 := Tryd.zeroValue9
  t20 := Tryd.underlying20
  a20 := Tryd.isAgg20
  z20 := Tryd.sizeOf20
  v20 := Tryd.zeroValue20
  t37 := Tryd.underlying28
  a37 := Tryd.isAgg28
  z37 := Tryd.sizeOf28
  v37 := Tryd.zeroValue28
  t46 := Tryd.underlying64
  a46 := Tryd.isAgg64
  z46 := Tryd.sizeOf64
  v46 := Tryd.zeroValue64
  t51 := Tryd.underlying82
  a51 := Tryd.isAgg82
  z51 := Tryd.sizeOf82
  v51 := Tryd.zeroValue82
  t53 := Tryd.underlying58
  a53 := Tryd.isAgg58
  z53 := Tryd.sizeOf58
  v53 := Tryd.zeroValue58
  t171 := Tryd.underlying75
  a171 := Tryd.isAgg75
  z171 := Tryd.sizeOf75
  v171 := Tryd.zeroValue75
  t173 := Tryd.underlying78
  a173 := Tryd.isAgg78
  z173 := Tryd.sizeOf78
  v173 := Tryd.zeroValue78
  t212 := Tryd.underlying81
  a212 := Tryd.isAgg81
  z212 := Tryd.sizeOf81
  v212 := Tryd.zeroValue81
  t213 := Tryd.underlying83
  a213 := Tryd.isAgg83
  z213 := Tryd.sizeOf83
  t232 := Tryd.underlying87
  a232 := Tryd.isAgg87
  z232 := Tryd.sizeOf87
  v232 := Tryd.zeroValue87
  t233 := Tryd.underlying88
  a233 := Tryd.isAgg88
  z233 := Tryd.sizeOf88
  v233 := Tryd.zeroValue88
  g17 := by kernel_rfl
  g18 := by kernel_rfl
  g19 := by kernel_rfl
  i0 := by kernel_rfl
  i2 := by kernel_rfl
  i3 := by kernel_rfl
  i4 := by kernel_rfl
  i5 := by kernel_rfl
  i9 := by kernel_rfl
  i20 := by kernel_rfl
  i37 := by kernel_rfl
  i46 := by kernel_rfl
  i51 := by kernel_rfl
  i53 := by kernel_rfl
  i171 := by kernel_rfl
  i173 := by kernel_rfl
  i212 := by kernel_rfl
  i232 := by kernel_rfl
  i233 := by kernel_rfl
  m17 := by kernel_rfl
  m18 := by kernel_rfl
  m19 := by kernel_rfl }
open Go.RowKit Go.Sort Go.Lib in
theorem Tryd.strconv_AppendInt_10 (B n : Nat) (i : Int) (h0 : -9223372036854775808 ≤ i) (h1 : i ≤ 9223372036854775807) (sv : Value) (xs : List Value) (w : World) (hown : w.ownsRow B 5 1 sv n xs) (hBw : B ≤ w.heap.size) (hlim : n + 21 ≤ 140737488355328) (htab : Lib.TabBelow Tryd.prog B w Qxb6614820aDoor.tabName .u64 Lib.pow10Tab) :
    Calls Tryd.prog 27 #[sv, .int .i64 i, .int .i64 10] w fun e w' => ∃ v', e = .returned v' ∧ w'.ownsRow B 5 1 v' (n + (Lib.itoa i).length) (xs ++ Lib.byteCells (Lib.itoa i)) ∧ Below B w w' ∧ Lib.OthersKept 5 none w w' := Any.strconv_AppendInt_10 Tryd.laysM176 B n i h0 h1 sv xs w hown hBw hlim htab
def Tryd.laysPa41_ren : Go.Shelf.Ren := ⟨fun | 41 => 36 | n => n, fun | 3 => 3 | n => n, fun | n => n⟩
theorem Tryd.laysPa41 : Go.Proofs.Lays.p41 Tryd.prog Tryd.laysPa41_ren := {
  mixed := by kernel_rfl
  f41 := Tryd.func36.trans (congrArg some (by kernel_rfl))
  t3 := Tryd.underlying3
  a3 := Tryd.isAgg3
  z3 := Tryd.sizeOf3
  v3 := Tryd.zeroValue3 }
open Go.RowKit Go.Lib in
theorem Tryd.hex_EncodedLen (n : Int) (h0 : 0 ≤ n) (h1 : n < 4611686018427387904) (w : World) :
    Calls Tryd.prog 36 #[.int .i64 n] w fun e w' => e = .returned (.int .i64 (n * 2)) ∧ w' = w := Any.hex_EncodedLen Tryd.laysPa41 n h0 h1 w
def Tryd.laysPa40_ren : Go.Shelf.Ren := ⟨fun | 40 => 38 | n => n, fun | 30 => 28 | 3 => 3 | 0 => 0 | 5 => 5 | 46 => 64 | 9 => 9 | n => n, fun | n => n⟩
theorem Tryd.laysPa40 : Go.Proofs.Lays.p40 Tryd.prog Tryd.laysPa40_ren := {
  mixed := by kernel_rfl
  f40 := Tryd.func38.trans (congrArg some (by kernel_rfl))
  t0 := Tryd.underlying0
  a0 := Tryd.isAgg0
  z0 := Tryd.sizeOf0
  v0 := Tryd.zeroValue0
  t3 := Tryd.underlying3
  a3 := Tryd.isAgg3
  z3 := Tryd.sizeOf3
  v3 := Tryd.zeroValue3
  t5 := Tryd.underlying5
  a5 := Tryd.isAgg5
  z5 := Tryd.sizeOf5
  v5 := Tryd.zeroValue5
  t9 := Tryd.underlying9
  a9 := Tryd.isAgg9
  z9 := Tryd.sizeOf9
  v9 := Tryd.zeroValue9
  t30 := Tryd.underlying28
  a30 := Tryd.isAgg28
  z30 := Tryd.sizeOf28
  v30 := Tryd.zeroValue28
  t46 := Tryd.underlying64
  a46 := Tryd.isAgg64
  z46 := Tryd.sizeOf64
  v46 := Tryd.zeroValue64 }
open Go.RowKit Go.Lib in
theorem Tryd.hex_Encode (bd od nd cd N : Nat) (f : Nat → Value) (bs os n cs : Nat) (xs : List Int) (w : World) (hx : xs.length = n) (hr : ∀ i, i < n → 0 ≤ xs.getD i 0 ∧ xs.getD i 0 < 256) (hsrc : ∀ i, i < n → w.cell? ⟨bs, os + i, none⟩ = some (.int .u8 (xs.getD i 0))) (hrow : w.rowIs bd 5 N f) (hfit : od + nd ≤ N) (hlen : 2 * n ≤ nd) (hne : bd ≠ bs) (hbig : n ≤ 4611686018427387903) :
    Calls Tryd.prog 38 #[.slice (some ⟨bd, od, none⟩) nd cd, .slice (some ⟨bs, os, none⟩) n cs] w fun e w' => e = .returned (.int .i64 ((n : Int) * 2)) ∧ w'.rowIs bd 5 N (Hx.row f od (Lib.bytesOf xs) n) ∧ w.grownBy w' (some bd) := Any.hex_Encode Tryd.laysPa40 bd od nd cd N f bs os n cs xs w hx hr hsrc hrow hfit hlen hne hbig
open Go.RowKit Go.Lib in
theorem Tryd.hex_Encode_nil (dst : Value) (w : World) :
    Calls Tryd.prog 38 #[dst, .slice none 0 0] w fun e w' => e = .returned (.int .i64 0) ∧ w' = w := Any.hex_Encode_nil Tryd.laysPa40 dst w
def Tryd.growB_ren : Go.Shelf.Ren := ⟨fun | 4 => 37 | n => n, fun | 22 => 28 | 25 => 5 | 3 => 3 | 4 => 4 | 9 => 9 | 20 => 20 | 0 => 0 | n => n, fun | n => n⟩
theorem Tryd.growB : Go.Proofs.Lays8.n4 Tryd.prog Tryd.growB_ren := {
  mixed := by kernel_rfl
  f4 := ⟨Tryd.f37.name, by decide, Tryd.func37.trans (congrArg some (by kernel_rfl))⟩
  t0 := Tryd.underlying0
  a0 := Tryd.isAgg0
  z0 := Tryd.sizeOf0
  v0 := Tryd.zeroValue0
  t3 := Tryd.underlying3
  a3 := Tryd.isAgg3
  z3 := Tryd.sizeOf3
  v3 := Tryd.zeroValue3
  t4 := Tryd.underlying4
  a4 := Tryd.isAgg4
  z4 := Tryd.sizeOf4
  v4 := Tryd.zeroValue4
  t9 := Tryd.underlying9
  a9 := Tryd.isAgg9
  z9 := Tryd.sizeOf9
  v9 := Tryd.zeroValue9
  t20 := Tryd.underlying20
  a20 := Tryd.isAgg20
  z20 := Tryd.sizeOf20
  v20 := Tryd.zeroValue20
  t22 := Tryd.underlying28
  a22 := Tryd.isAgg28
  z22 := Tryd.sizeOf28
  v22 := Tryd.zeroValue28 }
end Go.Proofs
