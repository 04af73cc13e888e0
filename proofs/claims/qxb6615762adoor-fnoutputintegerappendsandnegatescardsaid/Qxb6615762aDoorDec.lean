import Derived.Lib.ItoaLen
import Derived.Lib.ItoaMem
import Derived.Lib.UnsafeStr
namespace Go.Proofs.Qxb6615762aDoor.Dec
open Go

/-- The bytes of a list as integers. -/
def ofB (l : List UInt8) : List Int := l.map fun b => (b.toNat : Int)
/-- The decimal digits of u. -/
def dec (u : Nat) : List Int := ofB (Lib.decDigits u)
/-- The decimal numeral of x. -/
def num (x : Int) : List Int := ofB (Lib.itoa x)

theorem cells_ofB (l : List UInt8) : Lib.byteCells l = (ofB l).map (Value.int .u8) := by simp [Lib.byteCells, ofB]
theorem ofB_length (l : List UInt8) : (ofB l).length = l.length := by simp [ofB]

theorem toNat_digit (d : Nat) (h : d < 10) : ((UInt8.ofNat (48 + d)).toNat : Int) = 48 + d := by
  rw [UInt8.toNat_ofNat']
  omega

theorem dec_small (u : Nat) (h : u < 10) : dec u = [48 + (u : Int)] := by
  unfold dec ofB
  rw [Lib.decDigits_one h]
  simp only [List.map_cons, List.map_nil, toNat_digit u h]

theorem dec_big (u : Nat) (h : ¬ u < 10) : dec u = dec (u / 10) ++ [48 + ((u % 10 : Nat) : Int)] := by
  have e : Lib.decDigits u = Lib.decDigits (u / 10) ++ [UInt8.ofNat (48 + u % 10)] := by rw [Lib.decDigits, dif_neg h]
  unfold dec ofB
  rw [e, List.map_append]
  simp only [List.map_cons, List.map_nil, toNat_digit (u % 10) (by omega)]

theorem num_nonneg (u : Nat) : num (u : Int) = dec u := by unfold num dec; rw [Lib.itoa_nonneg]
theorem num_neg (u : Nat) (h : 1 ≤ u) : num (-(u : Int)) = 45 :: dec u := by unfold num dec; rw [Lib.itoa_neg u h]; rfl

theorem num_length (x : Int) (h0 : -9223372036854775808 ≤ x) (h1 : x ≤ 9223372036854775807) : (num x).length ≤ 21 := by
  unfold num
  rw [ofB_length]
  exact Lib.itoa_length_le x h0 h1

end Go.Proofs.Qxb6615762aDoor.Dec
