import Derived.Test.Qxb6614820aDoorHex
namespace Go.Proofs.Qxb6614820aDoor.Wr
open Go.RowKit Go.Proofs.Qxb6614820aDoor.Eq Go.Proofs.Qxb6614820aDoor.Clone Go.Proofs.Qxb6614820aDoor.Dec
set_option linter.unusedVariables false
set_option linter.unusedSimpArgs false

/-- What stands ahead of the number. -/
def headT : List Int := [123, 34, 108, 101, 110, 103, 116, 104, 34, 58]
/-- What stands between the number and the digits. -/
def midT : List Int := [44, 34, 118, 97, 108, 117, 101, 34, 58, 34]
/-- What Bits writes. -/
def bt (bs : List Int) (n : Int) : List Int := headT ++ (num n ++ (midT ++ (hx bs ++ [34, 125])))

def lenS : ByteArray := ⟨#[108, 101, 110, 103, 116, 104]⟩
def valS : ByteArray := ⟨#[118, 97, 108, 117, 101]⟩

theorem bt_length (bs : List Int) (n : Int) : (bt bs n).length = 22 + (num n).length + 2 * bs.length := by
  unfold bt headT midT
  simp [hx_length]
  omega

theorem bt_eq (zs bs : List Int) (n : Int) : (zs ++ [123] ++ cma true ++ [34] ++ ofB lenS.data.toList ++ [34, 58] ++ num n ++ cma false ++ [34] ++ ofB valS.data.toList ++ [34, 58] ++ [34] ++ hx bs ++ [34]) ++ [125] = zs ++ bt bs n := by
  unfold bt headT midT
  have e1 : ofB lenS.data.toList = [108, 101, 110, 103, 116, 104] := rfl
  have e2 : ofB valS.data.toList = [118, 97, 108, 117, 101] := rfl
  have e3 : cma true = [] := rfl
  have e4 : cma false = [44] := rfl
  rw [e1, e2, e3, e4]
  simp

set_option maxHeartbeats 800000 in
set_option maxRecDepth 100000 in
/-- (*JSONWriter).Bits -/
theorem bits_any (B p : Nat) (zs : List Int) (first : Bool) (ps : List (Bool × ByteArray × Int)) (a : Option Addr) (bs : List Int) (n c : Nat) (hn : n = bs.length) (x : Int) (h0 : -9223372036854775808 ≤ x) (h1 : x ≤ 9223372036854775807) (hz : zs.length ≤ 137438953472) (hps : ps.length ≤ 137438953472) (hb1 : bs.length ≤ 1048576) (hby : Bytes bs) (w : World) (hr : Rd w a bs) (hlow : ∀ x, a = some x → 0 < bs.length → x.block < B)
    (htab : Tab B w) (h : Wr B p zs first ps w) :
    Calls Tryd.prog 20 #[.pointer (some ⟨p, 0, none⟩), .slice a n c, .int .i64 x] w fun e w' => e = .returned (.tuple #[]) ∧ Wr B p (zs ++ bt bs x) false ps w' ∧ Below B w w' := by
  have hnl := num_length x h0 h1
  have HA := hide (And.intro hn (And.intro hby (And.intro hr (And.intro hlow (And.intro htab h)))))
  have HL := hide (And.intro hz (And.intro hps (And.intro hb1 hnl)))
  clear hn hby hr hlow htab h hz hps hb1 hnl
  go_enter Tryd.func20, Tryd.ntmps20
  go_wp2_with fail
  refine (begin_any B p zs first ps 123 w HA.out.2.2.2.2.2 (by have := HL.out.1; omega) (by have := HL.out.2.1; omega)).mono ?_
  rintro e w1 ⟨rfl, hw1, hb1⟩
  have H1 := hide (And.intro hw1 hb1)
  clear hw1 hb1
  go_wp2_with fail
  refine (name_any B p (zs ++ [123]) true ps (123 == 91) ⟨#[]⟩ (-1) (by omega) (by omega) (by have := HL.out.1; rw [len_snoc]; omega) lenS (by decide) w1 H1.out.1).mono ?_
  rintro e w2 ⟨rfl, hw2, hb2⟩
  have H2 := hide (And.intro hw2 (H1.out.2.trans hb2))
  clear hw2 hb2 H1
  go_wp2_with fail
  refine (int_any B p _ _ _ x h0 h1 w2 H2.out.1 (HA.out.2.2.2.2.1.on H2.out.2) (by have := HL.out.1; simp [ofB_length, lenS, cma]; omega)).mono ?_
  rintro e w3 ⟨rfl, hw3, hb3⟩
  have H3 := hide (And.intro hw3 (H2.out.2.trans hb3))
  clear hw3 hb3 H2
  go_wp2_with fail
  refine (name_any B p _ false ps (123 == 91) lenS (-1 + 1) (by omega) (by omega) (by have := HL.out.1; have := HL.out.2.2.2; simp [ofB_length, lenS, cma]; omega) valS (by decide) w3 H3.out.1).mono ?_
  rintro e w4 ⟨rfl, hw4, hb4⟩
  have H4 := hide (And.intro hw4 (H3.out.2.trans hb4))
  clear hw4 hb4 H3
  have hr4 : Rd w4 a bs := by
    intro k hk
    obtain ⟨y, rfl, hcx⟩ := HA.out.2.2.1 k hk
    refine ⟨y, rfl, ?_⟩
    have hxl : y.block < B := HA.out.2.2.2.1 y rfl (by omega)
    rw [H4.out.2.cell (p := y.add k) (by unfold Addr.add; split <;> exact hxl)]
    exact hcx
  have HR4 := hide hr4
  clear hr4
  go_wp2_with fail
  refine (hex_any B p _ _ _ a bs n c HA.out.1 (by have := HL.out.1; have := HL.out.2.2.2; simp [ofB_length, lenS, valS, cma]; omega) HL.out.2.2.1 HA.out.2.1 w4 HR4.out HA.out.2.2.2.1 H4.out.1).mono ?_
  rintro e w5 ⟨rfl, hw5, hb5⟩
  have H5 := hide (And.intro hw5 (H4.out.2.trans hb5))
  clear hw5 hb5 H4
  go_wp2_with fail
  refine (end_any B p _ _ ps _ 125 w5 H5.out.1 (by have := HL.out.1; have := HL.out.2.2.2; have := HL.out.2.2.1; simp [ofB_length, lenS, valS, cma, hx_length]; omega)).mono ?_
  rintro e w6 ⟨rfl, hw6, hb6⟩
  rw [bt_eq] at hw6
  have H6 := hide (And.intro hw6 (H5.out.2.trans hb6))
  clear hw6 hb6 H5
  go_wp2
  go_end0
  exact ⟨rfl, H6.out.1, H6.out.2⟩

end Go.Proofs.Qxb6614820aDoor.Wr
