import Derived.Test.Qxb6614820aDoorRead
import Derived.Test.Qxb6614820aDoorDigs
import Derived.Lib.HexFns2
namespace Go.Proofs.Qxb6614820aDoor.Read
open Go.RowKit Go.Proofs.Qxb6614820aDoor.Eq Go.Proofs.Qxb6614820aDoor.Clone Go.Proofs.Qxb6614820aDoor.Wr Go.Proofs.Qxb6614820aDoor.Dec Go.Proofs.Qxb6614820aDoor.Plain Go.Proofs.Qxb6614820aDoor.Digs
set_option linter.unusedVariables false
set_option linter.unusedSimpArgs false

def headS : ByteArray := ⟨#[123, 34, 108, 101, 110, 103, 116, 104, 34, 58]⟩
def midS : ByteArray := ⟨#[44, 34, 118, 97, 108, 117, 101, 34, 58, 34]⟩

/-- What the reader meets in a text of Bits: S the place of the first digit, D the digits' number, dg the digits. -/
structure Txt (ts bs : List Int) (S D : Nat) (neg : Bool) (dg : Nat → Nat) : Prop where
  len : ts.length = S + D + 10 + 2 * bs.length + 2
  p1 : ∀ j, j < headS.size → ts[0 + j]? = some ((headS.data.toList[j]?.getD 0).toNat : Int)
  minus : neg = true → ts[10]? = some 45
  dig : ∀ j, j < D → ts[S + j]? = some (48 + (dg j : Int))
  com : ts[S + D]? = some 44
  p2 : ∀ j, j < midS.size → ts[S + D + j]? = some ((midS.data.toList[j]?.getD 0).toNat : Int)
  hi : ∀ j, j < bs.length → ts[S + D + 10 + 2 * j]? = some (hxd ((bs.getD j 0).toNat / 16))
  lo : ∀ j, j < bs.length → ts[S + D + 10 + 2 * j + 1]? = some (hxd ((bs.getD j 0).toNat % 16))
  e1 : ts[S + D + 10 + 2 * bs.length]? = some 34
  e2 : ts[S + D + 10 + 2 * bs.length + 1]? = some 125

theorem or_eq (x : Int) (h0 : 0 ≤ x) (h1 : x < 256) : bits BinOp.or IntKind.u8 (((x.toNat / 16 : Nat) : Int) * 16) ((x.toNat % 16 : Nat) : Int) = x := by
  rw [Lib.Hx.or_digits _ _ (by omega) (by omega), UInt8.toNat_ofNat', Nat.mod_eq_of_lt (by omega)]
  omega

set_option maxHeartbeats 400000 in
set_option maxRecDepth 100000 in
/-- zzReadsBackBits, n not below zero. -/
theorem readsBack_pos (g o T ct : Nat) (ts bs : List Int) (D M U : Nat) (f dg : Nat → Nat) (ab : Option Addr) (cb : Nat) (hM : bs.length = M) (hMm : M ≤ 262144) (hbs : Bytes bs) (hT : ts.length = T)
    (hx : Txt ts bs 10 D false dg) (hU : U ≤ 9223372036854775807) (hD1 : 1 ≤ D) (hD : D ≤ 19) (hf0 : f 0 = 0) (hfD : f D = U) (hf : ∀ j, j < D → f (j + 1) = f j * 10 + dg j ∧ dg j ≤ 9) (hfU : ∀ j, f j ≤ U) (hz : dg 0 = 0 → U = 0 ∧ D = 1) (w : World) (h : At w g o ts) (hr : Rd w ab bs) :
    Calls Tryd.prog 21 #[.slice (some ⟨g, o, none⟩) T ct, .slice ab M cb, .int .i64 (U : Int)] w fun e w' => e = .returned (.bool true) ∧ ∃ k, w' = w.drewN k := by
  have hTe : T = 10 + D + 10 + 2 * M + 2 := by rw [← hT, ← hM]; exact hx.len
  have hT1 : T ≤ 10 + D + 10 + 2 * M + 2 := by omega
  have hT2 : 10 + D + 10 + 2 * M + 2 ≤ T := by omega
  clear hTe
  have c10 := h (10 + 0) _ (hx.dig 0 hD1)
  have hd0 := (hf 0 hD1).2

  obtain ⟨d0, hd0e⟩ : ∃ d0, dg 0 = d0 := ⟨_, rfl⟩
  rw [hd0e] at c10 hd0 hz
  have h45 : (48 + (d0 : Int) == 45) = false := by simp; omega

  have H := hide (And.intro hM (And.intro hbs (And.intro hT (And.intro hx (And.intro h (And.intro hr (And.intro hfD (And.intro hf hfU))))))))
  have HZ := hide hz
  clear hM hbs hT hx h hr hfD hf hfU hz hd0e
  have sz1 : headS.size = 10 := rfl
  have sz2 : midS.size = 10 := rfl
  have HP1 := hide (prefix_yes g o T ct ts 0 0 rfl headS H.out.2.2.1 (by rw [sz1]; omega) (by omega) H.out.2.2.2.1.p1 w H.out.2.2.2.2.1)
  have HP2 : Hid (∀ n1 I, I = 10 + D → Calls Tryd.prog 30 #[.slice (some ⟨g, o, none⟩) T ct, .int .i64 (I : Int), .string midS] (w.drewN n1) fun e w' => e = .returned (.bool true) ∧ ∃ k, w' = (w.drewN n1).drewN k) := by
    rintro n1 I rfl
    exact prefix_yes g o T ct ts (10 + D) _ rfl midS H.out.2.2.1 (by rw [sz2]; omega) (by omega) H.out.2.2.2.1.p2 _ (H.out.2.2.2.2.1.on (below_draws _ _))
  clear sz1 sz2
  go_enter Tryd.func21, Tryd.ntmps21
  go_wp2_with fail
  refine HP1.out.mono ?_
  rintro e w1 ⟨rfl, n1, rfl⟩
  go_wp2
  go_loopw [8, 11] (fun i m wr => ∃ I j : Nat, 10 + j ≤ I ∧ I ≤ 10 + j ∧ j ≤ D ∧ i = .int .i64 I ∧ m = .int .u64 (f j : Nat) ∧ ∃ n, wr = w.drewN n) (fun i m _ => 10 + D - (intOf i).toNat)
  case atStart => exact ⟨10, 0, by omega, by omega, by omega, rfl, by rw [hf0]; rfl, _, by first | rfl | exact World.drewN_drewN _ _ _⟩
  case round =>
    obtain ⟨I, j, hI1, hI2, hj, rfl, rfl, n2, rfl⟩ := hrel
    by_cases hlt : j < D
    · have c1 := H.out.2.2.2.2.1 _ _ (H.out.2.2.2.1.dig j hlt)
      have hf1 := H.out.2.2.2.2.2.2.2.1 j hlt
      have hf2 := H.out.2.2.2.2.2.2.2.2 (j + 1)
      rw [show 10 + j = I by omega] at c1
      obtain ⟨F, hF⟩ : ∃ F, f j = F := ⟨_, rfl⟩
      obtain ⟨d, hd⟩ : ∃ d, dg j = d := ⟨_, rfl⟩
      rw [hF]
      rw [hF, hd] at hf1
      rw [hd] at c1
      have hF1 : (F : Int) * 10 + d ≤ 9223372036854775808 := by omega
      have hd9 : (d : Int) ≤ 9 := by omega
      have HF := hide (And.intro hf1 (And.intro hF hd))
      clear hf1 hf2 hF hd
      have hIT : (I : Int) < T := by omega
      have hI19 : (I : Int) - 10 < 19 := by omega
      go_wp2
      go_roundw
      case rel =>
        refine ⟨I + 1, j + 1, by omega, by omega, hlt, by go_num, ?_, _, rfl⟩
        have hv : (F : Int) * 10 + (48 + (d : Int) - 48) = ((f (j + 1) : Nat) : Int) := by rw [HF.out.1.1]; omega
        first | exact congrArg (Value.int .u64) hv | (rw [← hv]; rfl)
      case measure => simp [intOf]; omega
    · have c1 := H.out.2.2.2.2.1 _ _ H.out.2.2.2.1.com
      have hjD : j = D := by omega
      subst hjD
      rw [show 10 + j = I by omega] at c1
      rw [H.out.2.2.2.2.2.2.1]
      clear hlt hj
      have hIT : (I : Int) < T := by omega
      have hI0 : (0 : Int) < (I : Int) - 10 := by omega
      obtain ⟨Ds, hDs⟩ : ∃ Ds : Int, (I : Int) - 10 = Ds := ⟨_, rfl⟩
      have hcase : (d0 = 0 ∧ U = 0 ∧ j = 1) ∨ 0 < d0 := by
        by_cases h0 : d0 = 0
        · exact .inl ⟨h0, HZ.out h0⟩
        · exact .inr (by omega)
      rcases hcase with ⟨rfl, rfl, hj1⟩ | hd0p
      · have hIs : (I : Int) - 10 ≤ 1 := by omega
        have HJ := hide hj1
        clear hj1 HZ
        go_wp2_with fail
        refine (HP2.out n2 I (by omega)).mono ?_
        rintro e w3 ⟨rfl, n3, rfl⟩
        rw [World.drewN_drewN]
        clear hIs c1 hI0 hDs hIT c10
        go_wp2
        go_loopw [8, 16] (fun i jv wr => ∃ I2 q : Nat, I + 10 + 2 * q ≤ I2 ∧ I2 ≤ I + 10 + 2 * q ∧ q ≤ M ∧ i = .int .i64 I2 ∧ jv = .int .i64 q ∧ ∃ n, wr = w.drewN n) (fun _ jv _ => M - (intOf jv).toNat)
        case atStart => exact ⟨I + 10, 0, by omega, by omega, by omega, by go_num, rfl, _, by first | rfl | exact World.drewN_drewN _ _ _⟩
        case round =>
          obtain ⟨I2, q, hQ1, hQ2, hq, rfl, rfl, n4, rfl⟩ := hrel
          by_cases hlt : q < M
          · have hqM : q < bs.length := by rw [H.out.1]; exact hlt
            have c1 := H.out.2.2.2.2.1 _ _ (H.out.2.2.2.1.hi q hqM)
            have c2 := H.out.2.2.2.2.1 _ _ (H.out.2.2.2.1.lo q hqM)
            obtain ⟨b1, o1, rfl, c3⟩ := H.out.2.2.2.2.2.1.form (by omega)
            have c3 := c3 q hqM
            have hx := H.out.2.1 q hqM
            obtain ⟨x, hxe⟩ : ∃ x, bs.getD q 0 = x := ⟨_, rfl⟩
            rw [hxe] at c1 c2 c3 hx
            rw [show 10 + j + 10 + 2 * q = I2 by omega] at c1 c2
            have hor := or_eq x hx.1 hx.2
            have hdh : x.toNat / 16 < 16 := by omega
            have hdl : x.toNat % 16 < 16 := by omega
            obtain ⟨dh, hdhe⟩ : ∃ dh, x.toNat / 16 = dh := ⟨_, rfl⟩
            obtain ⟨dl, hdle⟩ : ∃ dl, x.toNat % 16 = dl := ⟨_, rfl⟩
            rw [hdhe] at c1 hor hdh
            rw [hdle] at c2 hor hdl
            obtain ⟨ch, hch⟩ : ∃ ch, hxd dh = ch := ⟨_, rfl⟩
            obtain ⟨cl, hcl⟩ : ∃ cl, hxd dl = cl := ⟨_, rfl⟩
            rw [hch] at c1
            rw [hcl] at c2
            have HV1 : Hid (∀ w, Calls Tryd.prog 31 #[.int .u8 ch] w fun e w' => e = .returned (.tuple #[.int .u8 dh, .bool true]) ∧ w' = w) := fun w => hch ▸ hexVal dh hdh w
            have HV2 : Hid (∀ w, Calls Tryd.prog 31 #[.int .u8 cl] w fun e w' => e = .returned (.tuple #[.int .u8 dl, .bool true]) ∧ w' = w) := fun w => hcl ▸ hexVal dl hdl w
            have hqM' : (q : Int) < M := by omega
            have hI2 : (I2 : Int) + 2 ≤ T := by omega
            clear hxe hdhe hdle hch hcl hqM
            go_wp2_with fail
            refine (HV1.out _).mono ?_
            rintro e w4 ⟨rfl, rfl⟩
            go_wp2_with fail
            refine (HV2.out _).mono ?_
            rintro e w5 ⟨rfl, rfl⟩
            go_wp2
            go_roundw
            case rel => exact ⟨I2 + 2, q + 1, by omega, by omega, hlt, by go_num, by go_num, _, rfl⟩
            case measure => simp [intOf]; omega
          · have hqM : q = M := by omega
            subst hqM
            have c1 := H.out.2.2.2.2.1 _ _ H.out.2.2.2.1.e1
            have c2 := H.out.2.2.2.2.1 _ _ H.out.2.2.2.1.e2
            rw [H.out.1] at c1 c2
            rw [show 10 + j + 10 + 2 * q = I2 by omega] at c1 c2
            have hTq : ((T : Int) == (I2 : Int) + 2) = true := by simp; omega
            go_wp2
            go_ret
            exact ⟨rfl, _, rfl⟩
      · have hne : (48 + (d0 : Int) == 48) = false := by simp; omega
        go_wp2_with fail
        refine (HP2.out n2 I (by omega)).mono ?_
        rintro e w3 ⟨rfl, n3, rfl⟩
        rw [World.drewN_drewN]
        clear hd0p hne c1 hI0 hDs hIT c10
        go_wp2
        go_loopw [8, 16] (fun i jv wr => ∃ I2 q : Nat, I + 10 + 2 * q ≤ I2 ∧ I2 ≤ I + 10 + 2 * q ∧ q ≤ M ∧ i = .int .i64 I2 ∧ jv = .int .i64 q ∧ ∃ n, wr = w.drewN n) (fun _ jv _ => M - (intOf jv).toNat)
        case atStart => exact ⟨I + 10, 0, by omega, by omega, by omega, by go_num, rfl, _, by first | rfl | exact World.drewN_drewN _ _ _⟩
        case round =>
          obtain ⟨I2, q, hQ1, hQ2, hq, rfl, rfl, n4, rfl⟩ := hrel
          by_cases hlt : q < M
          · have hqM : q < bs.length := by rw [H.out.1]; exact hlt
            have c1 := H.out.2.2.2.2.1 _ _ (H.out.2.2.2.1.hi q hqM)
            have c2 := H.out.2.2.2.2.1 _ _ (H.out.2.2.2.1.lo q hqM)
            obtain ⟨b1, o1, rfl, c3⟩ := H.out.2.2.2.2.2.1.form (by omega)
            have c3 := c3 q hqM
            have hx := H.out.2.1 q hqM
            obtain ⟨x, hxe⟩ : ∃ x, bs.getD q 0 = x := ⟨_, rfl⟩
            rw [hxe] at c1 c2 c3 hx
            rw [show 10 + j + 10 + 2 * q = I2 by omega] at c1 c2
            have hor := or_eq x hx.1 hx.2
            have hdh : x.toNat / 16 < 16 := by omega
            have hdl : x.toNat % 16 < 16 := by omega
            obtain ⟨dh, hdhe⟩ : ∃ dh, x.toNat / 16 = dh := ⟨_, rfl⟩
            obtain ⟨dl, hdle⟩ : ∃ dl, x.toNat % 16 = dl := ⟨_, rfl⟩
            rw [hdhe] at c1 hor hdh
            rw [hdle] at c2 hor hdl
            obtain ⟨ch, hch⟩ : ∃ ch, hxd dh = ch := ⟨_, rfl⟩
            obtain ⟨cl, hcl⟩ : ∃ cl, hxd dl = cl := ⟨_, rfl⟩
            rw [hch] at c1
            rw [hcl] at c2
            have HV1 : Hid (∀ w, Calls Tryd.prog 31 #[.int .u8 ch] w fun e w' => e = .returned (.tuple #[.int .u8 dh, .bool true]) ∧ w' = w) := fun w => hch ▸ hexVal dh hdh w
            have HV2 : Hid (∀ w, Calls Tryd.prog 31 #[.int .u8 cl] w fun e w' => e = .returned (.tuple #[.int .u8 dl, .bool true]) ∧ w' = w) := fun w => hcl ▸ hexVal dl hdl w
            have hqM' : (q : Int) < M := by omega
            have hI2 : (I2 : Int) + 2 ≤ T := by omega
            clear hxe hdhe hdle hch hcl hqM
            go_wp2_with fail
            refine (HV1.out _).mono ?_
            rintro e w4 ⟨rfl, rfl⟩
            go_wp2_with fail
            refine (HV2.out _).mono ?_
            rintro e w5 ⟨rfl, rfl⟩
            go_wp2
            go_roundw
            case rel => exact ⟨I2 + 2, q + 1, by omega, by omega, hlt, by go_num, by go_num, _, rfl⟩
            case measure => simp [intOf]; omega
          · have hqM : q = M := by omega
            subst hqM
            have c1 := H.out.2.2.2.2.1 _ _ H.out.2.2.2.1.e1
            have c2 := H.out.2.2.2.2.1 _ _ H.out.2.2.2.1.e2
            rw [H.out.1] at c1 c2
            rw [show 10 + j + 10 + 2 * q = I2 by omega] at c1 c2
            have hTq : ((T : Int) == (I2 : Int) + 2) = true := by simp; omega
            go_wp2
            go_ret
            exact ⟨rfl, _, rfl⟩

set_option maxHeartbeats 400000 in
set_option maxRecDepth 100000 in
/-- zzReadsBackBits, n below zero. -/
theorem readsBack_neg (g o T ct : Nat) (ts bs : List Int) (D M U : Nat) (f dg : Nat → Nat) (ab : Option Addr) (cb : Nat) (hM : bs.length = M) (hMm : M ≤ 262144) (hbs : Bytes bs) (hT : ts.length = T)
    (hx : Txt ts bs 11 D true dg) (hU : U ≤ 9223372036854775808) (hU1 : 1 ≤ U) (hD1 : 1 ≤ D) (hD : D ≤ 19) (hf0 : f 0 = 0) (hfD : f D = U) (hf : ∀ j, j < D → f (j + 1) = f j * 10 + dg j ∧ dg j ≤ 9) (hfU : ∀ j, f j ≤ U) (hz : dg 0 = 0 → U = 0 ∧ D = 1) (w : World) (h : At w g o ts) (hr : Rd w ab bs) :
    Calls Tryd.prog 21 #[.slice (some ⟨g, o, none⟩) T ct, .slice ab M cb, .int .i64 (-(U : Int))] w fun e w' => e = .returned (.bool true) ∧ ∃ k, w' = w.drewN k := by
  have hTe : T = 11 + D + 10 + 2 * M + 2 := by rw [← hT, ← hM]; exact hx.len
  have hT1 : T ≤ 11 + D + 10 + 2 * M + 2 := by omega
  have hT2 : 11 + D + 10 + 2 * M + 2 ≤ T := by omega
  clear hTe
  have c10 := h (11 + 0) _ (hx.dig 0 hD1)
  have hd0 := (hf 0 hD1).2
  have c9 := h 10 _ (hx.minus rfl)
  obtain ⟨d0, hd0e⟩ : ∃ d0, dg 0 = d0 := ⟨_, rfl⟩
  rw [hd0e] at c10 hd0 hz
  have h45 : (48 + (d0 : Int) == 45) = false := by simp; omega
  obtain ⟨X, hX⟩ : ∃ X, IntKind.u64.wrap (-(U : Int)) = X := ⟨_, rfl⟩
  have hw : IntKind.u64.wrap (-X) = (U : Int) := by rw [← hX, IntKind.wrap_u64, IntKind.wrap_u64]; omega
  have H := hide (And.intro hM (And.intro hbs (And.intro hT (And.intro hx (And.intro h (And.intro hr (And.intro hfD (And.intro hf hfU))))))))
  have HZ := hide hz
  clear hM hbs hT hx h hr hfD hf hfU hz hd0e
  have sz1 : headS.size = 10 := rfl
  have sz2 : midS.size = 10 := rfl
  have HP1 := hide (prefix_yes g o T ct ts 0 0 rfl headS H.out.2.2.1 (by rw [sz1]; omega) (by omega) H.out.2.2.2.1.p1 w H.out.2.2.2.2.1)
  have HP2 : Hid (∀ n1 I, I = 11 + D → Calls Tryd.prog 30 #[.slice (some ⟨g, o, none⟩) T ct, .int .i64 (I : Int), .string midS] (w.drewN n1) fun e w' => e = .returned (.bool true) ∧ ∃ k, w' = (w.drewN n1).drewN k) := by
    rintro n1 I rfl
    exact prefix_yes g o T ct ts (11 + D) _ rfl midS H.out.2.2.1 (by rw [sz2]; omega) (by omega) H.out.2.2.2.1.p2 _ (H.out.2.2.2.2.1.on (below_draws _ _))
  clear sz1 sz2
  go_enter Tryd.func21, Tryd.ntmps21
  go_wp2_with fail
  refine HP1.out.mono ?_
  rintro e w1 ⟨rfl, n1, rfl⟩
  go_wp2
  go_loopw [8, 11] (fun i m wr => ∃ I j : Nat, 11 + j ≤ I ∧ I ≤ 11 + j ∧ j ≤ D ∧ i = .int .i64 I ∧ m = .int .u64 (f j : Nat) ∧ ∃ n, wr = w.drewN n) (fun i m _ => 11 + D - (intOf i).toNat)
  case atStart => exact ⟨11, 0, by omega, by omega, by omega, rfl, by rw [hf0]; rfl, _, by first | rfl | exact World.drewN_drewN _ _ _⟩
  case round =>
    obtain ⟨I, j, hI1, hI2, hj, rfl, rfl, n2, rfl⟩ := hrel
    by_cases hlt : j < D
    · have c1 := H.out.2.2.2.2.1 _ _ (H.out.2.2.2.1.dig j hlt)
      have hf1 := H.out.2.2.2.2.2.2.2.1 j hlt
      have hf2 := H.out.2.2.2.2.2.2.2.2 (j + 1)
      rw [show 11 + j = I by omega] at c1
      obtain ⟨F, hF⟩ : ∃ F, f j = F := ⟨_, rfl⟩
      obtain ⟨d, hd⟩ : ∃ d, dg j = d := ⟨_, rfl⟩
      rw [hF]
      rw [hF, hd] at hf1
      rw [hd] at c1
      have hF1 : (F : Int) * 10 + d ≤ 9223372036854775808 := by omega
      have hd9 : (d : Int) ≤ 9 := by omega
      have HF := hide (And.intro hf1 (And.intro hF hd))
      clear hf1 hf2 hF hd
      have hIT : (I : Int) < T := by omega
      have hI19 : (I : Int) - 11 < 19 := by omega
      go_wp2
      go_roundw
      case rel =>
        refine ⟨I + 1, j + 1, by omega, by omega, hlt, by go_num, ?_, _, rfl⟩
        have hv : (F : Int) * 10 + (48 + (d : Int) - 48) = ((f (j + 1) : Nat) : Int) := by rw [HF.out.1.1]; omega
        first | exact congrArg (Value.int .u64) hv | (rw [← hv]; rfl)
      case measure => simp [intOf]; omega
    · have c1 := H.out.2.2.2.2.1 _ _ H.out.2.2.2.1.com
      have hjD : j = D := by omega
      subst hjD
      rw [show 11 + j = I by omega] at c1
      rw [H.out.2.2.2.2.2.2.1]
      clear hlt hj
      have hIT : (I : Int) < T := by omega
      have hI0 : (0 : Int) < (I : Int) - 11 := by omega
      obtain ⟨Ds, hDs⟩ : ∃ Ds : Int, (I : Int) - 11 = Ds := ⟨_, rfl⟩
      have hcase : (d0 = 0 ∧ U = 0 ∧ j = 1) ∨ 0 < d0 := by
        by_cases h0 : d0 = 0
        · exact .inl ⟨h0, HZ.out h0⟩
        · exact .inr (by omega)
      rcases hcase with ⟨rfl, rfl, hj1⟩ | hd0p
      · omega
      · have hne : (48 + (d0 : Int) == 48) = false := by simp; omega
        go_wp2_with fail
        refine (HP2.out n2 I (by omega)).mono ?_
        rintro e w3 ⟨rfl, n3, rfl⟩
        rw [World.drewN_drewN]
        clear hd0p hne c1 hI0 hDs hIT c10
        go_wp2
        go_loopw [8, 16] (fun i jv wr => ∃ I2 q : Nat, I + 10 + 2 * q ≤ I2 ∧ I2 ≤ I + 10 + 2 * q ∧ q ≤ M ∧ i = .int .i64 I2 ∧ jv = .int .i64 q ∧ ∃ n, wr = w.drewN n) (fun _ jv _ => M - (intOf jv).toNat)
        case atStart => exact ⟨I + 10, 0, by omega, by omega, by omega, by go_num, rfl, _, by first | rfl | exact World.drewN_drewN _ _ _⟩
        case round =>
          obtain ⟨I2, q, hQ1, hQ2, hq, rfl, rfl, n4, rfl⟩ := hrel
          by_cases hlt : q < M
          · have hqM : q < bs.length := by rw [H.out.1]; exact hlt
            have c1 := H.out.2.2.2.2.1 _ _ (H.out.2.2.2.1.hi q hqM)
            have c2 := H.out.2.2.2.2.1 _ _ (H.out.2.2.2.1.lo q hqM)
            obtain ⟨b1, o1, rfl, c3⟩ := H.out.2.2.2.2.2.1.form (by omega)
            have c3 := c3 q hqM
            have hx := H.out.2.1 q hqM
            obtain ⟨x, hxe⟩ : ∃ x, bs.getD q 0 = x := ⟨_, rfl⟩
            rw [hxe] at c1 c2 c3 hx
            rw [show 11 + j + 10 + 2 * q = I2 by omega] at c1 c2
            have hor := or_eq x hx.1 hx.2
            have hdh : x.toNat / 16 < 16 := by omega
            have hdl : x.toNat % 16 < 16 := by omega
            obtain ⟨dh, hdhe⟩ : ∃ dh, x.toNat / 16 = dh := ⟨_, rfl⟩
            obtain ⟨dl, hdle⟩ : ∃ dl, x.toNat % 16 = dl := ⟨_, rfl⟩
            rw [hdhe] at c1 hor hdh
            rw [hdle] at c2 hor hdl
            obtain ⟨ch, hch⟩ : ∃ ch, hxd dh = ch := ⟨_, rfl⟩
            obtain ⟨cl, hcl⟩ : ∃ cl, hxd dl = cl := ⟨_, rfl⟩
            rw [hch] at c1
            rw [hcl] at c2
            have HV1 : Hid (∀ w, Calls Tryd.prog 31 #[.int .u8 ch] w fun e w' => e = .returned (.tuple #[.int .u8 dh, .bool true]) ∧ w' = w) := fun w => hch ▸ hexVal dh hdh w
            have HV2 : Hid (∀ w, Calls Tryd.prog 31 #[.int .u8 cl] w fun e w' => e = .returned (.tuple #[.int .u8 dl, .bool true]) ∧ w' = w) := fun w => hcl ▸ hexVal dl hdl w
            have hqM' : (q : Int) < M := by omega
            have hI2 : (I2 : Int) + 2 ≤ T := by omega
            clear hxe hdhe hdle hch hcl hqM
            go_wp2_with fail
            refine (HV1.out _).mono ?_
            rintro e w4 ⟨rfl, rfl⟩
            go_wp2_with fail
            refine (HV2.out _).mono ?_
            rintro e w5 ⟨rfl, rfl⟩
            go_wp2
            go_roundw
            case rel => exact ⟨I2 + 2, q + 1, by omega, by omega, hlt, by go_num, by go_num, _, rfl⟩
            case measure => simp [intOf]; omega
          · have hqM : q = M := by omega
            subst hqM
            have c1 := H.out.2.2.2.2.1 _ _ H.out.2.2.2.1.e1
            have c2 := H.out.2.2.2.2.1 _ _ H.out.2.2.2.1.e2
            rw [H.out.1] at c1 c2
            rw [show 11 + j + 10 + 2 * q = I2 by omega] at c1 c2
            have hTq : ((T : Int) == (I2 : Int) + 2) = true := by simp; omega
            go_wp2
            go_ret
            exact ⟨rfl, _, rfl⟩
end Go.Proofs.Qxb6614820aDoor.Read
