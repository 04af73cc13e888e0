import Derived.Test.Qxb6614820aDoorPlain
namespace Go.Proofs.Qxb6614820aDoor.Read
open Go.RowKit Go.Proofs.Qxb6614820aDoor.Eq Go.Proofs.Qxb6614820aDoor.Clone Go.Proofs.Qxb6614820aDoor.Wr Go.Proofs.Qxb6614820aDoor.Dec Go.Proofs.Qxb6614820aDoor.Plain
set_option linter.unusedVariables false
set_option linter.unusedSimpArgs false

/-- From place o of block g on the cells hold the bytes ts. -/
def At (w : World) (g o : Nat) (ts : List Int) : Prop := ∀ k c, ts[k]? = some c → w.cell? ⟨g, o + k, none⟩ = some (.int .u8 c)

theorem At.on {w w' : World} {g o : Nat} {ts : List Int} (h : At w g o ts) (hb : Below w.heap.size w w') : At w' g o ts := fun k c hk => by
  have h1 := h k c hk
  rw [hb.cell (World.block_lt_of_cell? _ _ h1)]
  exact h1

set_option maxHeartbeats 400000 in
/-- zzHasPrefixAt where p stands there: true. -/
theorem prefix_yes (g o T ct : Nat) (ts : List Int) (I : Nat) (K : Int) (hK : K = I) (p : ByteArray) (hT : ts.length = T) (hfit : I + p.size ≤ T) (hTm : T ≤ 1099511627776) (hp : ∀ j, j < p.size → ts[I + j]? = some ((p.data.toList[j]?.getD 0).toNat : Int)) (w : World) (h : At w g o ts) :
    Calls Tryd.prog 30 #[.slice (some ⟨g, o, none⟩) T ct, .int .i64 K, .string p] w fun e w' => e = .returned (.bool true) ∧ ∃ k, w' = w.drewN k := by
  subst hK
  have H := hide (And.intro hT (And.intro hp h))
  clear hT hp h
  have q1 : (I : Int) + p.size ≤ T := by omega
  go_enter Tryd.func30, Tryd.ntmps30
  go_wp2
  go_loopw [7] (fun i wr => ∃ j : Nat, j ≤ p.size ∧ i = .int .i64 j ∧ ∃ n, wr = w.drewN n) (fun i _ => p.size - (intOf i).toNat)
  case atStart => exact ⟨0, Nat.zero_le _, rfl, 0, rfl⟩
  case round =>
    obtain ⟨j, hj, rfl, n, rfl⟩ := hrel
    by_cases hlt : j < p.size
    · have hj1 : (j : Int) < (p.size : Int) := by omega
      have hj2 : (I : Int) + j < T := by omega
      have hc := H.out.2.2 (I + j) _ (H.out.2.1 j hlt)
      have hpj : (p.data.toList[j]?.getD 0) = p[j] := by
        have h5 : j < p.data.toList.length := by simpa using hlt
        rw [List.getElem?_eq_getElem h5]
        rfl
      rw [hpj] at hc
      clear hpj
      go_wp2
      go_quiet (fail)
      go_wp2
      refine ⟨⟨j + 1, hlt, rfl, n + nq, rfl⟩, ?_⟩
      show p.size - ((j : Int) + 1).toNat < p.size - (j : Int).toNat
      omega
    · have hge : (p.size : Int) ≤ (j : Int) := by omega
      go_wp2
      go_ret
      exact ⟨rfl, n, rfl⟩

theorem hxd_lo (d : Nat) (h : d < 10) : hxd d = 48 + (d : Int) := by
  have H : ∀ d : Fin 10, hxd d = 48 + ((d : Nat) : Int) := by decide
  exact H ⟨d, h⟩
theorem hxd_hi (d : Nat) (h : 10 ≤ d) (h2 : d < 16) : hxd d = 87 + (d : Int) := by
  have H : ∀ e : Fin 6, hxd (10 + e) = 87 + ((10 + e : Nat) : Int) := by decide
  have := H ⟨d - 10, by omega⟩
  simp only at this
  rw [show 10 + (d - 10) = d by omega] at this
  exact this

set_option maxHeartbeats 400000 in
/-- zzHexVal at a hex digit. -/
theorem hexVal (d : Nat) (h : d < 16) (w : World) :
    Calls Tryd.prog 31 #[.int .u8 (hxd d)] w fun e w' => e = .returned (.tuple #[.int .u8 d, .bool true]) ∧ w' = w := by
  by_cases h10 : d < 10
  · rw [hxd_lo d h10]
    go_enter Tryd.func31, Tryd.ntmps31
    go_wp2
    go_ret2
    refine ⟨?_, rfl⟩
    show Ending.returned (.tuple #[.int .u8 (48 + (d : Int) - 48), .bool true]) = _
    rw [show (48 + (d : Int) - 48) = d by omega]
  · rw [hxd_hi d (by omega) h]
    have h11 : (10 : Int) ≤ (d : Int) := by omega
    go_enter Tryd.func31, Tryd.ntmps31
    go_wp2
    go_ret2
    refine ⟨?_, rfl⟩
    show Ending.returned (.tuple #[.int .u8 (87 + (d : Int) - 97 + 10), .bool true]) = _
    rw [show (87 + (d : Int) - 97 + 10) = d by omega]
end Go.Proofs.Qxb6614820aDoor.Read
