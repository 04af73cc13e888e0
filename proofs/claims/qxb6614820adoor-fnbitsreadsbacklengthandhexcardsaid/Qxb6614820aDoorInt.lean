import Derived.Test.Qxb6614820aDoorUse
import Derived.Test.Qxb6614820aDoorDec
import Derived.Test.Qxb6614820aDoorShelf
namespace Go.Proofs.Qxb6614820aDoor.Wr
open Go.RowKit Go.Proofs.Qxb6614820aDoor.Eq Go.Proofs.Qxb6614820aDoor.Clone Go.Proofs.Qxb6614820aDoor.Dec
set_option linter.unusedVariables false
set_option linter.unusedSimpArgs false

/-- The table of powers of ten reads as the program's text lays it, and goes on reading so while nothing below block B turns. -/
def Tab (B : Nat) (w : World) : Prop := Lib.TabBelow Tryd.prog B w tabName .u64 Lib.pow10Tab

theorem Tab.on {B : Nat} {w w' : World} (h : Tab B w) (hb : Below B w w') : Tab B w' := Lib.TabBelow.on h hb
theorem Tab.up {B B' : Nat} {w : World} (h : Tab B w) (hB : B ≤ B') : Tab B' w := fun w' hb => h w' (hb.mono hB)

/-- 'w.b = f(w.b, ..)', f a function of the library's that appends: it keeps what is no row of bytes. -/
theorem IsW.bytesK {B p : Nat} {bv av : Value} {zs : List Int} {first : Bool} {ps : List (Bool × ByteArray × Int)} {w : World} (h : IsW B p bv av zs first ps w) {w1 : World} (hb : Below B w w1) (hk : Lib.OthersKept 5 none w w1) {bv' : Value} {zs' : List Int}
    (ho : w1.ownsRow B 5 1 bv' zs'.length (zs'.map (Value.int .u8))) :
    IsW B p bv' av zs' first ps (w1.setCell ⟨p, 0, none⟩ bv') ∧ Below B w (w1.setCell ⟨p, 0, none⟩ bv') ∧ w1.heap[p]? = w.heap[p]? := by
  have hp0 : w1.heap[p]? = w.heap[p]? := by
    rw [h.blk]
    exact hk p _ h.blk (by simp) (fun c fz e => by cases e)
  have hp1 : w1.heap[p]? = _ := hp0.trans h.blk
  have hap : ∀ {e : TypeId} {k n : Nat} {v : Value} {xs : List Value}, e ≠ 52 → w1.ownsRow B e k v n xs → (w1.setCell ⟨p, 0, none⟩ bv').ownsRow B e k v n xs := by
    intro e k n v xs he hv
    refine ownsRow_block hv (fun g hgg => Below.heap_setCell _ _ _ _ ?_)
    intro hgp
    rw [hgp] at hgg
    rcases hv.2 with ⟨rfl, _⟩ | ⟨g', cap', cur', rfl, _, hg', _⟩
    · cases hgg
    · have : g' = p := by simpa [Value.ownBlock] using hgg
      rw [this, hp1] at hg'
      cases hg'
      exact he rfl
  have hao : w1.ownsRow B 54 3 av ps.length (posCells ps) := by
    refine ownsRow_block h.ao (fun g hg => ?_)
    rcases h.ao.2 with ⟨rfl, _⟩ | ⟨g', cap', cur', rfl, _, hg', _⟩
    · cases hg
    · have : g' = g := by simpa [Value.ownBlock] using hg
      subst this
      rw [hg']
      exact hk g' _ hg' (by simp) (fun c fz e => by cases e)
  refine ⟨⟨?_, h.low, hap (by decide) ho, hap (by decide) hao⟩, hb.setCell h.low _, hp0⟩
  rw [heap_set _ _ _ _ _ _ _ hp1]; rfl

set_option maxHeartbeats 400000 in
/-- (*JSONWriter).Int -/
theorem int_any (B p : Nat) (zs : List Int) (first : Bool) (ps : List (Bool × ByteArray × Int)) (x : Int) (h0 : -9223372036854775808 ≤ x) (h1 : x ≤ 9223372036854775807) (w : World) (h : Wr B p zs first ps w) (htab : Tab B w) (hz : zs.length ≤ 1099511627776) :
    Calls Tryd.prog 10 #[.pointer (some ⟨p, 0, none⟩), .int .i64 x] w fun e w' => e = .returned (.tuple #[]) ∧ Wr B p (zs ++ num x) first ps w' ∧ Below B w w' := by
  obtain ⟨bv, av, h⟩ := h
  have hBw := h.hB
  obtain ⟨ao, cap, rfl⟩ := Wr.shape h.bo
  have c0 := (cell_blk h.blk 0).1
  simp only [List.getElem?_toArray, List.getElem?_cons_zero, List.getElem?_cons_succ] at c0
  have H := hide h
  have HC := hide (Tryd.strconv_AppendInt_10 B zs.length x h0 h1 (.slice ao zs.length cap) (zs.map (Value.int .u8)) w h.bo hBw (by omega) htab)
  clear h htab
  generalize hN : zs.length = N at *
  have HN := hide hN
  clear hN
  go_enter Tryd.func10, Tryd.ntmps10
  go_wp2_with fail
  refine HC.out.mono ?_
  rintro e w1 ⟨v1, rfl, hown1, hb1, hk1⟩
  obtain ⟨a1, cap1, rfl⟩ := Wr.shape hown1
  obtain ⟨IW, bel, hp0⟩ := H.out.bytesK hb1 hk1 (zs' := zs ++ num x) (by rw [List.map_append, List.length_append, HN.out]; unfold num; rw [← cells_ofB, ofB_length]; exact hown1)
  rw [H.out.blk] at hp0
  obtain ⟨d0, e0⟩ := cell_blk hp0 0
  simp only [List.getElem?_toArray, List.getElem?_cons_zero, List.getElem?_cons_succ] at d0
  have hfin := hide (And.intro IW bel)
  clear hown1 hb1 hk1 IW bel hp0 c0
  go_wp2
  go_end0
  exact ⟨rfl, ⟨_, _, hfin.out.1⟩, hfin.out.2⟩

end Go.Proofs.Qxb6614820aDoor.Wr
