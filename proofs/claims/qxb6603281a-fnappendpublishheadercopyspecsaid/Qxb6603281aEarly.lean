import Derived.Test.Qxb6603281aPlain
import Derived.BigQuiet
import Derived.Laws.ShiftsVarLaws
namespace Go.Proofs.Qxb6603281a
open Go.RowKit

/-- The law's end: true, and nothing old has turned. -/
def Holds (w : World) (e : Ending) (w' : World) : Prop := e = .returned (.bool true) ∧ Below w.heap.size w w'
theorem Holds.mk {w w' : World} (h : Below w.heap.size w w') : Holds w (.returned (.bool true)) w' := ⟨rfl, h⟩
theorem below_drew {B : Nat} {a w : World} (h : Below B a w) (q : Nat) : Below B a (w.drewN q) := ⟨h.os, h.tape, h.output, h.size, h.block⟩

set_option maxHeartbeats 1000000 in
theorem fn7_early (v hv : Value) (bs hs : List Int) (z p : Int) (d : Bool) (w : World) (hbv : Bytes w.heap.size w v bs) (hhv : Bytes w.heap.size w hv hs)
    (hno : ¬ (bs.length ≤ 65536 ∧ hs.length ≤ 65536 ∧ 3 ≤ hs.length ∧ z ≤ 3)) : Calls Try.prog 7 #[v, hv, .int .u8 z, .int .u16 p, .bool d] w (Holds w) := by
  obtain ⟨ao, cap, rfl, _, _⟩ := hbv
  obtain ⟨bo, cap', rfl, _, _⟩ := hhv
  have C := hide (bytes16_any ao bo bs.length cap hs.length cap' z p d w)
  generalize bs.length = n at *
  generalize hs.length = m at *
  by_cases hs16 : n + m ≤ 1048576
  · rw [decide_eq_true hs16] at C
    by_cases g1 : n ≤ 65536
    · by_cases g2 : m ≤ 65536
      · by_cases g3 : 3 ≤ m
        · have g4 : ¬ z ≤ 3 := fun h => hno ⟨g1, g2, g3, h⟩
          clear hno
          go_enter Try.func7, Try.ntmps7
          go_wp2_with fail
          refine C.out.mono ?_
          rintro e w' ⟨rfl, rfl⟩
          go_wp2_with fail
          go_ret
          exact Holds.mk (Below.refl _ _)
        · clear hno
          go_enter Try.func7, Try.ntmps7
          go_wp2_with fail
          refine C.out.mono ?_
          rintro e w' ⟨rfl, rfl⟩
          go_wp2_with fail
          go_ret
          exact Holds.mk (Below.refl _ _)
      · clear hno
        go_enter Try.func7, Try.ntmps7
        go_wp2_with fail
        refine C.out.mono ?_
        rintro e w' ⟨rfl, rfl⟩
        go_wp2_with fail
        go_ret
        exact Holds.mk (Below.refl _ _)
    · clear hno
      go_enter Try.func7, Try.ntmps7
      go_wp2_with fail
      refine C.out.mono ?_
      rintro e w' ⟨rfl, rfl⟩
      go_wp2_with fail
      go_ret
      exact Holds.mk (Below.refl _ _)
  · rw [decide_eq_false hs16] at C
    clear hno
    go_enter Try.func7, Try.ntmps7
    go_wp2_with fail
    refine C.out.mono ?_
    rintro e w' ⟨rfl, rfl⟩
    go_wp2_with fail
    go_ret
    exact Holds.mk (Below.refl _ _)

end Go.Proofs.Qxb6603281a
