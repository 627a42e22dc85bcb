import Derived.Test.Qxb6603225aCalls
namespace Go.Proofs.Qxb6603225a
open Go.RowKit

theorem below_drewN {B : Nat} {a w : World} (h : Below B a w) (n : Nat) : Below B a (w.drewN n) := ⟨h.os, h.tape, h.output, h.size, h.block⟩
/-- The law's end: true, and nothing old has turned. -/
def Holds (w : World) (e : Ending) (w' : World) : Prop := e = .returned (.bool true) ∧ Below w.heap.size w w'
theorem Holds.mk {w w' : World} (h : Below w.heap.size w w') : Holds w (.returned (.bool true)) w' := ⟨rfl, h⟩

set_option maxHeartbeats 400000 in
theorem fn5 (va vb : Value) (A B : List ByteArray) (w : World) (ha : Strs w.heap.size w va A) (hb : Strs w.heap.size w vb B) :
    Calls Try.prog 5 #[va, vb] w (Holds w) := by
  obtain ⟨aoa, na, ca, rfl⟩ := ha.form
  obtain ⟨aob, nb, cb, rfl⟩ := hb.form
  go_enter Try.func5, Try.ntmps5
  go_wp2_with fail
  refine (bytes17_any _ _ _ A B w ha hb).mono ?_
  rintro e w' ⟨r, rfl, rfl, hr⟩
  cases r with
  | false =>
    go_wp2_with fail
    go_ret
    exact Holds.mk (Below.refl _ _)
  | true =>
    obtain ⟨hla, hlb⟩ := hr rfl
    clear hr
    go_wp2_with fail
    refine (idsBytes_any _ _ A 0 w' ha hla).mono ?_
    rintro e w1 ⟨r1, rfl, rfl⟩
    go_wp2_with fail
    refine (idsBytes_any _ _ B r1 w1 hb hlb).mono ?_
    rintro e w2 ⟨r2, rfl, rfl⟩
    by_cases hgt : 1048576 < r2
    · go_wp2_with fail
      go_ret
      exact Holds.mk (Below.refl _ _)
    go_wp2_with fail
    refine (nondec_any _ _ A w2 ha hla).mono ?_
    rintro e w3 ⟨q3, r3, rfl, rfl, _⟩
    cases r3 with
    | false =>
      go_wp2_with fail
      go_ret
      exact Holds.mk (below_drewN (Below.refl _ _) _)
    | true =>
    have ha3 := ha.below (below_drewN (Below.refl _ _) q3)
    have hb3 := hb.below (below_drewN (Below.refl _ _) q3)
    have hB3 := below_drewN (Below.refl w2.heap.size w2) q3
    generalize w2.drewN q3 = w3 at *
    go_wp2_with fail
    refine (nondec_any _ _ B w3 hb3 hlb).mono ?_
    rintro e w4 ⟨q4, r4, rfl, rfl, _⟩
    cases r4 with
    | false =>
      go_wp2_with fail
      go_ret
      exact Holds.mk (below_drewN hB3 _)
    | true =>
    have ha4 := ha3.below (below_drewN (Below.refl _ _) q4)
    have hb4 := hb3.below (below_drewN (Below.refl _ _) q4)
    have hB4 := below_drewN hB3 q4
    generalize w3.drewN q4 = w4 at *
    clear ha ha3 hb hb3 hB3
    go_wp2_with fail
    refine (toIDs_any _ _ A w4 hB4.size ha4 hla).mono ?_
    rintro e w5 ⟨v5, rfl, hA5, hB5⟩
    have hb5 := hb4.below (hB5.mono hB4.size)
    have hb5' := hB4.trans (hB5.mono hB4.size)
    go_wp2_with fail
    refine (toIDs_any _ _ B w5 hb5'.size hb5 hlb).mono ?_
    rintro e w6 ⟨v6, rfl, hA6, hB6⟩
    have hA6' := (hA5.below hB6).mono hB6.size
    have hb6 := hb5'.trans (hB6.mono hb5'.size)
    clear hb5 hA5 hB5 hb4 ha4 hB4 hB6 hb5'
    go_wp2_with fail
    refine (join_any v5 v5 A A w6 hA6' hA6' (by omega)).mono ?_
    rintro e w7 ⟨v7, rfl, hJ7, hB7, _⟩
    rw [join_self] at hJ7
    have hA7 := (hA6'.below hB7).mono hB7.size
    have hC7 := (hA6.below hB7).mono hB7.size
    have hb7 := hb6.trans (hB7.mono hb6.size)
    clear hA6 hA6' hb6 hB7
    go_wp2_with fail
    refine (equal_same _ v7 v5 A w7 hJ7 hA7 (by omega)).mono ?_
    rintro e w8 ⟨rfl, q8, rfl⟩
    have hA8 := hA7.below (below_drewN (Below.refl _ _) q8)
    have hC8 := hC7.below (below_drewN (Below.refl _ _) q8)
    have hb8 := below_drewN hb7 q8
    have hs8 : w7.heap.size = (w7.drewN q8).heap.size := rfl
    rw [hs8] at hA8 hC8
    clear hs8 hJ7 hA7 hC7 hb7
    generalize w7.drewN q8 = w8 at *
    go_wp2_with fail
    refine (join_any v5 v6 A B w8 hA8 hC8 (by omega)).mono ?_
    rintro e w9 ⟨v9, rfl, hJ9, hB9, _⟩
    have hlJ := join_length A B
    have hA9 := (hA8.below hB9).mono hB9.size
    have hC9 := (hC8.below hB9).mono hB9.size
    have hb9 := hb8.trans (hB9.mono hb8.size)
    clear hA8 hC8 hb8 hB9
    go_wp2_with fail
    refine (join_any v9 v6 (join A B) B w9 hJ9 hC9 (by omega)).mono ?_
    rintro e w10 ⟨v10, rfl, hJ10, hB10, _⟩
    rw [join_absorbs_right] at hJ10
    have hA10 := (hA9.below hB10).mono hB10.size
    have hK10 := (hJ9.below hB10).mono hB10.size
    have hb10 := hb9.trans (hB10.mono hb9.size)
    clear hA9 hC9 hJ9 hb9 hB10
    go_wp2_with fail
    refine (equal_same _ v10 v9 (join A B) w10 hJ10 hK10 (by omega)).mono ?_
    rintro e w11 ⟨rfl, q11, rfl⟩
    have hA11 := hA10.below (below_drewN (Below.refl _ _) q11)
    have hK11 := hK10.below (below_drewN (Below.refl _ _) q11)
    have hb11 := below_drewN hb10 q11
    have hs11 : w10.heap.size = (w10.drewN q11).heap.size := rfl
    rw [hs11] at hA11 hK11
    clear hs11 hJ10 hA10 hK10 hb10
    generalize w10.drewN q11 = w11 at *
    go_wp2_with fail
    refine (join_any v9 v5 (join A B) A w11 hK11 hA11 (by omega)).mono ?_
    rintro e w12 ⟨v12, rfl, hJ12, hB12, _⟩
    rw [join_absorbs_left] at hJ12
    have hK12 := (hK11.below hB12).mono hB12.size
    have hb12 := hb11.trans (hB12.mono hb11.size)
    clear hA11 hK11 hb11 hB12
    go_wp2_with fail
    refine (equal_same _ v12 v9 (join A B) w12 hJ12 hK12 (by omega)).mono ?_
    rintro e w13 ⟨rfl, q13, rfl⟩
    go_wp2_with fail
    go_ret
    exact Holds.mk (below_drewN hb12 _)

end Go.Proofs.Qxb6603225a
