import Derived.Test.Qxb6603225aUnion
namespace Go.Proofs.Qxb6603225a
open Go.RowKit

theorem Strs.form' {B : Nat} {w : World} {v : Value} {xs : List ByteArray} (h : Strs B w v xs) : ∃ ao c, v = .slice ao xs.length c := by
  obtain ⟨ao, cap, rfl, _⟩ := h
  exact ⟨_, _, rfl⟩

theorem below_drewN {B : Nat} {a w : World} (h : Below B a w) (n : Nat) : Below B a (w.drewN n) := ⟨h.os, h.tape, h.output, h.size, h.block⟩
/-- The law's end: true, and nothing old has turned. -/
def Holds (w : World) (e : Ending) (w' : World) : Prop := e = .returned (.bool true) ∧ Below w.heap.size w w'
theorem Holds.mk {w w' : World} (h : Below w.heap.size w w') : Holds w (.returned (.bool true)) w' := ⟨rfl, h⟩

set_option maxHeartbeats 400000 in
theorem fn3 (va vb : Value) (A B : List ByteArray) (w : World) (ha : Strs w.heap.size w va A) (hb : Strs w.heap.size w vb B) :
    Calls Try.prog 3 #[va, vb] w (Holds w) := by
  have hqn := fun (w : World) (a : Option Addr) (n c : Nat) => Lib.run_eql_slice_nil (P := Try.prog) w 27 45 a n c 0 0 Try.underlying27
  obtain ⟨aoa, ca, rfl⟩ := ha.form'
  obtain ⟨aob, cb, rfl⟩ := hb.form'
  go_enter Try.func3, Try.ntmps3
  go_wp2_with fail
  refine (bytes9_any _ _ _ A B w ha hb).mono ?_
  rintro e w' ⟨r, rfl, rfl, hr⟩
  cases r with
  | false =>
    go_wp2_with fail
    go_ret
    exact Holds.mk (Below.refl _ _)
  | true =>
    obtain ⟨hla, hlb⟩ := hr rfl
    clear hr
    go_wp2_with fail
    refine (idsBytes_any _ _ A 0 w' ha hla).mono ?_
    rintro e w1 ⟨r1, rfl, rfl⟩
    go_wp2_with fail
    refine (idsBytes_any _ _ B r1 w1 hb hlb).mono ?_
    rintro e w2 ⟨r2, rfl, rfl⟩
    by_cases hgt : 1048576 < r2
    · go_wp2_with fail
      go_ret
      exact Holds.mk (Below.refl _ _)
    go_wp2_with fail
    refine (nondec_any _ _ A w2 ha hla).mono ?_
    rintro e w3 ⟨q3, r3, rfl, rfl, hs3⟩
    cases r3 with
    | false =>
      go_wp2_with fail
      go_ret
      exact Holds.mk (below_drewN (Below.refl _ _) _)
    | true =>
    have ha3 := ha.below (below_drewN (Below.refl _ _) q3)
    have hb3 := hb.below (below_drewN (Below.refl _ _) q3)
    have hB3 := below_drewN (Below.refl w2.heap.size w2) q3
    generalize w2.drewN q3 = w3 at *
    go_wp2_with fail
    refine (nondec_any _ _ B w3 hb3 hlb).mono ?_
    rintro e w4 ⟨q4, r4, rfl, rfl, hs4⟩
    cases r4 with
    | false =>
      go_wp2_with fail
      go_ret
      exact Holds.mk (below_drewN hB3 _)
    | true =>
    have ha4 := ha3.below (below_drewN (Below.refl _ _) q4)
    have hb4 := hb3.below (below_drewN (Below.refl _ _) q4)
    have hB4 := below_drewN hB3 q4
    generalize w3.drewN q4 = w4 at *
    clear ha ha3 hb hb3 hB3
    go_wp2_with fail
    refine (toIDs_any _ _ A w4 hB4.size ha4 hla).mono ?_
    rintro e w5 ⟨v5, rfl, hA5, hB5⟩
    have hb5 := hb4.below (hB5.mono hB4.size)
    have hb5' := hB4.trans (hB5.mono hB4.size)
    go_wp2_with fail
    refine (toIDs_any _ _ B w5 hb5'.size hb5 hlb).mono ?_
    rintro e w6 ⟨v6, rfl, hA6, hB6⟩
    have hA6' := (hA5.below hB6).mono hB6.size
    have hb6 := hb5'.trans (hB6.mono hb5'.size)
    clear hb5 hA5 hB5 hb4 ha4 hB4 hB6 hb5'
    have hSA : Sorted A := sorted_of_asc (hs3 trivial)
    have hSB : Sorted B := sorted_of_asc (hs4 trivial)
    clear hs3 hs4
    have KSA := hide hSA
    have KSB := hide hSB
    clear hSA hSB
    go_wp2_with fail
    refine (join_any v5 v6 A B w6 hA6' hA6 (by omega)).mono ?_
    rintro e w7 ⟨v7, rfl, hJ7, hB7, hnil⟩
    have hA7 := (hA6'.below hB7).mono hB7.size
    have hC7 := (hA6.below hB7).mono hB7.size
    have hb7 := hb6.trans (hB7.mono hb6.size)
    have hlJ := join_length A B
    clear hA6 hA6' hb6 hB7
    have U := union_any w7.heap.size v5 v6 v7 A B (join A B) w7 hA7 hC7 hJ7 hla hlb (by omega) KSA.out KSB.out (join_sorted A B KSA.out KSB.out) (fun v => join_cnt A B v KSA.out KSB.out)
    have KU := hide U
    clear U hA7 hC7
    by_cases h0 : A.length = 0
    · have hg0 : ((A.length : Int) == 0) = true := by simp [h0]
      by_cases h1 : B.length = 0
      · have hg1 : ((B.length : Int) == 0) = true := by simp [h1]
        have hA0 : A = [] := List.eq_nil_of_length_eq_zero h0
        have hB0 : B = [] := List.eq_nil_of_length_eq_zero h1
        have hv : v7 = .slice none 0 0 := hnil (by rw [hA0, hB0]; rfl)
        subst hv
        clear hnil hJ7 KU hA0 hB0 h0 h1
        go_wp2_with fail
        go_ret
        exact Holds.mk hb7
      · have hg1 : ((B.length : Int) == 0) = false := beq_eq_false_iff_ne.2 (by omega)
        clear hnil hJ7 h0 h1
        go_wp2_with fail
        refine (unhide KU).mono ?_
        rintro e w8 ⟨rfl, q8, rfl⟩
        go_wp2_with fail
        go_ret
        exact Holds.mk (below_drewN hb7 _)
    · have hg0 : ((A.length : Int) == 0) = false := beq_eq_false_iff_ne.2 (by omega)
      clear hnil hJ7 h0
      go_wp2_with fail
      refine (unhide KU).mono ?_
      rintro e w8 ⟨rfl, q8, rfl⟩
      go_wp2_with fail
      go_ret
      exact Holds.mk (below_drewN hb7 _)

end Go.Proofs.Qxb6603225a
