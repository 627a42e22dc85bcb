import Derived.Test.Qxb6603225aJoin
import Derived.Test.Qxb6603225aFits
namespace Go.Proofs.Qxb6603225a
open Go.RowKit

theorem Strs.of_own {w : World} {base n : Nat} {v : Value} {xs : List ByteArray} (h : w.ownsRow base 45 1 v n (xs.map .string)) : Strs w.heap.size w v xs := by
  have hl := h.1
  simp only [List.length_map, Nat.mul_one] at hl
  subst hl
  rcases h.2 with ⟨rfl, h0⟩ | ⟨g, cap, cur, rfl, hb, hg, hnc, _⟩
  · exact ⟨none, 0, by rw [h0], by omega, fun hp => by omega⟩
  · refine ⟨_, cap, rfl, hnc, fun _ => ⟨g, 0, rfl, (Array.getElem?_eq_some_iff.1 hg).1, fun j hj => ?_⟩⟩
    rw [Nat.zero_add, h.cellAt j (by omega), List.getElem?_map, List.getElem?_eq_getElem hj]
    simp [List.getElem?_eq_getElem hj]

theorem Strs.form {B : Nat} {w : World} {v : Value} {xs : List ByteArray} (h : Strs B w v xs) : ∃ ao n c, v = .slice ao n c := by
  obtain ⟨ao, cap, rfl, _⟩ := h
  exact ⟨_, _, _, rfl⟩

def MadeStrs (w : World) (xs : List ByteArray) (e : Ending) (w' : World) : Prop :=
  ∃ v, e = .returned v ∧ Strs w'.heap.size w' v xs ∧ Below w.heap.size w w'

theorem toIDs_any (B : Nat) (v : Value) (xs : List ByteArray) (w : World) (hB : B ≤ w.heap.size) (h : Strs B w v xs) (hm : xs.length ≤ 1048576) :
    Calls Try.prog 12 #[v] w (MadeStrs w xs) := by
  obtain ⟨ao, cap, rfl, hl, hc⟩ := h
  cases ao with
  | none =>
    have h0 : xs.length = 0 := by
      rcases Nat.eq_zero_or_pos xs.length with h | h
      · exact h
      · obtain ⟨_, _, h', _⟩ := hc h; cases h'
    have hx : xs = [] := List.eq_nil_of_length_eq_zero h0
    refine (toIDs_nil w _ _).mono ?_
    rintro e w' ⟨rfl, rfl⟩
    exact ⟨_, rfl, ⟨none, 0, by rw [h0], by omega, fun h => by omega⟩, Below.refl _ _⟩
  | some ad =>
    refine (toIDs_some ad xs.length cap B xs w rfl hm hB (fun h => ?_)).mono ?_
    · obtain ⟨b, off, h', r⟩ := hc h
      cases h'
      exact ⟨b, off, rfl, r⟩
    · rintro e w' ⟨rfl, hb, ho⟩
      exact ⟨_, rfl, Strs.of_own ho, hb⟩

/-- joinIDs leaves a slice that reads as the join; nil where the join is empty. -/
def Joined (w : World) (xs : List ByteArray) (e : Ending) (w' : World) : Prop :=
  ∃ v, e = .returned v ∧ Strs w'.heap.size w' v xs ∧ Below w.heap.size w w' ∧ (xs = [] → v = .slice none 0 0)

set_option maxHeartbeats 400000 in
theorem join_any (va vb : Value) (A B : List ByteArray) (w : World) (ha : Strs w.heap.size w va A) (hb : Strs w.heap.size w vb B) (hm : A.length + B.length ≤ 8388608) :
    Calls Try.prog 13 #[va, vb] w (Joined w (join A B)) := by
  obtain ⟨aoa, na, ca, rfl⟩ := ha.form
  obtain ⟨aob, nb, cb, rfl⟩ := hb.form
  go_enter Try.func13, Try.ntmps13
  go_wp2_with (go_at_call 30; refine (joinIDs_any _ _ A B _ (by exact ha) (by exact hb) hm).mono ?_; rintro e w' ⟨v, rfl, ho, hbel, hnil⟩)
  go_ret
  exact ⟨v, rfl, Strs.of_own ho, hbel, hnil⟩

end Go.Proofs.Qxb6603225a
