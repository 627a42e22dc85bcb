import Derived.Test.Qxb6603262aRows
import Derived.WalkKit
import Derived.WalkSpells
import Derived.WalkLawsBesides
namespace Go.Proofs.Qxb6603262a
open Go.RowKit

/-- A hex digit's value; -1 for any other byte. -/
def hexv (c : Int) : Int := if 48 ≤ c ∧ c ≤ 57 then c - 48 else if 97 ≤ c ∧ c ≤ 102 then c - 87 else if 65 ≤ c ∧ c ≤ 70 then c - 55 else -1

theorem hide {p : Prop} (h : p) : Hid p := h
theorem ret_int {k : IntKind} {a b : Int} (h : a = b) : Ending.returned (.int k a) = .returned (.int k b) := by rw [h]

set_option maxHeartbeats 400000 in
theorem hexDigit_any (c : Int) (h0 : 0 ≤ c) (h1 : c ≤ 255) (w : World) :
    Calls Try.prog 13 #[.int .u8 c] w fun e w' => e = .returned (.int .i32 (hexv c)) ∧ w' = w := by
  obtain ⟨v, hv⟩ : ∃ v, v = hexv c := ⟨_, rfl⟩
  rw [← hv]
  have HV := hide hv
  clear hv
  unfold hexv at HV
  go_enter Try.func13, Try.ntmps13
  go_wp2
  all_goals
    go_ret
    exact ⟨ret_int (by rw [HV.out]; (repeat' split) <;> omega), rfl⟩

set_option maxHeartbeats 400000 in
theorem zzHexDigit_any (c : Int) (h0 : 0 ≤ c) (h1 : c ≤ 255) (w : World) :
    Calls Try.prog 7 #[.int .u8 c] w fun e w' => e = .returned (.int .i32 (hexv c)) ∧ w' = w := by
  have C := hide (hexDigit_any c h0 h1 w)
  generalize hexv c = v at *
  go_enter Try.func7, Try.ntmps7
  go_wp2_with fail
  refine C.out.mono ?_
  rintro e w' ⟨rfl, rfl⟩
  go_wp2_with fail
  go_ret
  exact ⟨rfl, rfl⟩

theorem low_fin : ∀ k : Fin 16, ((#[48, 49, 50, 51, 52, 53, 54, 55, 56, 57, 97, 98, 99, 100, 101, 102] : Array UInt8)[k.val]'(by simp)).toNat = if k.val < 10 then 48 + k.val else 87 + k.val := by decide
theorem up_fin : ∀ k : Fin 16, ((#[48, 49, 50, 51, 52, 53, 54, 55, 56, 57, 65, 66, 67, 68, 69, 70] : Array UInt8)[k.val]'(by simp)).toNat = if k.val < 10 then 48 + k.val else 55 + k.val := by decide
theorem low_at (k : Nat) (hk : k < 16) (h : k < (ByteArray.mk #[48, 49, 50, 51, 52, 53, 54, 55, 56, 57, 97, 98, 99, 100, 101, 102]).size) : ((ByteArray.mk #[48, 49, 50, 51, 52, 53, 54, 55, 56, 57, 97, 98, 99, 100, 101, 102])[k]'h).toNat = if k < 10 then 48 + k else 87 + k := low_fin ⟨k, hk⟩
theorem up_at (k : Nat) (hk : k < 16) (h : k < (ByteArray.mk #[48, 49, 50, 51, 52, 53, 54, 55, 56, 57, 65, 66, 67, 68, 69, 70]).size) : ((ByteArray.mk #[48, 49, 50, 51, 52, 53, 54, 55, 56, 57, 65, 66, 67, 68, 69, 70])[k]'h).toNat = if k < 10 then 48 + k else 55 + k := up_fin ⟨k, hk⟩

/-- The rounds so far have not met c. -/
def Miss (c : Int) (k : Nat) : Prop := ∀ j : Nat, j < k → ((if j < 10 then 48 + (j : Int) else 87 + (j : Int)) ≠ c ∧ (if j < 10 then 48 + (j : Int) else 55 + (j : Int)) ≠ c)

theorem hexv_low {c : Int} {k : Nat} (hk : k < 16) (h : (((if k < 10 then 48 + k else 87 + k) : Nat) : Int) = c) : hexv c = k := by
  subst h
  unfold hexv
  by_cases h10 : k < 10
  · rw [if_pos h10, if_pos (by omega)]; omega
  · rw [if_neg h10, if_neg (by omega), if_pos (by omega)]; omega
theorem hexv_up {c : Int} {k : Nat} (hk : k < 16) (h : (((if k < 10 then 48 + k else 55 + k) : Nat) : Int) = c) : hexv c = k := by
  subst h
  unfold hexv
  by_cases h10 : k < 10
  · rw [if_pos h10, if_pos (by omega)]; omega
  · rw [if_neg h10, if_neg (by omega), if_neg (by omega), if_pos (by omega)]; omega
theorem hexv_miss {c : Int} (h : Miss c 16) : hexv c = -1 := by
  unfold hexv
  by_cases a1 : 48 ≤ c ∧ c ≤ 57
  · have := (h (c - 48).toNat (by omega)).1
    rw [if_pos (by omega)] at this
    omega
  · rw [if_neg a1]
    by_cases a2 : 97 ≤ c ∧ c ≤ 102
    · have := (h (c - 87).toNat (by omega)).1
      rw [if_neg (by omega)] at this
      omega
    · rw [if_neg a2]
      by_cases a3 : 65 ≤ c ∧ c ≤ 70
      · have := (h (c - 55).toNat (by omega)).2
        rw [if_neg (by omega)] at this
        omega
      · rw [if_neg a3]
theorem Miss.step {c : Int} {k : Nat} (h : Miss c k) (h1 : (((if k < 10 then 48 + k else 87 + k) : Nat) : Int) ≠ c) (h2 : (((if k < 10 then 48 + k else 55 + k) : Nat) : Int) ≠ c) : Miss c (k + 1) := fun j hj => by
  by_cases hjk : j = k
  · subst hjk
    by_cases h10 : j < 10
    · rw [if_pos h10] at *; exact ⟨by omega, by rw [if_pos h10]; omega⟩
    · rw [if_neg h10] at *; exact ⟨by omega, by rw [if_neg h10]; omega⟩
  · exact h j (by omega)

set_option maxHeartbeats 1000000 in
theorem model_any (c : Int) (w : World) :
    Calls Try.prog 8 #[.int .u8 c] w fun e w' => e = .returned (.int .i32 (hexv c)) ∧ w' = w := by
  obtain ⟨v, hv⟩ : ∃ v, v = hexv c := ⟨_, rfl⟩
  rw [← hv]
  have HV := hide hv
  clear hv
  go_enter Try.func8, Try.ntmps8
  go_wp2
  go_loop [3] (fun i => ∃ k : Nat, k ≤ 16 ∧ i = .int .i64 k ∧ Miss c k) (fun i => 16 - (intOf i).toNat)
  case atStart => exact ⟨0, Nat.zero_le _, rfl, fun j hj => by omega⟩
  case round =>
    obtain ⟨k, hk, rfl, hn⟩ := hrel
    have HN := hide hn
    clear hn
    by_cases hlt : k < 16
    · have hkL : k < (ByteArray.mk #[48, 49, 50, 51, 52, 53, 54, 55, 56, 57, 97, 98, 99, 100, 101, 102]).size := hlt
      have hkU : k < (ByteArray.mk #[48, 49, 50, 51, 52, 53, 54, 55, 56, 57, 65, 66, 67, 68, 69, 70]).size := hlt
      have HL := hide (low_at k hlt hkL)
      have HU := hide (up_at k hlt hkU)
      go_wp2
      · have h1 : ((((ByteArray.mk #[48, 49, 50, 51, 52, 53, 54, 55, 56, 57, 97, 98, 99, 100, 101, 102])[k]'hkL).toNat : Nat) : Int) = c := by assumption
        rw [HL.out] at h1
        go_ret
        exact ⟨ret_int (by rw [HV.out, hexv_low hlt h1]), rfl⟩
      · have h1 : ¬ ((((ByteArray.mk #[48, 49, 50, 51, 52, 53, 54, 55, 56, 57, 97, 98, 99, 100, 101, 102])[k]'hkL).toNat : Nat) : Int) = c := by assumption
        have h2 : (((((ByteArray.mk #[48, 49, 50, 51, 52, 53, 54, 55, 56, 57, 97, 98, 99, 100, 101, 102])[k]'hkL).toNat : Nat) : Int) == c) = true ∨ (((((ByteArray.mk #[48, 49, 50, 51, 52, 53, 54, 55, 56, 57, 65, 66, 67, 68, 69, 70])[k]'hkU).toNat : Nat) : Int) == c) = true := by assumption
        rw [beq_iff_eq, beq_iff_eq] at h2
        have h3 := h2.resolve_left h1
        rw [HU.out] at h3
        go_ret
        exact ⟨ret_int (by rw [HV.out, hexv_up hlt h3]), rfl⟩
      · have h2 : (((((ByteArray.mk #[48, 49, 50, 51, 52, 53, 54, 55, 56, 57, 97, 98, 99, 100, 101, 102])[k]'hkL).toNat : Nat) : Int) == c) = false ∧ (((((ByteArray.mk #[48, 49, 50, 51, 52, 53, 54, 55, 56, 57, 65, 66, 67, 68, 69, 70])[k]'hkU).toNat : Nat) : Int) == c) = false := by assumption
        rw [beq_eq_false_iff_ne, beq_eq_false_iff_ne, HL.out, HU.out] at h2
        go_round
        case rel => exact ⟨k + 1, by omega, by go_num, HN.out.step h2.1 h2.2⟩
        case measure => simp [intOf]; omega
    · have hk16 : k = 16 := by omega
      rw [hk16] at HN
      clear hk16
      go_wp2
      go_ret
      exact ⟨ret_int (by rw [HV.out, hexv_miss HN.out]), rfl⟩

/-! ### FnHexDigitMatchesTable -/
set_option maxHeartbeats 400000 in
theorem fn3 (c : Int) (h0 : 0 ≤ c) (h1 : c ≤ 255) (w : World) :
    Calls Try.prog 3 #[.int .u8 c] w fun e w' => e = .returned (.bool true) ∧ w' = w := by
  have C := hide (zzHexDigit_any c h0 h1 w)
  have D := hide (model_any c w)
  generalize hexv c = v at *
  go_enter Try.func3, Try.ntmps3
  go_wp2_with fail
  refine C.out.mono ?_
  rintro e w' ⟨rfl, rfl⟩
  go_wp2_with fail
  refine D.out.mono ?_
  rintro e w' ⟨rfl, rfl⟩
  go_wp2_with fail
  go_ret
  exact ⟨rfl, rfl⟩
end Go.Proofs.Qxb6603262a
