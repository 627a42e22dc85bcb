import Derived.Test.Qxb6603262aHex
import Derived.Laws.BitsAllLaws
namespace Go.Proofs.Qxb6603262a
open Go.RowKit

theorem or_digit {x y : Nat} (hx : x < 4096) (hy : y < 16) : bits BinOp.or IntKind.i32 ((x : Int) * 16) (y : Int) = (x : Int) * 16 + y := by
  have e1 : (BitVec.ofInt IntKind.i32.bits ((x : Int) * 16)).toNat = x * 16 := by
    rw [show ((x : Int) * 16) = ((x * 16 : Nat) : Int) by omega, BitVec.ofInt_natCast, BitVec.toNat_ofNat]
    exact Nat.mod_eq_of_lt (by show _ < 2 ^ 32; omega)
  have e2 : (BitVec.ofInt IntKind.i32.bits (y : Int)).toNat = y := by
    rw [BitVec.ofInt_natCast, BitVec.toNat_ofNat]
    exact Nat.mod_eq_of_lt (by show _ < 2 ^ 32; omega)
  have e3 : (x * 16) ||| y = x * 16 + y := by
    have := Nat.shiftLeft_add_eq_or_of_lt (show y < 2 ^ 4 by omega) x
    rw [Nat.shiftLeft_eq] at this
    exact this.symm
  unfold bits
  simp only [BitVec.toNat_or, e1, e2, e3]
  have hw : ∀ n : Int, 0 ≤ n → n < 65536 → IntKind.i32.wrap n = n := fun n h0 h1 => by
    have hb : IntKind.i32.bits = 32 := rfl
    have hs : IntKind.i32.signed = true := rfl
    unfold IntKind.wrap
    rw [hb, hs]
    simp only [Bool.true_and]
    have : n % (2 ^ 32 : Int) = n := Int.emod_eq_of_lt h0 (by omega)
    rw [this, if_neg (by simp; omega)]
  rw [hw _ (by omega) (by omega)]
  omega

theorem or_digit' {x y : Int} (h0 : 0 ≤ x) (hx : x < 4096) (h1 : 0 ≤ y) (hy : y < 16) : bits BinOp.or IntKind.i32 (x * 16) y = x * 16 + y := by
  obtain ⟨a, rfl⟩ := Int.eq_ofNat_of_zero_le h0
  obtain ⟨b, rfl⟩ := Int.eq_ofNat_of_zero_le h1
  exact or_digit (by omega) (by omega)

/-- The slice value v reads in w as the bytes zs; its cells lie below block B. -/
def Bytes (B : Nat) (w : World) (v : Value) (zs : List Int) : Prop :=
  ∃ ao cap, v = .slice ao zs.length cap ∧ zs.length ≤ cap ∧
    (0 < zs.length → ∃ b off, ao = some ⟨b, off, none⟩ ∧ b < B ∧ ∀ j, j < zs.length → w.cell? ⟨b, off + j, none⟩ = some (.int .u8 (zs.getD j 0)))
def ByteList (zs : List Int) : Prop := ∀ j, 0 ≤ zs.getD j 0 ∧ zs.getD j 0 ≤ 255

theorem Bytes.below {B : Nat} {w w' : World} {v : Value} {zs : List Int} (h : Bytes B w v zs) (hb : Below B w w') : Bytes B w' v zs := by
  obtain ⟨ao, cap, rfl, hl, hc⟩ := h
  refine ⟨ao, cap, rfl, hl, fun h0 => ?_⟩
  obtain ⟨b, off, rfl, hb', hcell⟩ := hc h0
  exact ⟨b, off, rfl, hb', fun j hj => (hb.cell (p := ⟨b, off + j, none⟩) hb').trans (hcell j hj)⟩
theorem Bytes.mono {B B' : Nat} {w : World} {v : Value} {zs : List Int} (h : Bytes B w v zs) (hb : B ≤ B') : Bytes B' w v zs := by
  obtain ⟨ao, cap, rfl, hl, hc⟩ := h
  refine ⟨ao, cap, rfl, hl, fun h0 => ?_⟩
  obtain ⟨b, off, rfl, hb', hcell⟩ := hc h0
  exact ⟨b, off, rfl, by omega, hcell⟩

/-! ### hex4 -/
/-- The number that the first k digits write. -/
def pre (f : Nat → Int) : Nat → Int
  | 0 => 0
  | k + 1 => pre f k * 16 + f k
def hex4v (zs : List Int) : Int :=
  if zs.length < 4 then -1
  else if hexv (zs.getD 0 0) < 0 ∨ hexv (zs.getD 1 0) < 0 ∨ hexv (zs.getD 2 0) < 0 ∨ hexv (zs.getD 3 0) < 0 then -1
  else ((hexv (zs.getD 0 0) * 16 + hexv (zs.getD 1 0)) * 16 + hexv (zs.getD 2 0)) * 16 + hexv (zs.getD 3 0)

theorem hexv_bounds (c : Int) : -1 ≤ hexv c ∧ hexv c ≤ 15 := by unfold hexv; (repeat' split) <;> omega

theorem hex4v_bad {zs : List Int} {k : Nat} (hk : k < 4) (h4 : 4 ≤ zs.length) (h : hexv (zs.getD k 0) < 0) : hex4v zs = -1 := by
  unfold hex4v
  rw [if_neg (by omega), if_pos]
  rcases (show k = 0 ∨ k = 1 ∨ k = 2 ∨ k = 3 by omega) with rfl | rfl | rfl | rfl
  · exact Or.inl h
  · exact Or.inr (Or.inl h)
  · exact Or.inr (Or.inr (Or.inl h))
  · exact Or.inr (Or.inr (Or.inr h))
theorem hex4v_good {zs : List Int} (h4 : 4 ≤ zs.length) (h : ∀ j, j < 4 → 0 ≤ hexv (zs.getD j 0)) : hex4v zs = pre (fun j => hexv (zs.getD j 0)) 4 := by
  have a0 := h 0 (by omega)
  have a1 := h 1 (by omega)
  have a2 := h 2 (by omega)
  have a3 := h 3 (by omega)
  unfold hex4v
  rw [if_neg (by omega), if_neg (by omega)]
  simp only [pre]
  omega

set_option maxHeartbeats 1000000 in
theorem hex4_long (B : Nat) (v : Value) (zs : List Int) (w : World) (h : Bytes B w v zs) (hb : ByteList zs) (h4 : 4 ≤ zs.length) :
    Calls Try.prog 14 #[v] w fun e w' => e = .returned (.int .i32 (hex4v zs)) ∧ w' = w := by
  obtain ⟨ao, cap, rfl, hl, hc⟩ := h
  obtain ⟨b, off, rfl, hbB, hcell⟩ := hc (by omega)
  obtain ⟨n, hn⟩ : ∃ n, n = zs.length := ⟨_, rfl⟩
  have HN := hide hn
  rw [← hn] at hcell hl h4 ⊢
  clear hc hn
  have h4i : (4 : Int) ≤ (n : Int) := by omega
  obtain ⟨r, hr⟩ : ∃ r, r = hex4v zs := ⟨_, rfl⟩
  rw [← hr]
  have HR := hide hr
  clear hr
  have HBY := hide hb
  clear hb
  go_enter Try.func14, Try.ntmps14
  go_wp2_with fail
  go_loop [3, 13] (fun r i => ∃ (k : Nat) (x : Int), k ≤ 4 ∧ i = .int .i64 k ∧ r = .int .i32 x ∧ x = pre (fun j => hexv (zs.getD j 0)) k ∧ 0 ≤ x ∧ x < 16 ^ k ∧ ∀ j, j < k → 0 ≤ hexv (zs.getD j 0)) (fun _ i => 4 - (intOf i).toNat)
  case atStart => exact ⟨0, 0, by omega, rfl, rfl, rfl, by omega, by omega, fun j hj => by omega⟩
  case round =>
    obtain ⟨k, x, hk, rfl, rfl, hx, hx0, hx1, hgood⟩ := hrel
    have HX := hide hx
    have HG := hide hgood
    clear hx hgood
    by_cases hlt : k < 4
    · have h1 := hcell k (by omega)
      obtain ⟨c0, c1⟩ := HBY.out k
      have hx2 : x < 4096 := by
        have hx3 := hx1
        rcases (show k = 0 ∨ k = 1 ∨ k = 2 ∨ k = 3 by omega) with h | h | h | h <;> rw [h] at hx3 <;> omega
      have hpow : (16 : Int) ^ (k + 1) = 16 ^ k * 16 := Int.pow_succ ..
      have HP : Hid (∀ y, 0 ≤ y → y ≤ 15 → x * 16 + y < 16 ^ (k + 1)) := hide (fun y _ _ => by rw [hpow]; omega)
      clear hpow
      obtain ⟨c, hcc⟩ : ∃ c, c = zs.getD k 0 := ⟨_, rfl⟩
      rw [← hcc] at h1 c0 c1
      have HCC := hide hcc
      clear hcc hcell
      have C := hide (hexDigit_any c c0 c1 w)
      obtain ⟨hv0, hv1⟩ := hexv_bounds c
      obtain ⟨y, hy⟩ : ∃ y, y = hexv c := ⟨_, rfl⟩
      rw [← hy] at C hv0 hv1
      have HY := hide hy
      clear hy
      go_wp2_with fail
      refine C.out.mono ?_
      rintro e w' ⟨rfl, rfl⟩
      by_cases hy0 : y < 0
      · have HBAD := hide (hex4v_bad (zs := zs) hlt (by have := HN.out; omega) (by rw [← HCC.out, ← HY.out]; exact hy0))
        go_wp2_with fail
        go_ret
        exact ⟨ret_int (by rw [HR.out, HBAD.out]), rfl⟩
      · have HOR := hide (or_digit' hx0 hx2 (by omega) (show y < 16 by omega))
        go_wp2_with fail
        go_round
        case rel =>
          refine ⟨k + 1, x * 16 + y, by omega, by go_num, by rw [HOR.out], ?_, by omega, HP.out y (by omega) hv1, fun j hj => ?_⟩
          · simp only [pre]
            rw [← HX.out, ← HCC.out, ← HY.out]
          · by_cases hjk : j = k
            · subst hjk; rw [← HCC.out, ← HY.out]; omega
            · exact HG.out j (by omega)
        case measure => simp [intOf]; omega
    · have hk4 : k = 4 := by omega
      subst hk4
      have HE := hide (hex4v_good (zs := zs) (by have := HN.out; omega) HG.out)
      go_wp2_with fail
      go_ret
      exact ⟨ret_int (by rw [HR.out, HE.out, HX.out]), rfl⟩

set_option maxHeartbeats 1000000 in
theorem hex4_short (v : Value) (zs : List Int) (B : Nat) (w : World) (h : Bytes B w v zs) (h4 : zs.length < 4) :
    Calls Try.prog 14 #[v] w fun e w' => e = .returned (.int .i32 (hex4v zs)) ∧ w' = w := by
  obtain ⟨ao, cap, rfl, hl, hc⟩ := h
  have hr : hex4v zs = -1 := by unfold hex4v; rw [if_pos h4]
  rw [hr]
  clear hr hc
  generalize zs.length = n at *
  go_enter Try.func14, Try.ntmps14
  go_wp2_with fail
  go_ret
  exact ⟨rfl, rfl⟩

set_option maxHeartbeats 400000 in
theorem zzHex4_any (B : Nat) (v : Value) (zs : List Int) (w : World) (h : Bytes B w v zs) (hb : ByteList zs) :
    Calls Try.prog 11 #[v] w fun e w' => e = .returned (.int .i32 (hex4v zs)) ∧ w' = w := by
  have C : Calls Try.prog 14 #[v] w fun e w' => e = .returned (.int .i32 (hex4v zs)) ∧ w' = w := by
    by_cases h4 : zs.length < 4
    · exact hex4_short v zs B w h h4
    · exact hex4_long B v zs w h hb (by omega)
  have C' := hide C
  obtain ⟨ao, cap, rfl, _, _⟩ := h
  generalize hex4v zs = r at *
  clear C hb
  go_enter Try.func11, Try.ntmps11
  go_wp2_with fail
  refine C'.out.mono ?_
  rintro e w' ⟨rfl, rfl⟩
  go_wp2_with fail
  go_ret
  exact ⟨rfl, rfl⟩
end Go.Proofs.Qxb6603262a
