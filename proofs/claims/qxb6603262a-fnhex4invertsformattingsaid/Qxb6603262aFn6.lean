import Derived.Test.Qxb6603262aFn5
import Derived.Laws.ShiftsVarLaws
namespace Go.Proofs.Qxb6603262a
open Go.RowKit

set_option maxHeartbeats 400000 in
theorem bytes12_any (a b : Int) (ao : Option Addr) (n cap : Nat) (w : World) :
    Calls Try.prog 12 #[.int .u16 a, .int .u8 b, .slice ao n cap] w fun e w' => e = .returned (.bool (decide (n ≤ 1048576))) ∧ w' = w := by
  by_cases h : n ≤ 1048576
  · rw [decide_eq_true h]
    go_enter Try.func12, Try.ntmps12
    go_wp2
    go_ret
    exact ⟨rfl, rfl⟩
  · rw [decide_eq_false h]
    go_enter Try.func12, Try.ntmps12
    go_wp2
    go_ret
    exact ⟨rfl, rfl⟩

theorem and15 {X : Int} (h0 : 0 ≤ X) (h1 : X < 65536) : bits .and .u16 X 15 = X % 16 := by
  obtain ⟨a, rfl⟩ := Int.eq_ofNat_of_zero_le h0
  rw [show (15 : Int) = ((15 : Nat) : Int) from rfl, u16_and_nat a 15 (by omega) (by omega), show (15 : Nat) = 2 ^ 4 - 1 from rfl, Nat.and_two_pow_sub_one_eq_mod]
  omega

/-- The k-th of the four nibbles. -/
def nib (x : Int) : Nat → Int
  | 0 => x / 4096 % 16
  | 1 => x / 256 % 16
  | 2 => x / 16 % 16
  | _ => x % 16
theorem nib_at {x X : Int} {k : Nat} (hx0 : 0 ≤ X) (hx1 : X < 65536) (h : X % 16 = nib x k) : ∃ y : Nat, y < 16 ∧ bits .and .u16 X 15 = (y : Int) ∧ (y : Int) = nib x k :=
  ⟨(X % 16).toNat, by omega, by rw [and15 hx0 hx1]; omega, by rw [← h]; omega⟩

/-- The digits so far. -/
def Digits (x : Int) (ds : List Int) (k : Nat) : Prop := ds.length = k ∧ (∀ j, j < k → hexv (ds.getD j 0) = nib x j) ∧ ByteList ds
theorem Digits.nil (x : Int) : Digits x [] 0 := ⟨rfl, fun j hj => by omega, fun j => by simp⟩
theorem getD_snoc (ds : List Int) (c : Int) (j : Nat) : (ds ++ [c]).getD j 0 = if j < ds.length then ds.getD j 0 else if j = ds.length then c else 0 := by
  simp only [List.getD_eq_getElem?_getD]
  by_cases h : j < ds.length
  · rw [if_pos h, List.getElem?_append_left h]
  · rw [if_neg h, List.getElem?_append_right (by omega)]
    by_cases h2 : j = ds.length
    · subst h2; simp
    · rw [if_neg h2, List.getElem?_eq_none (by simp; omega)]; rfl
theorem ByteList.snoc {ds : List Int} {c : Int} (h : ByteList ds) (h0 : 0 ≤ c) (h1 : c ≤ 255) : ByteList (ds ++ [c]) := fun j => by
  rw [getD_snoc]
  have := h j
  (repeat' split) <;> omega
theorem Digits.snoc {x : Int} {ds : List Int} {k : Nat} {c : Int} (h : Digits x ds k) (hc : hexv c = nib x k) (h0 : 0 ≤ c) (h1 : c ≤ 255) : Digits x (ds ++ [c]) (k + 1) := by
  obtain ⟨rfl, h2, h3⟩ := h
  refine ⟨by simp, fun j hj => ?_, h3.snoc h0 h1⟩
  rw [getD_snoc]
  by_cases hl : j < ds.length
  · rw [if_pos hl]; exact h2 j hl
  · rw [if_neg hl, if_pos (by omega), show j = ds.length by omega]; exact hc
theorem Digits.low {x : Int} {ds : List Int} {k y : Nat} (h : Digits x ds k) (hy : y < 16) (hn : (y : Int) = nib x k) (hs : y < (ByteArray.mk #[48, 49, 50, 51, 52, 53, 54, 55, 56, 57, 97, 98, 99, 100, 101, 102]).size) :
    Digits x (ds ++ [((((ByteArray.mk #[48, 49, 50, 51, 52, 53, 54, 55, 56, 57, 97, 98, 99, 100, 101, 102])[y]'hs).toNat : Nat) : Int)]) (k + 1) := by
  rw [low_at y hy hs]
  exact h.snoc ((hexv_low hy rfl).trans hn) (by omega) (by split <;> omega)
theorem Digits.up {x : Int} {ds : List Int} {k y : Nat} (h : Digits x ds k) (hy : y < 16) (hn : (y : Int) = nib x k) (hs : y < (ByteArray.mk #[48, 49, 50, 51, 52, 53, 54, 55, 56, 57, 65, 66, 67, 68, 69, 70]).size) :
    Digits x (ds ++ [((((ByteArray.mk #[48, 49, 50, 51, 52, 53, 54, 55, 56, 57, 65, 66, 67, 68, 69, 70])[y]'hs).toNat : Nat) : Int)]) (k + 1) := by
  rw [up_at y hy hs]
  exact h.snoc ((hexv_up hy rfl).trans hn) (by omega) (by split <;> omega)
theorem nib_bounds (x : Int) (k : Nat) : 0 ≤ nib x k ∧ nib x k ≤ 15 := by unfold nib; split <;> omega
/-- Four digits and a tail write the number. -/
theorem hex4v_digits {x : Int} (hx0 : 0 ≤ x) (hx1 : x < 65536) {ds zs : List Int} (h : Digits x ds 4) : hex4v (ds ++ zs) = x := by
  obtain ⟨hl, hd, _⟩ := h
  have g : ∀ j, j < 4 → (ds ++ zs).getD j 0 = ds.getD j 0 := fun j hj => by
    simp only [List.getD_eq_getElem?_getD]
    rw [List.getElem?_append_left (by omega)]
  unfold hex4v
  rw [if_neg (by simp; omega), g 0 (by omega), g 1 (by omega), g 2 (by omega), g 3 (by omega), hd 0 (by omega), hd 1 (by omega), hd 2 (by omega), hd 3 (by omega)]
  simp only [nib]
  rw [if_neg (by omega)]
  omega
theorem ByteList.append {xs ys : List Int} (h : ByteList xs) (h' : ByteList ys) : ByteList (xs ++ ys) := fun j => by
  simp only [List.getD_eq_getElem?_getD]
  by_cases hl : j < xs.length
  · rw [List.getElem?_append_left hl]; have := h j; simpa [List.getD_eq_getElem?_getD] using this
  · rw [List.getElem?_append_right (by omega)]; have := h' (j - xs.length); simpa [List.getD_eq_getElem?_getD] using this

set_option maxHeartbeats 2000000 in
set_option maxRecDepth 100000 in
theorem fn6 (x m : Int) (hx0 : 0 ≤ x) (hx1 : x < 65536) (v : Value) (zs : List Int) (w : World) (h : Bytes w.heap.size w v zs) (hb : ByteList zs) : Calls Try.prog 6 #[.int .u16 x, .int .u8 m, v] w (Holds w) := by
  by_cases hm : zs.length ≤ 1048576
  case neg =>
    obtain ⟨ao, cap, rfl, _, _⟩ := h
    have C := hide (bytes12_any x m ao zs.length cap w)
    rw [decide_eq_false hm] at C
    generalize zs.length = n at *
    go_enter Try.func6, Try.ntmps6
    go_wp2_with fail
    refine C.out.mono ?_
    rintro e w' ⟨rfl, rfl⟩
    go_wp2_with fail
    go_ret
    exact Holds.mk (Below.refl _ _)
  have CC := hide (clone_any w.heap.size v zs w (Nat.le_refl _) h hm)
  have HBY := hide hb
  obtain ⟨ao, cap, rfl, _, _⟩ := h
  have C9 := hide (bytes12_any x m ao zs.length cap w)
  rw [decide_eq_true hm] at C9
  clear hb
  obtain ⟨i0, hi, hz0, hz1, hz2⟩ := info_parts Try.info5
  go_enter Try.func6, Try.ntmps6
  go_wp2_with fail
  refine C9.out.mono ?_
  rintro e w' ⟨rfl, rfl⟩
  go_wp2_with fail
  refine CC.out.mono ?_
  rintro e w2 ⟨ao2, cap2, rfl, hb2, hbel⟩
  have HB2 := hide hb2
  have HBEL := hide hbel
  clear CC C9 hbel hb2
  obtain ⟨n, hn⟩ : ∃ n, n = zs.length := ⟨_, rfl⟩
  have HN := hide hn
  rw [← hn] at hm ⊢
  clear hn
  go_wp2_with (at_make; refine wpList_make_own _ rfl _ _ 24 rfl w2.heap.size 5 i0 (.int .u8 0) 1 Try.underlying24 hi hz0 hz1 .i64 .i64 _ (n + 4) rfl rfl (by omega) (by rw [hz2]; omega) (by unfold maxLen; omega) (Nat.le_refl _) ?_; intro w3 hown hgrow)
  have hb3 : Below w2.heap.size w2 w3 := (Below.refl _ _).grown hgrow (Nat.le_refl _) (fun k hk => by cases hk)
  clear hgrow
  go_loopw [7, 8] (fun bf i wr => ∃ (k : Nat) (ds : List Int), k ≤ 4 ∧ i = .int .i64 k ∧ bf = .slice (some ⟨w2.heap.size, 0, none⟩) k (n + 4) ∧ wr.ownsRow w2.heap.size 5 1 bf k (ds.map (.int .u8)) ∧ Below w2.heap.size w2 wr ∧ Hid (Digits x ds k)) (fun _ i _ => 4 - (intOf i).toNat)
  case atStart => exact ⟨0, [], by omega, rfl, rfl, hown, hb3, hide (Digits.nil x)⟩
  case round =>
    obtain ⟨k, ds, hk, rfl, rfl, ho, hb, HD⟩ := hrel
    rcases (show k = 0 ∨ k = 1 ∨ k = 2 ∨ k = 3 ∨ k = 4 by omega) with rfl | rfl | rfl | rfl | rfl
    · obtain ⟨y, hy, hnib, hyn⟩ := nib_at (x := x) (X := x / 4096) (k := 0) (by omega) (by omega) rfl
      have HYN := hide hyn
      clear hyn
      have hyL : y < (ByteArray.mk #[48, 49, 50, 51, 52, 53, 54, 55, 56, 57, 97, 98, 99, 100, 101, 102]).size := hy
      have hyU : y < (ByteArray.mk #[48, 49, 50, 51, 52, 53, 54, 55, 56, 57, 65, 66, 67, 68, 69, 70]).size := hy
      have hyi : (y : Int) < 16 := by omega
      by_cases hmk : bits .and .u8 (m) 1 = 1
      · go_wp2_with (at_builtin; refine wpList_append_fits _ rfl _ _ 24 rfl w2.heap.size 5 i0 1 Try.underlying24 hi hz1 w2.heap.size 0 (n + 4) _ rfl (ho.alloc _) ⟨wr.heap.size, 0, none⟩ 1 1 [.int .u8 ((((ByteArray.mk #[48, 49, 50, 51, 52, 53, 54, 55, 56, 57, 65, 66, 67, 68, 69, 70])[y]'hyU).toNat : Nat) : Int)] rfl rfl (cell_one_new _ _ _) (by simp [Value.oneCell']) (by omega) ?_; intro w4 ho4 hg4)
        have hb4 : Below w2.heap.size w2 w4 := (hb.alloc hb.size _).grown hg4 (by have := hb.size; simp; omega) (fun k hk => by simp at hk; omega)
        go_roundw
        case rel =>
          refine ⟨1, ds ++ [((((ByteArray.mk #[48, 49, 50, 51, 52, 53, 54, 55, 56, 57, 65, 66, 67, 68, 69, 70])[y]'hyU).toNat : Nat) : Int)], by omega, by go_num, rfl, ?_, hb4, hide (Digits.up HD.out hy HYN.out _)⟩
          simpa using ho4
        case measure => simp [intOf]
      · have hmk2 : (bits .and .u8 (m) 1 == 1) = false := by rw [beq_eq_false_iff_ne]; exact hmk
        go_wp2_with (at_builtin; refine wpList_append_fits _ rfl _ _ 24 rfl w2.heap.size 5 i0 1 Try.underlying24 hi hz1 w2.heap.size 0 (n + 4) _ rfl (ho.alloc _) ⟨wr.heap.size, 0, none⟩ 1 1 [.int .u8 ((((ByteArray.mk #[48, 49, 50, 51, 52, 53, 54, 55, 56, 57, 97, 98, 99, 100, 101, 102])[y]'hyL).toNat : Nat) : Int)] rfl rfl (cell_one_new _ _ _) (by simp [Value.oneCell']) (by omega) ?_; intro w4 ho4 hg4)
        have hb4 : Below w2.heap.size w2 w4 := (hb.alloc hb.size _).grown hg4 (by have := hb.size; simp; omega) (fun k hk => by simp at hk; omega)
        go_roundw
        case rel =>
          refine ⟨1, ds ++ [((((ByteArray.mk #[48, 49, 50, 51, 52, 53, 54, 55, 56, 57, 97, 98, 99, 100, 101, 102])[y]'hyL).toNat : Nat) : Int)], by omega, by go_num, rfl, ?_, hb4, hide (Digits.low HD.out hy HYN.out _)⟩
          simpa using ho4
        case measure => simp [intOf]
    · obtain ⟨y, hy, hnib, hyn⟩ := nib_at (x := x) (X := x / 256) (k := 1) (by omega) (by omega) rfl
      have HYN := hide hyn
      clear hyn
      have hyL : y < (ByteArray.mk #[48, 49, 50, 51, 52, 53, 54, 55, 56, 57, 97, 98, 99, 100, 101, 102]).size := hy
      have hyU : y < (ByteArray.mk #[48, 49, 50, 51, 52, 53, 54, 55, 56, 57, 65, 66, 67, 68, 69, 70]).size := hy
      have hyi : (y : Int) < 16 := by omega
      by_cases hmk : bits .and .u8 (m / 2) 1 = 1
      · go_wp2_with (at_builtin; refine wpList_append_fits _ rfl _ _ 24 rfl w2.heap.size 5 i0 1 Try.underlying24 hi hz1 w2.heap.size 1 (n + 4) _ rfl (ho.alloc _) ⟨wr.heap.size, 0, none⟩ 1 1 [.int .u8 ((((ByteArray.mk #[48, 49, 50, 51, 52, 53, 54, 55, 56, 57, 65, 66, 67, 68, 69, 70])[y]'hyU).toNat : Nat) : Int)] rfl rfl (cell_one_new _ _ _) (by simp [Value.oneCell']) (by omega) ?_; intro w4 ho4 hg4)
        have hb4 : Below w2.heap.size w2 w4 := (hb.alloc hb.size _).grown hg4 (by have := hb.size; simp; omega) (fun k hk => by simp at hk; omega)
        go_roundw
        case rel =>
          refine ⟨2, ds ++ [((((ByteArray.mk #[48, 49, 50, 51, 52, 53, 54, 55, 56, 57, 65, 66, 67, 68, 69, 70])[y]'hyU).toNat : Nat) : Int)], by omega, by go_num, rfl, ?_, hb4, hide (Digits.up HD.out hy HYN.out _)⟩
          simpa using ho4
        case measure => simp [intOf]
      · have hmk2 : (bits .and .u8 (m / 2) 1 == 1) = false := by rw [beq_eq_false_iff_ne]; exact hmk
        go_wp2_with (at_builtin; refine wpList_append_fits _ rfl _ _ 24 rfl w2.heap.size 5 i0 1 Try.underlying24 hi hz1 w2.heap.size 1 (n + 4) _ rfl (ho.alloc _) ⟨wr.heap.size, 0, none⟩ 1 1 [.int .u8 ((((ByteArray.mk #[48, 49, 50, 51, 52, 53, 54, 55, 56, 57, 97, 98, 99, 100, 101, 102])[y]'hyL).toNat : Nat) : Int)] rfl rfl (cell_one_new _ _ _) (by simp [Value.oneCell']) (by omega) ?_; intro w4 ho4 hg4)
        have hb4 : Below w2.heap.size w2 w4 := (hb.alloc hb.size _).grown hg4 (by have := hb.size; simp; omega) (fun k hk => by simp at hk; omega)
        go_roundw
        case rel =>
          refine ⟨2, ds ++ [((((ByteArray.mk #[48, 49, 50, 51, 52, 53, 54, 55, 56, 57, 97, 98, 99, 100, 101, 102])[y]'hyL).toNat : Nat) : Int)], by omega, by go_num, rfl, ?_, hb4, hide (Digits.low HD.out hy HYN.out _)⟩
          simpa using ho4
        case measure => simp [intOf]
    · obtain ⟨y, hy, hnib, hyn⟩ := nib_at (x := x) (X := x / 16) (k := 2) (by omega) (by omega) rfl
      have HYN := hide hyn
      clear hyn
      have hyL : y < (ByteArray.mk #[48, 49, 50, 51, 52, 53, 54, 55, 56, 57, 97, 98, 99, 100, 101, 102]).size := hy
      have hyU : y < (ByteArray.mk #[48, 49, 50, 51, 52, 53, 54, 55, 56, 57, 65, 66, 67, 68, 69, 70]).size := hy
      have hyi : (y : Int) < 16 := by omega
      by_cases hmk : bits .and .u8 (m / 4) 1 = 1
      · go_wp2_with (at_builtin; refine wpList_append_fits _ rfl _ _ 24 rfl w2.heap.size 5 i0 1 Try.underlying24 hi hz1 w2.heap.size 2 (n + 4) _ rfl (ho.alloc _) ⟨wr.heap.size, 0, none⟩ 1 1 [.int .u8 ((((ByteArray.mk #[48, 49, 50, 51, 52, 53, 54, 55, 56, 57, 65, 66, 67, 68, 69, 70])[y]'hyU).toNat : Nat) : Int)] rfl rfl (cell_one_new _ _ _) (by simp [Value.oneCell']) (by omega) ?_; intro w4 ho4 hg4)
        have hb4 : Below w2.heap.size w2 w4 := (hb.alloc hb.size _).grown hg4 (by have := hb.size; simp; omega) (fun k hk => by simp at hk; omega)
        go_roundw
        case rel =>
          refine ⟨3, ds ++ [((((ByteArray.mk #[48, 49, 50, 51, 52, 53, 54, 55, 56, 57, 65, 66, 67, 68, 69, 70])[y]'hyU).toNat : Nat) : Int)], by omega, by go_num, rfl, ?_, hb4, hide (Digits.up HD.out hy HYN.out _)⟩
          simpa using ho4
        case measure => simp [intOf]
      · have hmk2 : (bits .and .u8 (m / 4) 1 == 1) = false := by rw [beq_eq_false_iff_ne]; exact hmk
        go_wp2_with (at_builtin; refine wpList_append_fits _ rfl _ _ 24 rfl w2.heap.size 5 i0 1 Try.underlying24 hi hz1 w2.heap.size 2 (n + 4) _ rfl (ho.alloc _) ⟨wr.heap.size, 0, none⟩ 1 1 [.int .u8 ((((ByteArray.mk #[48, 49, 50, 51, 52, 53, 54, 55, 56, 57, 97, 98, 99, 100, 101, 102])[y]'hyL).toNat : Nat) : Int)] rfl rfl (cell_one_new _ _ _) (by simp [Value.oneCell']) (by omega) ?_; intro w4 ho4 hg4)
        have hb4 : Below w2.heap.size w2 w4 := (hb.alloc hb.size _).grown hg4 (by have := hb.size; simp; omega) (fun k hk => by simp at hk; omega)
        go_roundw
        case rel =>
          refine ⟨3, ds ++ [((((ByteArray.mk #[48, 49, 50, 51, 52, 53, 54, 55, 56, 57, 97, 98, 99, 100, 101, 102])[y]'hyL).toNat : Nat) : Int)], by omega, by go_num, rfl, ?_, hb4, hide (Digits.low HD.out hy HYN.out _)⟩
          simpa using ho4
        case measure => simp [intOf]
    · obtain ⟨y, hy, hnib, hyn⟩ := nib_at (x := x) (X := x) (k := 3) (by omega) (by omega) rfl
      have HYN := hide hyn
      clear hyn
      have hyL : y < (ByteArray.mk #[48, 49, 50, 51, 52, 53, 54, 55, 56, 57, 97, 98, 99, 100, 101, 102]).size := hy
      have hyU : y < (ByteArray.mk #[48, 49, 50, 51, 52, 53, 54, 55, 56, 57, 65, 66, 67, 68, 69, 70]).size := hy
      have hyi : (y : Int) < 16 := by omega
      by_cases hmk : bits .and .u8 (m / 8) 1 = 1
      · go_wp2_with (at_builtin; refine wpList_append_fits _ rfl _ _ 24 rfl w2.heap.size 5 i0 1 Try.underlying24 hi hz1 w2.heap.size 3 (n + 4) _ rfl (ho.alloc _) ⟨wr.heap.size, 0, none⟩ 1 1 [.int .u8 ((((ByteArray.mk #[48, 49, 50, 51, 52, 53, 54, 55, 56, 57, 65, 66, 67, 68, 69, 70])[y]'hyU).toNat : Nat) : Int)] rfl rfl (cell_one_new _ _ _) (by simp [Value.oneCell']) (by omega) ?_; intro w4 ho4 hg4)
        have hb4 : Below w2.heap.size w2 w4 := (hb.alloc hb.size _).grown hg4 (by have := hb.size; simp; omega) (fun k hk => by simp at hk; omega)
        go_roundw
        case rel =>
          refine ⟨4, ds ++ [((((ByteArray.mk #[48, 49, 50, 51, 52, 53, 54, 55, 56, 57, 65, 66, 67, 68, 69, 70])[y]'hyU).toNat : Nat) : Int)], by omega, by go_num, rfl, ?_, hb4, hide (Digits.up HD.out hy HYN.out _)⟩
          simpa using ho4
        case measure => simp [intOf]
      · have hmk2 : (bits .and .u8 (m / 8) 1 == 1) = false := by rw [beq_eq_false_iff_ne]; exact hmk
        go_wp2_with (at_builtin; refine wpList_append_fits _ rfl _ _ 24 rfl w2.heap.size 5 i0 1 Try.underlying24 hi hz1 w2.heap.size 3 (n + 4) _ rfl (ho.alloc _) ⟨wr.heap.size, 0, none⟩ 1 1 [.int .u8 ((((ByteArray.mk #[48, 49, 50, 51, 52, 53, 54, 55, 56, 57, 97, 98, 99, 100, 101, 102])[y]'hyL).toNat : Nat) : Int)] rfl rfl (cell_one_new _ _ _) (by simp [Value.oneCell']) (by omega) ?_; intro w4 ho4 hg4)
        have hb4 : Below w2.heap.size w2 w4 := (hb.alloc hb.size _).grown hg4 (by have := hb.size; simp; omega) (fun k hk => by simp at hk; omega)
        go_roundw
        case rel =>
          refine ⟨4, ds ++ [((((ByteArray.mk #[48, 49, 50, 51, 52, 53, 54, 55, 56, 57, 97, 98, 99, 100, 101, 102])[y]'hyL).toNat : Nat) : Int)], by omega, by go_num, rfl, ?_, hb4, hide (Digits.low HD.out hy HYN.out _)⟩
          simpa using ho4
        case measure => simp [intOf]
    · have HO := hide ho
      have HB := hide hb
      clear ho hb hown hb3
      generalize wr = wo at *
      rw [show ((4 : Nat) : Int) = 4 from rfl]
      go_wp2_with fail
      go_loopw [7, 10] (fun bf i wr => ∃ (j : Nat), j ≤ n ∧ i = .int .i64 j ∧ bf = .slice (some ⟨w2.heap.size, 0, none⟩) (4 + j) (n + 4) ∧ wr.ownsRow w2.heap.size 5 1 bf (4 + j) ((ds ++ zs.take j).map (.int .u8)) ∧ Below w2.heap.size w2 wr) (fun _ i _ => n - (intOf i).toNat)
      case atStart => exact ⟨0, by omega, rfl, rfl, by simpa using HO.out, HB.out⟩
      case round =>
        obtain ⟨j, hj, rfl, rfl, ho, hb⟩ := hrel
        by_cases hlt : j < n
        · obtain ⟨ao3, cap3, he3, _, hc3⟩ := HB2.out
          obtain ⟨b, off, rfl, hbB, hcell⟩ := hc3 (by have := HN.out; omega)
          simp only [Value.slice.injEq, true_and] at he3
          obtain ⟨rfl, rfl⟩ := he3
          have h1 := (hb.cell (p := ⟨b, off + j, none⟩) hbB).trans (hcell j (by have := HN.out; omega))
          clear hcell hc3
          go_wp2_with (at_builtin; refine wpList_append_fits _ rfl _ _ 24 rfl w2.heap.size 5 i0 1 Try.underlying24 hi hz1 w2.heap.size (4 + j) (n + 4) _ rfl (ho.alloc _) ⟨wr.heap.size, 0, none⟩ 1 1 [.int .u8 (zs.getD j 0)] rfl rfl (cell_one_new _ _ _) (by simp [Value.oneCell']) (by omega) ?_; intro w4 ho4 hg4)
          have hb4 : Below w2.heap.size w2 w4 := (hb.alloc hb.size _).grown hg4 (by have := hb.size; simp; omega) (fun k hk => by simp at hk; omega)
          go_roundw
          case rel =>
            refine ⟨j + 1, by omega, by go_num, rfl, ?_, hb4⟩
            have ht : zs.take (j + 1) = zs.take j ++ [zs.getD j 0] := by
              rw [List.take_add_one, List.getElem?_eq_getElem (show j < zs.length by have := HN.out; omega)]
              simp [List.getElem?_eq_getElem (show j < zs.length by have := HN.out; omega)]
            rw [ht]
            simpa [Nat.add_assoc] using ho4
          case measure => simp [intOf]; omega
        · have hjn : j = n := by omega
          subst hjn
          have ht : zs.take j = zs := List.take_of_length_le (by have := HN.out; omega)
          rw [ht] at ho
          have hlen : (ds ++ zs).length = 4 + j := by rw [List.length_append, HD.out.1, HN.out]
          have C := hide (zzHex4_any _ _ (ds ++ zs) wr (Bytes.of_own ho) (ByteList.append HD.out.2.2 HBY.out))
          rw [hex4v_digits hx0 hx1 HD.out] at C
          clear hlen ht ho
          go_wp2_with fail
          refine C.out.mono ?_
          rintro e w' ⟨rfl, rfl⟩
          go_wp2_with fail
          go_ret
          exact Holds.mk (HBEL.out.trans (hb.mono HBEL.out.size))
end Go.Proofs.Qxb6603262a
