import Derived.Test.Qxb6603225aCalls
import Derived.Test.Qxb6603225aPlain2
namespace Go.Proofs.Qxb6603225a
open Go.RowKit

set_option maxHeartbeats 400000 in
theorem lower_any (B : Nat) (v : Value) (xs : List ByteArray) (s : ByteArray) (w : World) (h : Strs B w v xs) (hm : xs.length ≤ 8388608) (hs : Sorted xs) :
    Calls Try.prog 39 #[v, .string s] w fun e w' => e = .returned (.int .i64 ((xs.countP fun x => lt x s : Nat) : Int)) ∧ w' = w := by
  obtain ⟨ao, cap, rfl, hl, hc⟩ := h
  obtain ⟨n, hn⟩ : ∃ n, n = xs.length := ⟨_, rfl⟩
  rw [← hn] at hc hm ⊢
  have HN : Hid (n = xs.length) := hn
  have HS : Hid (Sorted xs) := hs
  clear hl hn hs
  go_enter Try.func39, Try.ntmps39
  go_wp2
  go_loop [5, 6] (fun a b => ∃ lo hi : Nat, lo ≤ hi ∧ hi ≤ n ∧ a = .int .i64 lo ∧ b = .int .i64 hi ∧ (∀ j, j < lo → lt (xs.getD j ByteArray.empty) s = true) ∧ (∀ j, hi ≤ j → j < n → lt (xs.getD j ByteArray.empty) s = false)) (fun a b => (intOf b).toNat - (intOf a).toNat)
  case atStart => exact ⟨0, n, Nat.zero_le _, Nat.le_refl _, rfl, rfl, fun j hj => by omega, fun j hj hj' => by omega⟩
  case round =>
    obtain ⟨lo, hi, hlh, hhn, rfl, rfl, h1, h2⟩ := hrel
    have H1 : Hid (∀ j, j < lo → lt (xs.getD j ByteArray.empty) s = true) := h1
    have H2 : Hid (∀ j, hi ≤ j → j < n → lt (xs.getD j ByteArray.empty) s = false) := h2
    clear h1 h2
    by_cases hlt : lo < hi
    · obtain ⟨b, off, rfl, hb, hcell⟩ := hc (by omega)
      obtain ⟨m, hm'⟩ : ∃ m, m = lo + (hi - lo) / 2 := ⟨_, rfl⟩
      have hml : lo ≤ m := by omega
      have hmh : m < hi := by omega
      have hmi : ((lo : Int) + ((hi : Int) - (lo : Int)) / 2) = (m : Int) := by omega
      clear hm'
      have hx := hcell m (by omega)
      obtain ⟨x, hxe⟩ : ∃ x, x = xs.getD m ByteArray.empty := ⟨_, rfl⟩
      rw [← hxe] at hx
      have HX : Hid (x = xs.getD m ByteArray.empty) := hxe
      clear hcell hc hxe
      by_cases hcmp : Op.bytesLess x.toList s.toList = true
      · go_wp2
        go_round
        case rel =>
          refine ⟨m + 1, hi, by omega, hhn, by go_num, rfl, fun j hj => ?_, H2.out⟩
          by_cases hjm : j = m
          · subst hjm; rw [← HX.out]; exact hcmp
          · cases h' : lt (xs.getD j ByteArray.empty) s with
            | true => rfl
            | false =>
              have := sorted_get HS.out (i := j) (j := m) (by omega) (by have := HN.out; omega)
              have h3 := le_trans h' this
              rw [← HX.out] at h3
              exact absurd (show lt x s = true from hcmp) (by rw [h3]; simp)
        case measure => simp [intOf]; omega
      · replace hcmp : Op.bytesLess x.toList s.toList = false := by simpa using hcmp
        go_wp2
        go_round
        case rel =>
          refine ⟨lo, m, by omega, by omega, rfl, by go_num, H1.out, fun j hj hj' => ?_⟩
          by_cases hjm : j = m
          · subst hjm; rw [← HX.out]; exact hcmp
          · have := sorted_get HS.out (i := m) (j := j) (by omega) (by have := HN.out; omega)
            rw [← HX.out] at this
            exact le_trans (show lt x s = false from hcmp) this
        case measure => simp [intOf]; omega
    · have hk : xs.countP (fun x => lt x s) = lo := countP_cut _ xs lo (by have := HN.out; omega) H1.out (fun j hj hj' => H2.out j (by omega) (by have := HN.out; omega))
      have HK := hide hk
      clear hk hc
      go_wp2
      go_ret
      rw [HK.out]
      exact ⟨rfl, rfl⟩

set_option maxHeartbeats 400000 in
theorem upper_any (B : Nat) (v : Value) (xs : List ByteArray) (s : ByteArray) (w : World) (h : Strs B w v xs) (hm : xs.length ≤ 8388608) (hs : Sorted xs) :
    Calls Try.prog 38 #[v, .string s] w fun e w' => e = .returned (.int .i64 ((xs.countP fun x => lt x s || same x s : Nat) : Int)) ∧ w' = w := by
  obtain ⟨ao, cap, rfl, hl, hc⟩ := h
  obtain ⟨n, hn⟩ : ∃ n, n = xs.length := ⟨_, rfl⟩
  rw [← hn] at hc hm ⊢
  have HN : Hid (n = xs.length) := hn
  have HS : Hid (Sorted xs) := hs
  clear hl hn hs
  go_enter Try.func38, Try.ntmps38
  go_wp2
  go_loop [5, 6] (fun a b => ∃ lo hi : Nat, lo ≤ hi ∧ hi ≤ n ∧ a = .int .i64 lo ∧ b = .int .i64 hi ∧ (∀ j, j < lo → (lt (xs.getD j ByteArray.empty) s || same (xs.getD j ByteArray.empty) s) = true) ∧ (∀ j, hi ≤ j → j < n → (lt (xs.getD j ByteArray.empty) s || same (xs.getD j ByteArray.empty) s) = false)) (fun a b => (intOf b).toNat - (intOf a).toNat)
  case atStart => exact ⟨0, n, Nat.zero_le _, Nat.le_refl _, rfl, rfl, fun j hj => by omega, fun j hj hj' => by omega⟩
  case round =>
    obtain ⟨lo, hi, hlh, hhn, rfl, rfl, h1, h2⟩ := hrel
    have H1 : Hid (∀ j, j < lo → (lt (xs.getD j ByteArray.empty) s || same (xs.getD j ByteArray.empty) s) = true) := h1
    have H2 : Hid (∀ j, hi ≤ j → j < n → (lt (xs.getD j ByteArray.empty) s || same (xs.getD j ByteArray.empty) s) = false) := h2
    clear h1 h2
    by_cases hlt : lo < hi
    · obtain ⟨b, off, rfl, hb, hcell⟩ := hc (by omega)
      obtain ⟨m, hm'⟩ : ∃ m, m = lo + (hi - lo) / 2 := ⟨_, rfl⟩
      have hml : lo ≤ m := by omega
      have hmh : m < hi := by omega
      have hmi : ((lo : Int) + ((hi : Int) - (lo : Int)) / 2) = (m : Int) := by omega
      clear hm'
      have hx := hcell m (by omega)
      obtain ⟨x, hxe⟩ : ∃ x, x = xs.getD m ByteArray.empty := ⟨_, rfl⟩
      rw [← hxe] at hx
      have HX : Hid (x = xs.getD m ByteArray.empty) := hxe
      clear hcell hc hxe
      have rel1 : lt x s = true ∨ same x s = true → ∀ j, j < m + 1 → (lt (xs.getD j ByteArray.empty) s || same (xs.getD j ByteArray.empty) s) = true := by
        intro hle j hj
        have hxs : lt s x = false := by
          rcases hle with h | h
          · exact lt_asymm h
          · rw [lt_same_right h, lt_irrefl]
        have hjs : lt s (xs.getD j ByteArray.empty) = false := by
          by_cases hjm : j = m
          · subst hjm; rw [← HX.out]; exact hxs
          · have := sorted_get HS.out (i := j) (j := m) (by omega) (by have := HN.out; omega)
            rw [← HX.out] at this
            exact le_trans this hxs
        cases h' : lt (xs.getD j ByteArray.empty) s with
        | true => rfl
        | false => rw [same_of h' hjs]; rfl
      have rel2 : lt x s = false → same x s = false → ∀ j, m ≤ j → j < n → (lt (xs.getD j ByteArray.empty) s || same (xs.getD j ByteArray.empty) s) = false := by
        intro hl1 hs1 j hj hj'
        have hsx : lt s x = true := by
          cases h' : lt s x with
          | true => rfl
          | false => rw [same_of hl1 h'] at hs1; cases hs1
        have hjs : lt s (xs.getD j ByteArray.empty) = true := by
          by_cases hjm : j = m
          · subst hjm; rw [← HX.out]; exact hsx
          · have := sorted_get HS.out (i := m) (j := j) (by omega) (by have := HN.out; omega)
            rw [← HX.out] at this
            exact lt_of_lt_of_le hsx this
        have h3 := lt_asymm hjs
        cases h4 : same (xs.getD j ByteArray.empty) s with
        | false => rw [h3]; rfl
        | true => rw [lt_same_right h4, lt_irrefl] at hjs; cases hjs
      have R1 := hide rel1
      have R2 := hide rel2
      clear rel1 rel2
      by_cases hcmp : Op.bytesLess x.toList s.toList = true
      · go_wp2
        go_round
        case rel => exact ⟨m + 1, hi, by omega, hhn, by go_num, rfl, R1.out (Or.inl hcmp), H2.out⟩
        case measure => simp [intOf]; omega
      · replace hcmp : Op.bytesLess x.toList s.toList = false := by simpa using hcmp
        by_cases hq : (x.toList == s.toList) = true
        · go_wp2
          go_round
          case rel => exact ⟨m + 1, hi, by omega, hhn, by go_num, rfl, R1.out (Or.inr hq), H2.out⟩
          case measure => simp [intOf]; omega
        · replace hq : (x.toList == s.toList) = false := by simpa using hq
          go_wp2
          go_round
          case rel => exact ⟨lo, m, by omega, by omega, rfl, by go_num, H1.out, R2.out hcmp hq⟩
          case measure => simp [intOf]; omega
    · have hk : xs.countP (fun x => lt x s || same x s) = lo := countP_cut _ xs lo (by have := HN.out; omega) H1.out (fun j hj hj' => H2.out j (by omega) (by have := HN.out; omega))
      have HK := hide hk
      clear hk hc
      go_wp2
      go_ret
      rw [HK.out]
      exact ⟨rfl, rfl⟩

/-! ### zzCount, zzMaxInt -/
set_option maxHeartbeats 400000 in
theorem count_any (B : Nat) (v : Value) (xs : List ByteArray) (s : ByteArray) (w : World) (h : Strs B w v xs) (hm : xs.length ≤ 8388608) (hs : Sorted xs) :
    Calls Try.prog 31 #[v, .string s] w fun e w' => e = .returned (.int .i64 (cnt xs s : Nat)) ∧ w' = w := by
  have hc := countP_le_lt xs s
  have hcl := cnt_le xs s
  have hl1 : xs.countP (fun x => lt x s) ≤ xs.length := List.countP_le_length
  have hu := upper_any B v xs s w h hm hs
  have hl := lower_any B v xs s w h hm hs
  rw [hc] at hu
  clear hc
  generalize cnt xs s = c at *
  generalize xs.countP (fun x => lt x s) = l at *
  obtain ⟨ao, na, ca, rfl⟩ := h.form
  have HU := hide hu
  have HL := hide hl
  clear hu hl hs h
  go_enter Try.func31, Try.ntmps31
  go_wp2_with fail
  refine (unhide HU).mono ?_
  rintro e w' ⟨rfl, rfl⟩
  go_wp2_with fail
  refine (unhide HL).mono ?_
  rintro e w' ⟨rfl, rfl⟩
  go_wp2_with fail
  go_ret
  refine ⟨?_, rfl⟩
  simp
  omega

set_option maxHeartbeats 400000 in
theorem max_any (a b : Nat) (w : World) :
    Calls Try.prog 32 #[.int .i64 a, .int .i64 b] w fun e w' => e = .returned (.int .i64 (max a b : Nat)) ∧ w' = w := by
  obtain ⟨c, hc⟩ : ∃ c, c = max a b := ⟨_, rfl⟩
  rw [← hc]
  have HC := hide hc
  clear hc
  by_cases h : (b : Int) < (a : Int)
  · go_enter Try.func32, Try.ntmps32
    go_wp2
    go_ret
    rw [show c = a by have := HC.out; omega]
    exact ⟨rfl, rfl⟩
  · go_enter Try.func32, Try.ntmps32
    go_wp2
    go_ret
    rw [show c = b by have := HC.out; omega]
    exact ⟨rfl, rfl⟩
end Go.Proofs.Qxb6603225a
