import Derived.Test.Qxb6603281aCopy
namespace Go.Proofs.Qxb6603281a
open Go.RowKit

theorem and1 {X : Int} (h0 : 0 ≤ X) (h1 : X < 256) : bits .and .u8 X 1 = X % 2 := by
  obtain ⟨a, rfl⟩ := Int.eq_ofNat_of_zero_le h0
  rw [show (1 : Int) = ((1 : Nat) : Int) from rfl, u8_and_nat a 1 (by omega) (by omega), show (1 : Nat) = 2 ^ 1 - 1 from rfl, Nat.and_two_pow_sub_one_eq_mod]
  omega

theorem or16 {x y : Int} (h0 : 0 ≤ x) (hx : x < 256) (h1 : 0 ≤ y) (hy : y < 256) : bits .or .u16 (x * 256) y = x * 256 + y := by
  obtain ⟨a, rfl⟩ := Int.eq_ofNat_of_zero_le h0
  obtain ⟨b, rfl⟩ := Int.eq_ofNat_of_zero_le h1
  have e3 : (a * 256) ||| b = a * 256 + b := by
    have := Nat.shiftLeft_add_eq_or_of_lt (show b < 2 ^ 8 by omega) a
    rw [Nat.shiftLeft_eq] at this
    exact this.symm
  rw [show (a : Int) * 256 = ((a * 256 : Nat) : Int) by omega, u16_or_nat _ _ (by omega) (by omega), e3]
  omega

/-- The flag byte over Nat. -/
def nflag (h q : Nat) (d : Bool) : Nat := if d then (h &&& 249 ||| (q * 2)) ||| 8 else (h &&& 249 ||| (q * 2))

def FlagOK (F h q : Nat) (d : Bool) : Prop :=
  F < 256 ∧ F % 2 = h % 2 ∧ F / 2 % 2 = q % 2 ∧ F / 4 % 2 = q / 2 % 2 ∧ F / 8 % 2 = (if d then 1 else h / 8 % 2) ∧ F / 16 % 2 = h / 16 % 2 ∧ F / 32 % 2 = h / 32 % 2 ∧ F / 64 % 2 = h / 64 % 2 ∧ F / 128 % 2 = h / 128 % 2

theorem nbit (h q : Nat) (d : Bool) (k : Nat) : nflag h q d / 2 ^ k % 2 = ((h.testBit k && Nat.testBit 249 k) || Nat.testBit (q * 2) k || (d && Nat.testBit 8 k)).toNat := by
  rw [← Nat.toNat_testBit]
  unfold nflag
  cases d
  · simp [Nat.testBit_or, Nat.testBit_and]
  · simp [Nat.testBit_or, Nat.testBit_and]
theorem nbit_h {h q : Nat} {d : Bool} (k : Nat) (e1 : Nat.testBit 249 k = true) (e2 : Nat.testBit (q * 2) k = false) (e3 : (d && Nat.testBit 8 k) = false) : nflag h q d / 2 ^ k % 2 = h / 2 ^ k % 2 := by
  rw [nbit, e1, e2, e3, ← Nat.toNat_testBit]
  simp
theorem nbit_q {h q : Nat} {d : Bool} (k : Nat) (e1 : Nat.testBit 249 k = false) (e3 : (d && Nat.testBit 8 k) = false) : nflag h q d / 2 ^ k % 2 = (q * 2) / 2 ^ k % 2 := by
  rw [nbit, e1, e3, ← Nat.toNat_testBit]
  simp
theorem qbit {q : Nat} (hq : q < 4) (k : Nat) (hk : k = 0 ∨ 3 ≤ k) : Nat.testBit (q * 2) k = false := by
  rcases hk with rfl | hk
  · rw [Nat.testBit_eq_decide_div_mod_eq]; simp
  · exact Nat.testBit_lt_two_pow (Nat.lt_of_lt_of_le (show q * 2 < 2 ^ 3 by omega) (Nat.pow_le_pow_right (by omega) hk))

theorem flag_ok (h q : Nat) (d : Bool) (hq : q < 4) : FlagOK (nflag h q d) h q d := by
  have hl : ∀ x y : Nat, x < 256 → y < 256 → x ||| y < 256 := fun x y hx hy => Nat.or_lt_two_pow (n := 8) hx hy
  have ha : h &&& 249 < 256 := Nat.lt_of_le_of_lt Nat.and_le_right (by omega)
  have e8 : ∀ k, Nat.testBit 8 k = false → (d && Nat.testBit 8 k) = false := fun k hk => by rw [hk]; simp
  refine ⟨?_, ?_, ?_, ?_, ?_, ?_, ?_, ?_, ?_⟩
  · unfold nflag
    split
    · exact hl _ _ (hl _ _ ha (by omega)) (by omega)
    · exact hl _ _ ha (by omega)
  · have := nbit_h (h := h) (q := q) (d := d) 0 rfl (qbit hq 0 (by omega)) (e8 0 rfl)
    simpa using this
  · have := nbit_q (h := h) (q := q) (d := d) 1 rfl (e8 1 rfl)
    rw [show (2 : Nat) ^ 1 = 2 from rfl] at this
    omega
  · have := nbit_q (h := h) (q := q) (d := d) 2 rfl (e8 2 rfl)
    rw [show (2 : Nat) ^ 2 = 4 from rfl] at this
    omega
  · cases d
    · exact nbit_h (h := h) (q := q) (d := false) 3 rfl (qbit hq 3 (by omega)) rfl
    · have := nbit h q true 3
      rw [show Nat.testBit 8 3 = true from rfl] at this
      simpa using this
  · exact nbit_h (h := h) (q := q) (d := d) 4 rfl (qbit hq 4 (by omega)) (e8 4 rfl)
  · exact nbit_h (h := h) (q := q) (d := d) 5 rfl (qbit hq 5 (by omega)) (e8 5 rfl)
  · exact nbit_h (h := h) (q := q) (d := d) 6 rfl (qbit hq 6 (by omega)) (e8 6 rfl)
  · exact nbit_h (h := h) (q := q) (d := d) 7 rfl (qbit hq 7 (by omega)) (e8 7 rfl)

theorem flag_nat (h q : Nat) (d : Bool) (hh : h < 256) (hq : q < 4) : flag (h : Int) (q : Int) d = (nflag h q d : Nat) ∧ FlagOK (nflag h q d) h q d := by
  refine ⟨?_, flag_ok h q d hq⟩
  have hl : ∀ x y : Nat, x < 256 → y < 256 → x ||| y < 256 := fun x y hx hy => Nat.or_lt_two_pow (n := 8) hx hy
  have ha : h &&& 249 < 256 := Nat.lt_of_le_of_lt Nat.and_le_right (by omega)
  have e1 : flag0 (h : Int) (q : Int) = ((h &&& 249 ||| (q * 2) : Nat) : Int) := by
    unfold flag0
    rw [show (6 : Int) = ((6 : Nat) : Int) from rfl, u8_andNot_nat h 6 hh (by omega), show (q : Int) * 2 = ((q * 2 : Nat) : Int) by omega, u8_or_nat _ _ ha (by omega)]
  unfold flag nflag
  cases d
  · simpa using e1
  · rw [if_pos rfl, if_pos rfl, e1, show (8 : Int) = ((8 : Nat) : Int) from rfl, u8_or_nat _ _ (hl _ _ ha (by omega)) (by omega)]

/-- The flag's bits, as the law's Go text asks for them. -/
structure FlagSays (F h q : Int) (d : Bool) : Prop where
  f0 : 0 ≤ F
  f1 : F < 256
  b0 : bits .and .u8 F 1 = bits .and .u8 h 1
  b1 : bits .and .u8 (F / 2) 1 = bits .and .u8 q 1
  b2 : bits .and .u8 (F / 4) 1 = bits .and .u8 (q / 2) 1
  b3 : bits .and .u8 (F / 8) 1 = if d then 1 else bits .and .u8 (h / 8) 1
  b4 : bits .and .u8 (F / 16) 1 = bits .and .u8 (h / 16) 1
  b5 : bits .and .u8 (F / 32) 1 = bits .and .u8 (h / 32) 1
  b6 : bits .and .u8 (F / 64) 1 = bits .and .u8 (h / 64) 1
  b7 : bits .and .u8 (F / 128) 1 = bits .and .u8 (h / 128) 1

theorem and1n {n : Nat} (h : n < 256) : bits .and .u8 (n : Int) 1 = ((n % 2 : Nat) : Int) := by
  rw [and1 (by omega) (by omega)]
  omega
theorem half {F h : Nat} (k : Nat) (hF : F < 256) (hh : h < 256) (e : F / k % 2 = h % 2) : bits .and .u8 ((F : Int) / (k : Int)) 1 = bits .and .u8 (h : Int) 1 := by
  rw [← Int.natCast_ediv, and1n (Nat.lt_of_le_of_lt (Nat.div_le_self _ _) hF), and1n hh, e]
theorem lt_div {h : Nat} (k : Nat) (hh : h < 256) : h / k < 256 := Nat.lt_of_le_of_lt (Nat.div_le_self _ _) hh

theorem flag_says {h q : Int} (d : Bool) (h0 : 0 ≤ h) (h1 : h ≤ 255) (q0 : 0 ≤ q) (q1 : q ≤ 3) : FlagSays (flag h q d) h q d := by
  obtain ⟨a, rfl⟩ := Int.eq_ofNat_of_zero_le h0
  obtain ⟨b, rfl⟩ := Int.eq_ofNat_of_zero_le q0
  have ha : a < 256 := by omega
  have hb : b < 4 := by omega
  have hb' : b < 256 := by omega
  obtain ⟨e, hF, c0, c1, c2, c3, c4, c5, c6, c7⟩ := flag_nat a b d ha hb
  rw [e]
  generalize nflag a b d = F at *
  clear e h0 h1 q0 q1
  refine ⟨Int.natCast_nonneg _, Int.ofNat_lt.2 hF, ?_, half 2 hF hb' c1, half (h := b / 2) 4 hF (lt_div 2 hb') c2, ?_, half (h := a / 16) 16 hF (lt_div 16 ha) c4, half (h := a / 32) 32 hF (lt_div 32 ha) c5, half (h := a / 64) 64 hF (lt_div 64 ha) c6, half (h := a / 128) 128 hF (lt_div 128 ha) c7⟩
  · rw [and1n hF, and1n ha, c0]
  · cases d
    · exact half (h := a / 8) 8 hF (lt_div 8 ha) c3
    · exact half (h := 1) 8 hF (by omega) c3

/-- The copy's bytes, place by place. -/
structure OutSays (bs hs O : List Int) (q p : Int) (d : Bool) : Prop where
  len : O.length = bs.length + hs.length
  lo : ∀ i, i < bs.length → O.getD i 0 = bs.getD i 0
  fl : O.getD bs.length 0 = flag (hs.getD 0 0) q d
  mid : ∀ i, 1 ≤ i → i + 2 < hs.length → O.getD (bs.length + i) 0 = hs.getD i 0
  hi : O.getD (bs.length + hs.length - 2) 0 = p / 256
  lw : O.getD (bs.length + hs.length - 1) 0 = p % 256

theorem out_says (bs hs : List Int) (q p : Int) (d : Bool) (h3 : 3 ≤ hs.length) : OutSays bs hs (outv bs hs q p d) q p d := by
  refine ⟨by simp [outv], fun i hi => ?_, ?_, fun i h1 h2 => ?_, ?_, ?_⟩
  all_goals
    simp only [outv, List.getD_eq_getElem?_getD, List.getElem?_set, List.length_set, List.length_append]
  · rw [if_neg (by omega), if_neg (by omega), if_neg (by omega), List.getElem?_append_left hi]
  · rw [if_neg (by omega), if_neg (by omega), if_pos trivial, if_pos (by omega)]; rfl
  · rw [if_neg (by omega), if_neg (by omega), if_neg (by omega), List.getElem?_append_right (by omega), show bs.length + i - bs.length = i by omega]
  · rw [if_neg (by omega), if_pos trivial, if_pos (by omega)]; rfl
  · rw [if_pos trivial, if_pos (by omega)]; rfl
end Go.Proofs.Qxb6603281a
