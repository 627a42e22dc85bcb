import Derived.Test.Qxb6603281aRows
import Derived.WalkKit
import Derived.WalkSpells
import Derived.WalkLawsBesides
import Derived.Laws.BitsAllLaws
import Derived.Laws.CopyOwn
namespace Go.Proofs.Qxb6603281a
open Go.RowKit

theorem hide {p : Prop} (h : p) : Hid p := h
theorem Try.info5 : (Try.prog.info? 5).map (fun i => (i.zero, i.size, i.bytes)) = some (some (.int .u8 0), 1, 1) := by kernel_rfl

/-- The slice value v reads in w as the bytes zs; its cells lie below block B. -/
def Bytes (B : Nat) (w : World) (v : Value) (zs : List Int) : Prop :=
  ∃ ao cap, v = .slice ao zs.length cap ∧ zs.length ≤ cap ∧
    (0 < zs.length → ∃ b off, ao = some ⟨b, off, none⟩ ∧ b < B ∧ ∀ j, j < zs.length → w.cell? ⟨b, off + j, none⟩ = some (.int .u8 (zs.getD j 0)))
def ByteList (zs : List Int) : Prop := ∀ j, 0 ≤ zs.getD j 0 ∧ zs.getD j 0 ≤ 255

theorem Bytes.below {B : Nat} {w w' : World} {v : Value} {zs : List Int} (h : Bytes B w v zs) (hb : Below B w w') : Bytes B w' v zs := by
  obtain ⟨ao, cap, rfl, hl, hc⟩ := h
  refine ⟨ao, cap, rfl, hl, fun h0 => ?_⟩
  obtain ⟨b, off, rfl, hb', hcell⟩ := hc h0
  exact ⟨b, off, rfl, hb', fun j hj => (hb.cell (p := ⟨b, off + j, none⟩) hb').trans (hcell j hj)⟩
theorem Bytes.mono {B B' : Nat} {w : World} {v : Value} {zs : List Int} (h : Bytes B w v zs) (hb : B ≤ B') : Bytes B' w v zs := by
  obtain ⟨ao, cap, rfl, hl, hc⟩ := h
  refine ⟨ao, cap, rfl, hl, fun h0 => ?_⟩
  obtain ⟨b, off, rfl, hb', hcell⟩ := hc h0
  exact ⟨b, off, rfl, by omega, hcell⟩
theorem Bytes.of_own {w : World} {base n : Nat} {v : Value} {zs : List Int} (h : w.ownsRow base 5 1 v n (zs.map (.int .u8))) : Bytes w.heap.size w v zs := by
  have hl := h.1
  simp only [List.length_map, Nat.mul_one] at hl
  subst hl
  rcases h.2 with ⟨rfl, h0⟩ | ⟨g, cap, cur, rfl, hb, hg, hnc, _⟩
  · exact ⟨none, 0, by rw [h0], by omega, fun hp => by omega⟩
  · refine ⟨_, cap, rfl, hnc, fun _ => ⟨g, 0, rfl, (Array.getElem?_eq_some_iff.1 hg).1, fun j hj => ?_⟩⟩
    rw [Nat.zero_add, h.cellAt j (by omega), List.getElem?_map, List.getElem?_eq_getElem hj]
    simp [List.getElem?_eq_getElem hj]

theorem row_of {w : World} {base e g n : Nat} {xs : List Value} (h : w.ownsRow base e 1 (.slice (some ⟨g, 0, none⟩) n n) n xs) : ∃ cur : List Value, w.heap[g]? = some (.cells cur.toArray e (0, 0)) ∧ cur.length = n ∧ base ≤ g := by
  rcases h.2 with ⟨h', _⟩ | ⟨g', cap', cur, h', hb, hh, _, _, hs, _⟩
  · cases h'
  · simp only [Value.slice.injEq, Option.some.injEq, Addr.mk.injEq, and_true, true_and] at h'
    obtain ⟨rfl, rfl⟩ := h'
    exact ⟨cur.toList, hh, by simpa using hs, hb⟩

theorem own_of {w : World} {base g n : Nat} {cur cs : List Value} (hg : w.heap[g]? = some (.cells (splice cur 0 cs).toArray 5 (0, 0))) (hc : cs.length = n) (hl : cur.length = n) (hb : base ≤ g) (hm : n ≤ maxLen) :
    w.ownsRow base 5 1 (.slice (some ⟨g, 0, none⟩) n n) n cs := by
  have hs : splice cur 0 cs = cs := by unfold splice; simp [hc, hl]
  rw [hs] at hg
  exact ⟨by omega, Or.inr ⟨g, n, _, rfl, hb, hg, Nat.le_refl _, hm, by simp; omega, by rw [Nat.mul_one]; exact List.take_of_length_le (by simp; omega)⟩⟩

/-! ### zzBytes -/
set_option maxHeartbeats 400000 in
theorem bytes16_any (ao bo : Option Addr) (n c m d : Nat) (q p : Int) (f : Bool) (w : World) :
    Calls Try.prog 16 #[.slice ao n c, .slice bo m d, .int .u8 q, .int .u16 p, .bool f] w fun e w' => e = .returned (.bool (decide (n + m ≤ 1048576))) ∧ w' = w := by
  by_cases h : n ≤ 1048576
  · by_cases h2 : m ≤ 1048576
    · by_cases h3 : n + m ≤ 1048576
      · rw [decide_eq_true h3]
        go_enter Try.func16, Try.ntmps16
        go_wp2
        go_ret
        exact ⟨rfl, rfl⟩
      · rw [decide_eq_false h3]
        go_enter Try.func16, Try.ntmps16
        go_wp2
        go_ret
        exact ⟨rfl, rfl⟩
    · rw [decide_eq_false (show ¬ n + m ≤ 1048576 by omega)]
      go_enter Try.func16, Try.ntmps16
      go_wp2
      go_ret
      exact ⟨rfl, rfl⟩
  · rw [decide_eq_false (show ¬ n + m ≤ 1048576 by omega)]
    go_enter Try.func16, Try.ntmps16
    go_wp2
    go_ret
    exact ⟨rfl, rfl⟩

/-! ### cloneBytes -/
set_option maxHeartbeats 400000 in
theorem clone_nil (w : World) (n cap : Nat) :
    Calls Try.prog 17 #[.slice none n cap] w fun e w' => e = .returned (.slice none 0 0) ∧ w' = w := by
  have hq := fun (w : World) (a : Option Addr) (n c : Nat) => Lib.run_eql_slice_nil (P := Try.prog) w 25 5 a n c 0 0 Try.underlying25
  go_enter Try.func17, Try.ntmps17
  go_wp2
  go_ret
  exact ⟨rfl, rfl⟩

set_option maxHeartbeats 400000 in
theorem clone_some (ad : Addr) (n cap B : Nat) (zs : List Int) (w : World) (hn : n = zs.length) (hm : n ≤ 1048576) (hB : B ≤ w.heap.size)
    (hc : 0 < n → ∃ b off, ad = ⟨b, off, none⟩ ∧ b < B ∧ ∀ j, j < n → w.cell? ⟨b, off + j, none⟩ = some (.int .u8 (zs.getD j 0))) :
    Calls Try.prog 17 #[.slice (some ad) n cap] w fun e w' => e = .returned (.slice (some ⟨w.heap.size, 0, none⟩) n n) ∧ Below w.heap.size w w' ∧
      w'.ownsRow w.heap.size 5 1 (.slice (some ⟨w.heap.size, 0, none⟩) n n) n (zs.map (.int .u8)) := by
  have hq := fun (w : World) (a : Option Addr) (n c : Nat) => Lib.run_eql_slice_nil (P := Try.prog) w 25 5 a n c 0 0 Try.underlying25
  have HCS : Hid (∀ W1 : World, Below w.heap.size w W1 → ∀ j v, (zs.map (Value.int .u8))[j]? = some v → W1.cell? (ad.add j) = some v) := hide fun W1 hb1 j v hv => by
    have hj : j < n := by
      rcases Nat.lt_or_ge j n with h | h
      · exact h
      · rw [List.getElem?_eq_none (by simp; omega)] at hv; cases hv
    obtain ⟨b, off, rfl, hbB, hcell⟩ := hc (by omega)
    rw [show (⟨b, off, none⟩ : Addr).add j = ⟨b, off + j, none⟩ by unfold Addr.add; split <;> simp_all]
    rw [hb1.cell (by exact Nat.lt_of_lt_of_le hbB hB), hcell j hj]
    rw [List.getElem?_map, List.getElem?_eq_getElem (show j < zs.length by omega)] at hv
    simpa [List.getElem?_eq_getElem (show j < zs.length by omega)] using hv
  have HC1 : Hid (∀ v ∈ zs.map (Value.int .u8), v.oneCell' = true) := hide fun v hv => by
    obtain ⟨j, _, rfl⟩ := List.mem_map.1 hv
    rfl
  have hcl : (zs.map (Value.int .u8)).length = n := by rw [List.length_map, hn]
  have HL := hide hcl
  clear hc hn hcl
  generalize zs.map (Value.int .u8) = cs at *
  obtain ⟨i0, hi, hz0, hz1, hz2⟩ := info_parts Try.info5
  go_enter Try.func17, Try.ntmps17
  go_wp2_with (first
    | (at_make; refine wpList_make_full _ rfl _ _ 25 rfl w.heap.size 5 i0 (.int .u8 0) 1 Try.underlying25 hi hz0 hz1 .i64 .i64 _ _ n rfl rfl rfl rfl (by rw [hz2]; omega) (by unfold maxLen; omega) (Nat.le_refl _) ?_; intro w1 hown hgrow; have hb1 : Below w.heap.size w w1 := (Below.refl _ _).grown hgrow (Nat.le_refl _) (fun k hk => by cases hk); obtain ⟨cur, hcur, hcurl, hcb⟩ := row_of hown; have HCUR := hide hcur; have HCL := hide hcurl; clear hown hgrow hcur hcurl)
    | (have _t := HCUR; refine wpList_copy_splice rfl (.tmp 9) (.tmp 10) 25 25 rfl 5 Try.underlying25 (by kernel_rfl) _ _ _ _ _ _ rfl rfl w.heap.size 0 cur 5 (by exact HCUR.out) cs (by rw [HL.out]; simp) (fun _ => ⟨rfl, ad, rfl, HCS.out _ hb1⟩) (by rw [HL.out, HCL.out]; omega) HC1.out w.heap.size w hb1 (by omega) ?_; intro w2 HG2 hB2; clear HCUR))
  go_ret
  exact ⟨rfl, hB2, own_of HG2.out HL.out HCL.out hcb (by unfold maxLen; omega)⟩

/-- A clone: the same bytes, in a row of its own. -/
def Cloned (w : World) (zs : List Int) (e : Ending) (w' : World) : Prop := ∃ ao cap, e = .returned (.slice ao zs.length cap) ∧ Below w.heap.size w w' ∧ w'.ownsRow w.heap.size 5 1 (.slice ao zs.length cap) zs.length (zs.map (.int .u8))

theorem clone_any (B : Nat) (v : Value) (zs : List Int) (w : World) (hB : B ≤ w.heap.size) (h : Bytes B w v zs) (hm : zs.length ≤ 1048576) : Calls Try.prog 17 #[v] w (Cloned w zs) := by
  obtain ⟨ao, cap, rfl, hl, hc⟩ := h
  cases ao with
  | none =>
    have h0 : zs.length = 0 := by
      rcases Nat.eq_zero_or_pos zs.length with h | h
      · exact h
      · obtain ⟨_, _, h', _⟩ := hc h; cases h'
    refine (clone_nil w _ _).mono ?_
    rintro e w' ⟨rfl, rfl⟩
    exact ⟨none, 0, by rw [h0], Below.refl _ _, by rw [h0]; exact ⟨by simp [h0], Or.inl ⟨rfl, rfl⟩⟩⟩
  | some ad =>
    refine (clone_some ad zs.length cap B zs w rfl hm hB (fun h => ?_)).mono ?_
    · obtain ⟨b, off, h', r⟩ := hc h
      cases h'
      exact ⟨b, off, rfl, r⟩
    · rintro e w' ⟨rfl, hb, ho⟩
      exact ⟨_, _, rfl, hb, ho⟩
end Go.Proofs.Qxb6603281a
