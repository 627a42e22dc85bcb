import Derived.Test.Qxb6603262aHex4
namespace Go.Proofs.Qxb6603262a
open Go.RowKit

theorem Try.info5 : (Try.prog.info? 5).map (fun i => (i.zero, i.size, i.bytes)) = some (some (.int .u8 0), 1, 1) := by kernel_rfl

/-! ### cloneBytesJV1 -/
set_option maxHeartbeats 400000 in
theorem clone_nil (w : World) (n cap : Nat) :
    Calls Try.prog 10 #[.slice none n cap] w fun e w' => e = .returned (.slice none 0 0) ∧ w' = w := by
  have hq := fun (w : World) (a : Option Addr) (n c : Nat) => Lib.run_eql_slice_nil (P := Try.prog) w 24 5 a n c 0 0 Try.underlying24
  go_enter Try.func10, Try.ntmps10
  go_wp2
  go_ret
  exact ⟨rfl, rfl⟩

set_option maxHeartbeats 400000 in
theorem clone_some (ad : Addr) (n cap B : Nat) (zs : List Int) (w : World) (hn : n = zs.length) (hm : n ≤ 1048576) (hB : B ≤ w.heap.size)
    (hc : 0 < n → ∃ b off, ad = ⟨b, off, none⟩ ∧ b < B ∧ ∀ j, j < n → w.cell? ⟨b, off + j, none⟩ = some (.int .u8 (zs.getD j 0))) :
    Calls Try.prog 10 #[.slice (some ad) n cap] w fun e w' => e = .returned (.slice (some ⟨w.heap.size, 0, none⟩) n n) ∧ Below w.heap.size w w' ∧
      w'.ownsRow w.heap.size 5 1 (.slice (some ⟨w.heap.size, 0, none⟩) n n) n (zs.map (.int .u8)) := by
  have hq := fun (w : World) (a : Option Addr) (n c : Nat) => Lib.run_eql_slice_nil (P := Try.prog) w 24 5 a n c 0 0 Try.underlying24
  have HN : Hid (n = zs.length) := hn
  clear hn
  obtain ⟨i0, hi, hz0, hz1, hz2⟩ := info_parts Try.info5
  go_enter Try.func10, Try.ntmps10
  go_wp2_with (at_make; refine wpList_make_full _ rfl _ _ 24 rfl w.heap.size 5 i0 (.int .u8 0) 1 Try.underlying24 hi hz0 hz1 .i64 .i64 _ _ n rfl rfl rfl rfl (by rw [hz2]; omega) (by unfold maxLen; omega) (Nat.le_refl _) ?_; intro w1 hown hgrow)
  have hb1 : Below w.heap.size w w1 := (Below.refl _ _).grown hgrow (Nat.le_refl _) (fun k hk => by cases hk)
  clear hgrow
  go_loopw [4] (fun i wr => ∃ (k : Nat), k ≤ n ∧ i = .int .i64 k ∧ Below w.heap.size w wr ∧ ∃ cs, wr.ownsRow w.heap.size 5 1 (.slice (some ⟨w.heap.size, 0, none⟩) n n) n cs ∧ ∀ j, j < k → cs[j]? = some (.int .u8 (zs.getD j 0))) (fun i _ => n - (intOf i).toNat)
  case atStart => exact ⟨0, Nat.zero_le _, rfl, hb1, _, hown, fun j hj => by omega⟩
  case round =>
    obtain ⟨k, hk, rfl, hb, cs, ho, hcs⟩ := hrel
    by_cases hlt : k < n
    · obtain ⟨b, off, rfl, hbB, hcell⟩ := hc (by omega)
      have h1 := (hb.cell (p := ⟨b, off + k, none⟩) (show b < w.heap.size by omega)).trans (hcell k hlt)
      have hlen := ho.1
      have h2 : wr.cell? ⟨w.heap.size, k, none⟩ = some (cs[k]'(by omega)) := by rw [ho.cellAt k (by omega)]; exact List.getElem?_eq_getElem _
      have h3 := ho.frozenAt k
      have hst := ho.stored k (.int .u8 (zs.getD k 0))
      have HST : Hid ((wr.setCell ⟨w.heap.size, k, none⟩ (.int .u8 (zs.getD k 0))).ownsRow w.heap.size 5 1 (.slice (some ⟨w.heap.size, 0, none⟩) n n) n (cs.set k (.int .u8 (zs.getD k 0)))) := hst.1
      have HC : Hid (∀ j, j < k → cs[j]? = some (.int .u8 (zs.getD j 0))) := hcs
      have hsz := hb.size
      generalize cs[k]'(by omega) = c0 at h2
      clear hst ho hcs hown hb1 hcell hc hz0 hz1 hz2 hi
      go_wp2
      go_roundw
      case rel =>
        refine ⟨k + 1, by omega, by go_num, hb.setCell (Nat.le_refl _) _, _, HST.out, fun j hj => ?_⟩
        rw [List.getElem?_set]
        by_cases hjk : k = j
        · subst hjk; simp [show k < cs.length by omega]
        · rw [if_neg hjk]; exact HC.out j (by omega)
      case measure => simp [intOf]; omega
    · have heq : cs = zs.map (.int .u8) := by
        apply List.ext_getElem?
        intro j
        have hl := ho.1
        by_cases hj : j < n
        · rw [hcs j (by omega)]; have := HN.out; simp [List.getElem?_map, List.getElem?_eq_getElem (show j < zs.length by omega)]
        · rw [List.getElem?_eq_none (by omega), List.getElem?_eq_none (by have := HN.out; simp; omega)]
      rw [heq] at ho
      clear heq hcs hc
      go_wp2
      go_ret
      exact ⟨rfl, hb, ho⟩

theorem Bytes.of_own {w : World} {base n : Nat} {v : Value} {zs : List Int} (h : w.ownsRow base 5 1 v n (zs.map (.int .u8))) : Bytes w.heap.size w v zs := by
  have hl := h.1
  simp only [List.length_map, Nat.mul_one] at hl
  subst hl
  rcases h.2 with ⟨rfl, h0⟩ | ⟨g, cap, cur, rfl, hb, hg, hnc, _⟩
  · exact ⟨none, 0, by rw [h0], by omega, fun hp => by omega⟩
  · refine ⟨_, cap, rfl, hnc, fun _ => ⟨g, 0, rfl, (Array.getElem?_eq_some_iff.1 hg).1, fun j hj => ?_⟩⟩
    rw [Nat.zero_add, h.cellAt j (by omega), List.getElem?_map, List.getElem?_eq_getElem hj]
    simp [List.getElem?_eq_getElem hj]

def Cloned (w : World) (zs : List Int) (e : Ending) (w' : World) : Prop := ∃ ao cap, e = .returned (.slice ao zs.length cap) ∧ Bytes w'.heap.size w' (.slice ao zs.length cap) zs ∧ Below w.heap.size w w'

theorem clone_any (B : Nat) (v : Value) (zs : List Int) (w : World) (hB : B ≤ w.heap.size) (h : Bytes B w v zs) (hm : zs.length ≤ 1048576) : Calls Try.prog 10 #[v] w (Cloned w zs) := by
  obtain ⟨ao, cap, rfl, hl, hc⟩ := h
  cases ao with
  | none =>
    have h0 : zs.length = 0 := by
      rcases Nat.eq_zero_or_pos zs.length with h | h
      · exact h
      · obtain ⟨_, _, h', _⟩ := hc h; cases h'
    refine (clone_nil w _ _).mono ?_
    rintro e w' ⟨rfl, rfl⟩
    exact ⟨none, 0, by rw [h0], ⟨none, 0, rfl, by omega, fun h => by omega⟩, Below.refl _ _⟩
  | some ad =>
    refine (clone_some ad zs.length cap B zs w rfl hm hB (fun h => ?_)).mono ?_
    · obtain ⟨b, off, h', r⟩ := hc h
      cases h'
      exact ⟨b, off, rfl, r⟩
    · rintro e w' ⟨rfl, hb, ho⟩
      exact ⟨_, _, rfl, Bytes.of_own ho, hb⟩

/-! ### zzBytes_FnHex4MatchesModel -/
set_option maxHeartbeats 400000 in
theorem bytes9_any (ao : Option Addr) (n cap : Nat) (w : World) :
    Calls Try.prog 9 #[.slice ao n cap] w fun e w' => e = .returned (.bool (decide (n ≤ 1048576))) ∧ w' = w := by
  by_cases h : n ≤ 1048576
  · rw [decide_eq_true h]
    go_enter Try.func9, Try.ntmps9
    go_wp2
    go_ret
    exact ⟨rfl, rfl⟩
  · rw [decide_eq_false h]
    go_enter Try.func9, Try.ntmps9
    go_wp2
    go_ret
    exact ⟨rfl, rfl⟩

/-- The law's end: true, and nothing old has turned. -/
def Holds (w : World) (e : Ending) (w' : World) : Prop := e = .returned (.bool true) ∧ Below w.heap.size w w'
theorem Holds.mk {w w' : World} (h : Below w.heap.size w w') : Holds w (.returned (.bool true)) w' := ⟨rfl, h⟩

set_option maxHeartbeats 1000000 in
theorem fn5 (v : Value) (zs : List Int) (w : World) (h : Bytes w.heap.size w v zs) (hb : ByteList zs) : Calls Try.prog 5 #[v] w (Holds w) := by
  by_cases hm : zs.length ≤ 1048576
  case neg =>
    obtain ⟨ao, cap, rfl, _, _⟩ := h
    have C9 := hide (bytes9_any ao zs.length cap w)
    rw [decide_eq_false hm] at C9
    generalize zs.length = n at *
    go_enter Try.func5, Try.ntmps5
    go_wp2_with fail
    refine C9.out.mono ?_
    rintro e w' ⟨rfl, rfl⟩
    go_wp2_with fail
    go_ret
    exact Holds.mk (Below.refl _ _)
  have CC := hide (clone_any w.heap.size v zs w (Nat.le_refl _) h hm)
  have HBY := hide hb
  obtain ⟨ao, cap, rfl, _, _⟩ := h
  have C9 := hide (bytes9_any ao zs.length cap w)
  rw [decide_eq_true hm] at C9
  clear hb
  go_enter Try.func5, Try.ntmps5
  go_wp2_with fail
  refine C9.out.mono ?_
  rintro e w' ⟨rfl, rfl⟩
  go_wp2_with fail
  refine CC.out.mono ?_
  rintro e w2 ⟨ao2, cap2, rfl, hb2, hbel⟩
  have C11 := hide (zzHex4_any _ _ zs w2 hb2 HBY.out)
  have HBEL := hide hbel
  clear CC C9 hbel
  by_cases h4 : zs.length < 4
  · have hr : hex4v zs = -1 := by unfold hex4v; rw [if_pos h4]
    rw [hr] at C11
    clear hr hb2
    generalize zs.length = n at *
    go_wp2_with fail
    refine C11.out.mono ?_
    rintro e w' ⟨rfl, rfl⟩
    go_wp2_with fail
    go_ret
    exact Holds.mk HBEL.out
  · have h4i : (4 : Int) ≤ (zs.length : Int) := by omega
    obtain ⟨ao3, cap3, he3, _, hc3⟩ := hb2
    obtain ⟨b, off, rfl, hbB, hcell⟩ := hc3 (by omega)
    simp only [Value.slice.injEq, true_and] at he3
    obtain ⟨rfl, rfl⟩ := he3
    have z0 := hcell 0 (by omega)
    have z1 := hcell 1 (by omega)
    have z2 := hcell 2 (by omega)
    have z3 := hcell 3 (by omega)
    rw [Nat.add_zero] at z0
    have M0 := hide (model_any (zs.getD 0 0) w2)
    have M1 := hide (model_any (zs.getD 1 0) w2)
    have M2 := hide (model_any (zs.getD 2 0) w2)
    have M3 := hide (model_any (zs.getD 3 0) w2)
    obtain ⟨a0, a1⟩ := hexv_bounds (zs.getD 0 0)
    obtain ⟨b0, b1⟩ := hexv_bounds (zs.getD 1 0)
    obtain ⟨c0, c1⟩ := hexv_bounds (zs.getD 2 0)
    obtain ⟨d0, d1⟩ := hexv_bounds (zs.getD 3 0)
    have hr : hex4v zs = if hexv (zs.getD 0 0) < 0 ∨ hexv (zs.getD 1 0) < 0 ∨ hexv (zs.getD 2 0) < 0 ∨ hexv (zs.getD 3 0) < 0 then -1
        else ((hexv (zs.getD 0 0) * 16 + hexv (zs.getD 1 0)) * 16 + hexv (zs.getD 2 0)) * 16 + hexv (zs.getD 3 0) := by unfold hex4v; rw [if_neg h4]
    rw [hr] at C11
    clear hr hcell hc3 HBY
    generalize hexv (zs.getD 0 0) = a at *
    generalize hexv (zs.getD 1 0) = b' at *
    generalize hexv (zs.getD 2 0) = c at *
    generalize hexv (zs.getD 3 0) = d at *
    generalize zs.getD 0 0 = y0 at *
    generalize zs.getD 1 0 = y1 at *
    generalize zs.getD 2 0 = y2 at *
    generalize zs.getD 3 0 = y3 at *
    generalize zs.length = n at *
    by_cases hgood : 0 ≤ a ∧ 0 ≤ b' ∧ 0 ≤ c ∧ 0 ≤ d
    · obtain ⟨g0, g1, g2, g3⟩ := hgood
      rw [if_neg (by omega), show ((a * 16 + b') * 16 + c) * 16 + d = a * 4096 + b' * 256 + c * 16 + d by omega] at C11
      go_wp2_with fail
      refine M0.out.mono ?_
      rintro e w' ⟨rfl, rfl⟩
      go_wp2_with fail
      refine M1.out.mono ?_
      rintro e w' ⟨rfl, rfl⟩
      go_wp2_with fail
      refine M2.out.mono ?_
      rintro e w' ⟨rfl, rfl⟩
      go_wp2_with fail
      refine M3.out.mono ?_
      rintro e w' ⟨rfl, rfl⟩
      go_wp2_with fail
      refine C11.out.mono ?_
      rintro e w' ⟨rfl, rfl⟩
      go_wp2_with fail
      go_ret
      exact Holds.mk HBEL.out
    · rw [if_pos (by omega)] at C11
      rcases (show a < 0 ∨ (0 ≤ a ∧ b' < 0) ∨ (0 ≤ a ∧ 0 ≤ b' ∧ c < 0) ∨ (0 ≤ a ∧ 0 ≤ b' ∧ 0 ≤ c ∧ d < 0) by omega) with g0 | ⟨g0, g1⟩ | ⟨g0, g1, g2⟩ | ⟨g0, g1, g2, g3⟩
      all_goals
        clear hgood
        go_wp2_with fail
        refine M0.out.mono ?_
        rintro e w' ⟨rfl, rfl⟩
        go_wp2_with fail
        refine M1.out.mono ?_
        rintro e w' ⟨rfl, rfl⟩
        go_wp2_with fail
        refine M2.out.mono ?_
        rintro e w' ⟨rfl, rfl⟩
        go_wp2_with fail
        refine M3.out.mono ?_
        rintro e w' ⟨rfl, rfl⟩
        go_wp2_with fail
        refine C11.out.mono ?_
        rintro e w' ⟨rfl, rfl⟩
        go_wp2_with fail
        go_ret
        exact Holds.mk HBEL.out
end Go.Proofs.Qxb6603262a
