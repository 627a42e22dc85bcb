import Derived.Test.Qxb6603225aStrs
import Derived.Deep.RegionHeld3
import Derived.Deep.AppendLies
namespace Go.Proofs.Qxb6603225a
open Go.RowKit

theorem Try.info45 : (Try.prog.info? 45).map (fun i => (i.zero, i.size, i.bytes)) = some (some (.string ByteArray.empty), 1, 16) := by kernel_rfl

/-! ### zzEqualIDs at two slices of the same strings -/
set_option maxHeartbeats 400000 in
theorem equal_same (B : Nat) (v v' : Value) (xs : List ByteArray) (w : World) (h : Strs B w v xs) (h' : Strs B w v' xs) (hm : xs.length ≤ 2097152) :
    Calls Try.prog 16 #[v, v'] w fun e w' => e = .returned (.bool true) ∧ ∃ q, w' = w.drewN q := by
  obtain ⟨ao, cap, rfl, hl, hc⟩ := h
  obtain ⟨ao', cap', rfl, hl', hc'⟩ := h'
  obtain ⟨n, hn⟩ : ∃ n, n = xs.length := ⟨_, rfl⟩
  rw [← hn] at hc hc' hm ⊢
  clear hl hl' hn
  go_enter Try.func16, Try.ntmps16
  go_wp2
  go_loopw [5] (fun i wr => ∃ (k q : Nat), k ≤ n ∧ i = .int .i64 k ∧ wr = w.drewN q) (fun i _ => n - (intOf i).toNat)
  case atStart => exact ⟨0, 0, Nat.zero_le _, rfl, rfl⟩
  case round =>
    obtain ⟨k, q, hk, rfl, rfl⟩ := hrel
    by_cases hlt : k < n
    · obtain ⟨b, off, rfl, hb, hcell⟩ := hc (by omega)
      obtain ⟨b', off', rfl, hb', hcell'⟩ := hc' (by omega)
      have h1 := hcell k hlt
      have h2 := hcell' k hlt
      generalize xs.getD k ByteArray.empty = s at h1 h2
      clear hcell hcell' hc hc'
      go_wp2
      go_quiet (fail)
      go_wp2
      go_roundw
      case rel => exact ⟨k + 1, _, by omega, by go_num, rfl⟩
      case measure => simp [intOf]; omega
    · go_wp2
      go_ret
      exact ⟨rfl, _, rfl⟩

/-! ### zzToIDs -/
set_option maxHeartbeats 400000 in
theorem toIDs_nil (w : World) (n cap : Nat) :
    Calls Try.prog 12 #[.slice none n cap] w fun e w' => e = .returned (.slice none 0 0) ∧ w' = w := by
  have hq := fun (w : World) (a : Option Addr) (n c : Nat) => Lib.run_eql_slice_nil (P := Try.prog) w 22 9 a n c 0 0 Try.underlying22
  go_enter Try.func12, Try.ntmps12
  go_wp2
  go_ret
  exact ⟨rfl, rfl⟩

set_option maxHeartbeats 400000 in
theorem toIDs_some (ad : Addr) (n cap B : Nat) (xs : List ByteArray) (w : World) (hn : n = xs.length) (hm : n ≤ 1048576) (hB : B ≤ w.heap.size)
    (hc : 0 < n → ∃ b off, ad = ⟨b, off, none⟩ ∧ b < B ∧ ∀ j, j < n → w.cell? ⟨b, off + j, none⟩ = some (.string (xs.getD j ByteArray.empty))) :
    Calls Try.prog 12 #[.slice (some ad) n cap] w fun e w' => e = .returned (.slice (some ⟨w.heap.size, 0, none⟩) n n) ∧ Below w.heap.size w w' ∧
      w'.ownsRow w.heap.size 45 1 (.slice (some ⟨w.heap.size, 0, none⟩) n n) n (xs.map .string) := by
  have hq := fun (w : World) (a : Option Addr) (n c : Nat) => Lib.run_eql_slice_nil (P := Try.prog) w 22 9 a n c 0 0 Try.underlying22
  have HN : Hid (n = xs.length) := hn
  clear hn
  obtain ⟨i0, hi, hz0, hz1, hz2⟩ := info_parts Try.info45
  go_enter Try.func12, Try.ntmps12
  go_wp2_with (at_make; refine wpList_make_full _ rfl _ _ 27 rfl w.heap.size 45 i0 (.string ByteArray.empty) 1 Try.underlying27 hi hz0 hz1 .i64 .i64 _ _ n rfl rfl rfl rfl (by rw [hz2]; omega) (by unfold maxLen; omega) (Nat.le_refl _) ?_; intro w1 hown hgrow)
  have hb1 : Below w.heap.size w w1 := (Below.refl _ _).grown hgrow (Nat.le_refl _) (fun k hk => by cases hk)
  clear hgrow
  go_loopw [4] (fun i wr => ∃ (k : Nat), k ≤ n ∧ i = .int .i64 k ∧ Below w.heap.size w wr ∧ ∃ cs, wr.ownsRow w.heap.size 45 1 (.slice (some ⟨w.heap.size, 0, none⟩) n n) n cs ∧ ∀ j, j < k → cs[j]? = some (.string (xs.getD j ByteArray.empty))) (fun i _ => n - (intOf i).toNat)
  case atStart => exact ⟨0, Nat.zero_le _, rfl, hb1, _, hown, fun j hj => by omega⟩
  case round =>
    obtain ⟨k, hk, rfl, hb, cs, ho, hcs⟩ := hrel
    by_cases hlt : k < n
    · obtain ⟨b, off, rfl, hbB, hcell⟩ := hc (by omega)
      have h1 := (hb.cell (p := ⟨b, off + k, none⟩) (show b < w.heap.size by omega)).trans (hcell k hlt)
      have hlen := ho.1
      have h2 : wr.cell? ⟨w.heap.size, k, none⟩ = some (cs[k]'(by omega)) := by rw [ho.cellAt k (by omega)]; exact List.getElem?_eq_getElem _
      have h3 := ho.frozenAt k
      have hst := ho.stored k (.string (xs.getD k ByteArray.empty))
      have HST : Hid ((wr.setCell ⟨w.heap.size, k, none⟩ (.string (xs.getD k ByteArray.empty))).ownsRow w.heap.size 45 1 (.slice (some ⟨w.heap.size, 0, none⟩) n n) n (cs.set k (.string (xs.getD k ByteArray.empty)))) := hst.1
      have HC : Hid (∀ j, j < k → cs[j]? = some (.string (xs.getD j ByteArray.empty))) := hcs
      have hsz := hb.size
      generalize cs[k]'(by omega) = c0 at h2
      clear hst ho hcs hown hb1 hcell hc hz0 hz1 hz2 hi
      go_wp2
      go_roundw
      case rel =>
        refine ⟨k + 1, by omega, by go_num, hb.setCell (Nat.le_refl _) _, _, HST.out, fun j hj => ?_⟩
        rw [List.getElem?_set]
        by_cases hjk : k = j
        · subst hjk; simp [show k < cs.length by omega]
        · rw [if_neg hjk]; exact HC.out j (by omega)
      case measure => simp [intOf]; omega
    · have hkn : k = n := by omega
      have heq : cs = xs.map .string := by
        apply List.ext_getElem?
        intro j
        have hl := ho.1
        by_cases hj : j < n
        · rw [hcs j (by omega)]; have := HN.out; simp [List.getElem?_map, List.getElem?_eq_getElem (show j < xs.length by omega)]
        · rw [List.getElem?_eq_none (by omega), List.getElem?_eq_none (by have := HN.out; simp; omega)]
      rw [heq] at ho
      clear heq hcs hc
      go_wp2
      go_ret
      exact ⟨rfl, hb, ho⟩

end Go.Proofs.Qxb6603225a
