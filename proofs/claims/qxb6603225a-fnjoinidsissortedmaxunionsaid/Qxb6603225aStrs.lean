import Derived.Test.Qxb6603225aRows
import Derived.WalkKit
import Derived.WalkSpells
import Derived.WalkLawsBesides
import Derived.BigQuiet
import Derived.Deep.QuietTactic
namespace Go.Proofs.Qxb6603225a
open Go.RowKit

/-- The slice value v reads in w as the strings xs; its cells lie below block B. -/
def Strs (B : Nat) (w : World) (v : Value) (xs : List ByteArray) : Prop :=
  ∃ ao cap, v = .slice ao xs.length cap ∧ xs.length ≤ cap ∧
    (0 < xs.length → ∃ b off, ao = some ⟨b, off, none⟩ ∧ b < B ∧ ∀ j, j < xs.length → w.cell? ⟨b, off + j, none⟩ = some (.string (xs.getD j ByteArray.empty)))

/-- The call hands back some bool r, and p says what r and the world behind it are. (A name of its own, so that the walk does not take the 'there is' apart.) -/
def RetBool (p : Bool → World → Prop) (e : Ending) (w' : World) : Prop := ∃ r, e = .returned (.bool r) ∧ p r w'
theorem RetBool.mk {p : Bool → World → Prop} {r : Bool} {w' : World} (h : p r w') : RetBool p (.returned (.bool r)) w' := ⟨r, rfl, h⟩

/-- The strings ascend. -/
def Asc (xs : List ByteArray) : Prop := ∀ j, j + 1 < xs.length → Op.bytesLess (xs.getD (j + 1) ByteArray.empty).toList (xs.getD j ByteArray.empty).toList = false

theorem Strs.below {B : Nat} {w w' : World} {v : Value} {xs : List ByteArray} (h : Strs B w v xs) (hb : Below B w w') : Strs B w' v xs := by
  obtain ⟨ao, cap, rfl, hl, hc⟩ := h
  refine ⟨ao, cap, rfl, hl, fun h0 => ?_⟩
  obtain ⟨b, off, rfl, hb', hcell⟩ := hc h0
  exact ⟨b, off, rfl, hb', fun j hj => (hb.cell (p := ⟨b, off + j, none⟩) hb').trans (hcell j hj)⟩

theorem Strs.mono {B B' : Nat} {w : World} {v : Value} {xs : List ByteArray} (h : Strs B w v xs) (hb : B ≤ B') : Strs B' w v xs := by
  obtain ⟨ao, cap, rfl, hl, hc⟩ := h
  refine ⟨ao, cap, rfl, hl, fun h0 => ?_⟩
  obtain ⟨b, off, rfl, hb', hcell⟩ := hc h0
  exact ⟨b, off, rfl, by omega, hcell⟩

/-! ### zzNondecreasing -/
set_option maxHeartbeats 400000 in
theorem nondec_some (b off n cap : Nat) (xs : List ByteArray) (w : World) (hn : n = xs.length) (hm : n ≤ 1048576)
    (hc : ∀ j, j < n → w.cell? ⟨b, off + j, none⟩ = some (.string (xs.getD j ByteArray.empty))) :
    Calls Try.prog 11 #[.slice (some ⟨b, off, none⟩) n cap] w fun e w' => ∃ q r, e = .returned (.bool r) ∧ w' = w.drewN q ∧ (r = true → Asc xs) := by
  have HN : Hid (n = xs.length) := hn
  clear hn
  go_enter Try.func11, Try.ntmps11
  go_wp2
  go_loopw [3] (fun i wr => ∃ (k q : Nat), k ≤ n + 1 ∧ 1 ≤ k ∧ i = .int .i64 k ∧ wr = w.drewN q ∧ ∀ j, j + 1 < k → j + 1 < n → Op.bytesLess (xs.getD (j + 1) ByteArray.empty).toList (xs.getD j ByteArray.empty).toList = false) (fun i _ => n + 1 - (intOf i).toNat)
  case atStart => exact ⟨1, 0, by omega, by omega, rfl, rfl, fun j hj => by omega⟩
  case round =>
    obtain ⟨k, q, hk, hk1, rfl, rfl, hq⟩ := hrel
    have HQ : Hid (∀ j, j + 1 < k → j + 1 < n → Op.bytesLess (xs.getD (j + 1) ByteArray.empty).toList (xs.getD j ByteArray.empty).toList = false) := hq
    clear hq
    by_cases hlt : k < n
    · obtain ⟨m, rfl⟩ : ∃ m, k = m + 1 := ⟨k - 1, by omega⟩
      have h1 := hc (m + 1) (by omega)
      have h2 := hc m (by omega)
      obtain ⟨s, hs⟩ : ∃ s, s = xs.getD (m + 1) ByteArray.empty := ⟨_, rfl⟩
      obtain ⟨t, ht⟩ : ∃ t, t = xs.getD m ByteArray.empty := ⟨_, rfl⟩
      rw [← hs] at h1
      rw [← ht] at h2
      have HS : Hid (s = xs.getD (m + 1) ByteArray.empty) := hs
      have HT : Hid (t = xs.getD m ByteArray.empty) := ht
      clear hs ht hc
      go_wp2
      go_quiet (fail)
      go_wp2
      · go_ret
        exact ⟨_, false, rfl, World.drewN_drewN _ _ _, fun h => by cases h⟩
      · have hno : Op.bytesLess s.toList t.toList = false := by assumption
        go_roundw
        case rel =>
          refine ⟨m + 1 + 1, _, by omega, by omega, by go_num, rfl, fun j hj hj' => ?_⟩
          by_cases hjm : j = m
          · subst hjm; rw [← HS.out, ← HT.out]; exact hno
          · exact HQ.out j (by omega) hj'
        case measure => simp [intOf]; omega
    · go_wp2
      go_ret
      exact ⟨_, true, rfl, rfl, fun _ j hj => HQ.out j (by have := HN.out; omega) (by have := HN.out; omega)⟩

set_option maxHeartbeats 400000 in
theorem nondec_none (ao : Option Addr) (cap : Nat) (w : World) :
    Calls Try.prog 11 #[.slice ao 0 cap] w fun e w' => e = .returned (.bool true) ∧ w' = w := by
  go_enter Try.func11, Try.ntmps11
  go_wp2
  refine wp_loop_rounds 1 ?_
  rw [rounds_succ]
  go_wp2
  go_ret
  exact ⟨rfl, rfl⟩

theorem nondec_any (B : Nat) (v : Value) (xs : List ByteArray) (w : World) (h : Strs B w v xs) (hm : xs.length ≤ 1048576) :
    Calls Try.prog 11 #[v] w fun e w' => ∃ q r, e = .returned (.bool r) ∧ w' = w.drewN q ∧ (r = true → Asc xs) := by
  obtain ⟨ao, cap, rfl, hl, hc⟩ := h
  by_cases h0 : 0 < xs.length
  · obtain ⟨b, off, rfl, hb, hcell⟩ := hc h0
    exact nondec_some b off xs.length cap xs w rfl hm hcell
  · have : xs.length = 0 := by omega
    rw [this]
    refine (nondec_none ao cap w).mono ?_
    rintro e w' ⟨rfl, rfl⟩
    exact ⟨0, true, rfl, rfl, fun _ j hj => by omega⟩

/-! ### zzIDsBytes -/
set_option maxHeartbeats 400000 in
theorem idsBytes_any (B : Nat) (v : Value) (xs : List ByteArray) (t : Int) (w : World) (h : Strs B w v xs) (hm : xs.length ≤ 1048576) :
    Calls Try.prog 10 #[v, .int .u64 t] w fun e w' => ∃ r : Int, e = .returned (.int .u64 r) ∧ w' = w := by
  obtain ⟨ao, cap, rfl, hl, hc⟩ := h
  obtain ⟨n, hn⟩ : ∃ n, n = xs.length := ⟨_, rfl⟩
  rw [← hn] at hc hm ⊢
  clear hl
  go_enter Try.func10, Try.ntmps10
  go_wp2
  · go_ret
    exact ⟨_, rfl, rfl⟩
  · go_loop [1, 5] (fun t i => ∃ (k : Nat) (r : Int), k ≤ n ∧ i = .int .i64 k ∧ t = .int .u64 r) (fun _ i => n - (intOf i).toNat)
    case atStart => exact ⟨0, _, Nat.zero_le _, rfl, rfl⟩
    case round =>
      obtain ⟨k, r, hk, rfl, rfl⟩ := hrel
      by_cases hlt : k < n
      · obtain ⟨b, off, rfl, hb, hcell⟩ := hc (by omega)
        have h1 := hcell k hlt
        clear hcell hc hn
        go_wp2
        all_goals first
          | (go_round
             case rel => exact ⟨k + 1, _, by omega, by go_num, rfl⟩
             case measure => simp [intOf]; omega)
          | (go_ret; first | exact ⟨_, rfl, rfl⟩ | (simp; done))
      · go_wp2
        go_ret
        first | exact ⟨_, rfl, rfl⟩ | (simp; done)
end Go.Proofs.Qxb6603225a
