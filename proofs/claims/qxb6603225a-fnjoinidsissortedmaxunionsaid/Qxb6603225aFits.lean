import Derived.Test.Qxb6603225aStrs
namespace Go.Proofs.Qxb6603225a
open Go.RowKit
/-! ### zzBytes_..: the bound on the lengths -/

set_option maxHeartbeats 800000 in
theorem bytes17_any (B : Nat) (v v' : Value) (xs ys : List ByteArray) (w : World) (h : Strs B w v xs) (h' : Strs B w v' ys) :
    Calls Try.prog 17 #[v, v'] w (RetBool fun r w' => w' = w ∧ (r = true → xs.length ≤ 1048576 ∧ ys.length ≤ 1048576)) := by
  obtain ⟨ao, cap, rfl, hl, hc⟩ := h
  obtain ⟨ao', cap', rfl, hl', hc'⟩ := h'
  obtain ⟨n, hn⟩ : ∃ n, n = xs.length := ⟨_, rfl⟩
  obtain ⟨m, hm⟩ : ∃ m, m = ys.length := ⟨_, rfl⟩
  rw [← hn] at hc ⊢
  rw [← hm] at hc' ⊢
  clear hl hl' hn hm
  by_cases hb1 : (n : Int) ≤ 1048576
  case neg =>
    go_enter Try.func17, Try.ntmps17
    go_wp2
    go_ret
    exact RetBool.mk (r := false) ⟨rfl, fun h => by cases h⟩
  by_cases hb2 : (m : Int) ≤ 1048576
  case neg =>
    go_enter Try.func17, Try.ntmps17
    go_wp2
    go_loop [5, 6] (fun t i => ∃ (k : Nat) (r : Int), k ≤ n ∧ i = .int .i64 k ∧ t = .int .i64 r) (fun _ i => n - (intOf i).toNat)
    case atStart => exact ⟨0, _, Nat.zero_le _, rfl, rfl⟩
    case round =>
      obtain ⟨k, r, hk, rfl, rfl⟩ := hrel
      by_cases hlt : k < n
      · obtain ⟨b, off, rfl, hb, hcell⟩ := hc (by omega)
        have h1 := hcell k hlt
        clear hcell hc hc'
        go_wp2
        all_goals first
          | (go_round
             case rel => exact ⟨k + 1, _, by omega, by go_num, rfl⟩
             case measure => simp [intOf]; omega)
          | (go_ret; exact RetBool.mk (r := false) ⟨rfl, fun h => by cases h⟩)
      · clear hc hc'
        go_wp2
        go_ret
        exact RetBool.mk (r := false) ⟨rfl, fun h => by cases h⟩
  go_enter Try.func17, Try.ntmps17
  go_wp2
  go_loop [5, 6] (fun t i => ∃ (k : Nat) (r : Int), k ≤ n ∧ i = .int .i64 k ∧ t = .int .i64 r) (fun _ i => n - (intOf i).toNat)
  case atStart => exact ⟨0, _, Nat.zero_le _, rfl, rfl⟩
  case round =>
    obtain ⟨k, r, hk, rfl, rfl⟩ := hrel
    by_cases hlt : k < n
    · obtain ⟨b, off, rfl, hb, hcell⟩ := hc (by omega)
      have h1 := hcell k hlt
      clear hcell hc hc'
      go_wp2
      all_goals first
        | (go_round
           case rel => exact ⟨k + 1, _, by omega, by go_num, rfl⟩
           case measure => simp [intOf]; omega)
        | (go_ret; exact RetBool.mk (r := false) ⟨rfl, fun h => by cases h⟩)
    · clear hc
      go_wp2
      · go_ret
        exact RetBool.mk (r := false) ⟨rfl, fun h => by cases h⟩
      · go_loop [5, 7] (fun t i => ∃ (k : Nat) (r : Int), k ≤ m ∧ i = .int .i64 k ∧ t = .int .i64 r) (fun _ i => m - (intOf i).toNat)
        case atStart => exact ⟨0, _, Nat.zero_le _, rfl, rfl⟩
        case round =>
          obtain ⟨k, r, hk, rfl, rfl⟩ := hrel
          by_cases hlt : k < m
          · obtain ⟨b, off, rfl, hb, hcell⟩ := hc' (by omega)
            have h1 := hcell k hlt
            clear hcell hc'
            go_wp2
            all_goals first
              | (go_round
                 case rel => exact ⟨k + 1, _, by omega, by go_num, rfl⟩
                 case measure => simp [intOf]; omega)
              | (go_ret; exact RetBool.mk (r := false) ⟨rfl, fun h => by cases h⟩)
          · clear hc'
            go_wp2
            go_ret
            exact RetBool.mk (r := true) ⟨rfl, fun _ => ⟨by omega, by omega⟩⟩


set_option maxHeartbeats 800000 in
theorem bytes9_any (B : Nat) (v v' : Value) (xs ys : List ByteArray) (w : World) (h : Strs B w v xs) (h' : Strs B w v' ys) :
    Calls Try.prog 9 #[v, v'] w (RetBool fun r w' => w' = w ∧ (r = true → xs.length ≤ 1048576 ∧ ys.length ≤ 1048576)) := by
  obtain ⟨ao, cap, rfl, hl, hc⟩ := h
  obtain ⟨ao', cap', rfl, hl', hc'⟩ := h'
  obtain ⟨n, hn⟩ : ∃ n, n = xs.length := ⟨_, rfl⟩
  obtain ⟨m, hm⟩ : ∃ m, m = ys.length := ⟨_, rfl⟩
  rw [← hn] at hc ⊢
  rw [← hm] at hc' ⊢
  clear hl hl' hn hm
  by_cases hb1 : (n : Int) ≤ 1048576
  case neg =>
    go_enter Try.func9, Try.ntmps9
    go_wp2
    go_ret
    exact RetBool.mk (r := false) ⟨rfl, fun h => by cases h⟩
  by_cases hb2 : (m : Int) ≤ 1048576
  case neg =>
    go_enter Try.func9, Try.ntmps9
    go_wp2
    go_loop [5, 6] (fun t i => ∃ (k : Nat) (r : Int), k ≤ n ∧ i = .int .i64 k ∧ t = .int .i64 r) (fun _ i => n - (intOf i).toNat)
    case atStart => exact ⟨0, _, Nat.zero_le _, rfl, rfl⟩
    case round =>
      obtain ⟨k, r, hk, rfl, rfl⟩ := hrel
      by_cases hlt : k < n
      · obtain ⟨b, off, rfl, hb, hcell⟩ := hc (by omega)
        have h1 := hcell k hlt
        clear hcell hc hc'
        go_wp2
        all_goals first
          | (go_round
             case rel => exact ⟨k + 1, _, by omega, by go_num, rfl⟩
             case measure => simp [intOf]; omega)
          | (go_ret; exact RetBool.mk (r := false) ⟨rfl, fun h => by cases h⟩)
      · clear hc hc'
        go_wp2
        go_ret
        exact RetBool.mk (r := false) ⟨rfl, fun h => by cases h⟩
  go_enter Try.func9, Try.ntmps9
  go_wp2
  go_loop [5, 6] (fun t i => ∃ (k : Nat) (r : Int), k ≤ n ∧ i = .int .i64 k ∧ t = .int .i64 r) (fun _ i => n - (intOf i).toNat)
  case atStart => exact ⟨0, _, Nat.zero_le _, rfl, rfl⟩
  case round =>
    obtain ⟨k, r, hk, rfl, rfl⟩ := hrel
    by_cases hlt : k < n
    · obtain ⟨b, off, rfl, hb, hcell⟩ := hc (by omega)
      have h1 := hcell k hlt
      clear hcell hc hc'
      go_wp2
      all_goals first
        | (go_round
           case rel => exact ⟨k + 1, _, by omega, by go_num, rfl⟩
           case measure => simp [intOf]; omega)
        | (go_ret; exact RetBool.mk (r := false) ⟨rfl, fun h => by cases h⟩)
    · clear hc
      go_wp2
      · go_ret
        exact RetBool.mk (r := false) ⟨rfl, fun h => by cases h⟩
      · go_loop [5, 7] (fun t i => ∃ (k : Nat) (r : Int), k ≤ m ∧ i = .int .i64 k ∧ t = .int .i64 r) (fun _ i => m - (intOf i).toNat)
        case atStart => exact ⟨0, _, Nat.zero_le _, rfl, rfl⟩
        case round =>
          obtain ⟨k, r, hk, rfl, rfl⟩ := hrel
          by_cases hlt : k < m
          · obtain ⟨b, off, rfl, hb, hcell⟩ := hc' (by omega)
            have h1 := hcell k hlt
            clear hcell hc'
            go_wp2
            all_goals first
              | (go_round
                 case rel => exact ⟨k + 1, _, by omega, by go_num, rfl⟩
                 case measure => simp [intOf]; omega)
              | (go_ret; exact RetBool.mk (r := false) ⟨rfl, fun h => by cases h⟩)
          · clear hc'
            go_wp2
            go_ret
            exact RetBool.mk (r := true) ⟨rfl, fun _ => ⟨by omega, by omega⟩⟩

end Go.Proofs.Qxb6603225a
