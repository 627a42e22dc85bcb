import Derived.Test.Qxb6603225aCount
namespace Go.Proofs.Qxb6603225a
open Go.RowKit

theorem Strs.drewN {B : Nat} {w : World} {v : Value} {xs : List ByteArray} (h : Strs B w v xs) (n : Nat) : Strs B (w.drewN n) v xs :=
  h.below ⟨rfl, rfl, rfl, Nat.le_refl _, fun _ _ => rfl⟩

set_option maxHeartbeats 1000000 in
set_option maxRecDepth 100000 in
theorem union_any (Bl : Nat) (va vb vj : Value) (A B J : List ByteArray) (w : World) (ha : Strs Bl w va A) (hb : Strs Bl w vb B) (hj : Strs Bl w vj J)
    (hma : A.length ≤ 1048576) (hmb : B.length ≤ 1048576) (hmj : J.length ≤ 2097152) (hsa : Sorted A) (hsb : Sorted B) (hsj : Sorted J) (hcnt : ∀ v, cnt J v = max (cnt A v) (cnt B v)) :
    Calls Try.prog 14 #[va, vb, vj] w fun e w' => e = .returned (.bool true) ∧ ∃ q, w' = w.drewN q := by
  have CA : ∀ n x, Hid (Calls Try.prog 31 #[va, .string x] (w.drewN n) fun e w' => e = .returned (.int .i64 (cnt A x : Nat)) ∧ w' = w.drewN n) := fun n x => count_any Bl va A x _ (ha.drewN n) (by omega) hsa
  have CB : ∀ n x, Hid (Calls Try.prog 31 #[vb, .string x] (w.drewN n) fun e w' => e = .returned (.int .i64 (cnt B x : Nat)) ∧ w' = w.drewN n) := fun n x => count_any Bl vb B x _ (hb.drewN n) (by omega) hsb
  have CJ : ∀ n x, Hid (Calls Try.prog 31 #[vj, .string x] (w.drewN n) fun e w' => e = .returned (.int .i64 (max (cnt A x) (cnt B x) : Nat)) ∧ w' = w.drewN n) := fun n x => by
    have := count_any Bl vj J x _ (hj.drewN n) (by omega) hsj
    rw [hcnt] at this
    exact this
  have HC := hide hcnt
  have HS := hide hsj
  clear hcnt hsa hsb hsj
  obtain ⟨aoa, ca, rfl, _, hca⟩ := ha
  obtain ⟨aob, cb, rfl, _, hcb⟩ := hb
  obtain ⟨aoj, cj, rfl, _, hcj⟩ := hj
  obtain ⟨na, hna⟩ : ∃ n, n = A.length := ⟨_, rfl⟩
  obtain ⟨nb, hnb⟩ : ∃ n, n = B.length := ⟨_, rfl⟩
  obtain ⟨nj, hnj⟩ : ∃ n, n = J.length := ⟨_, rfl⟩
  rw [← hna] at CA hca hma ⊢
  rw [← hnb] at CB hcb hmb ⊢
  rw [← hnj] at CJ hcj hmj ⊢
  have HJ := hide hnj
  clear hna hnb hnj
  have KA := hide hca
  have KB := hide hcb
  have KJ := hide hcj
  clear hca hcb hcj
  go_enter Try.func14, Try.ntmps14
  go_wp2
  -- the first loop: j ascends
  go_loopw [7] (fun i wr => ∃ (k q : Nat), k ≤ nj + 1 ∧ 1 ≤ k ∧ i = .int .i64 k ∧ wr = w.drewN q) (fun i _ => nj + 1 - (intOf i).toNat)
  case atStart => exact ⟨1, 0, by omega, by omega, rfl, rfl⟩
  case round =>
    obtain ⟨k, q, hk, hk1, rfl, rfl⟩ := hrel
    by_cases hlt : k < nj
    · obtain ⟨m, rfl⟩ : ∃ m, k = m + 1 := ⟨k - 1, by omega⟩
      obtain ⟨b, off, rfl, hbB, hcell⟩ := KJ.out (by omega)
      have h1 := hcell (m + 1) (by omega)
      have h2 := hcell m (by omega)
      have hle := sorted_get HS.out (i := m) (j := m + 1) (by omega) (by have := HJ.out; omega)
      generalize J.getD (m + 1) ByteArray.empty = s at h1 hle
      generalize J.getD m ByteArray.empty = t at h2 hle
      replace hle : Op.bytesLess s.toList t.toList = false := hle
      clear hcell KA KB KJ CA CB CJ HC
      go_wp2
      go_quiet (fail)
      go_wp2
      go_roundw
      case rel => exact ⟨m + 1 + 1, _, by omega, by omega, by go_num, rfl⟩
      case measure => simp [intOf]; omega
    · clear hk1 hk
      go_wp2
      -- the second loop: the strings of j
      go_loopw [8] (fun i wr => ∃ (k q : Nat), k ≤ nj + nj ∧ i = .int .i64 k ∧ wr = w.drewN q) (fun i _ => nj - (intOf i).toNat)
      case atStart => exact ⟨0, q, by omega, rfl, rfl⟩
      case round =>
        clear hlt
        obtain ⟨k, q, hk, rfl, rfl⟩ := hrel
        by_cases hlt : k < nj
        · obtain ⟨b, off, rfl, hbB, hcell⟩ := KJ.out (by omega)
          have h1 := hcell k (by omega)
          have hp := cnt_pos (l := J) (j := k) (by have := HJ.out; omega)
          have hq := cnt_le J (J.getD k ByteArray.empty)
          rw [HC.out] at hp hq
          rw [← HJ.out] at hq
          generalize J.getD k ByteArray.empty = s at h1 hp hq
          have ca1 := CA q s
          have cb1 := CB q s
          have cj1 := CJ q s
          clear CA CB CJ hcell
          generalize cnt A s = x at *
          generalize cnt B s = y at *
          have mx := hide (max_any x y (w.drewN q))
          generalize max x y = m at *
          go_wp2_with fail
          refine (unhide cj1).mono ?_
          rintro e w' ⟨rfl, rfl⟩
          go_wp2_with fail
          refine (unhide ca1).mono ?_
          rintro e w' ⟨rfl, rfl⟩
          go_wp2_with fail
          refine (unhide cb1).mono ?_
          rintro e w' ⟨rfl, rfl⟩
          go_wp2_with fail
          refine (unhide mx).mono ?_
          rintro e w' ⟨rfl, rfl⟩
          go_wp2_with fail
          go_roundw
          case rel => exact ⟨k + m, _, by omega, by go_num, rfl⟩
          case measure => simp [intOf]; omega
        · go_wp2
          -- the third loop: the strings of a
          go_loopw [11] (fun i wr => ∃ (k q : Nat), k ≤ na ∧ i = .int .i64 k ∧ wr = w.drewN q) (fun i _ => na - (intOf i).toNat)
          case atStart => exact ⟨0, q, by omega, rfl, rfl⟩
          case round =>
            clear hlt
            obtain ⟨k, q, hk, rfl, rfl⟩ := hrel
            by_cases hlt : k < na
            · obtain ⟨b, off, rfl, hbB, hcell⟩ := KA.out (by omega)
              have h1 := hcell k (by omega)
              generalize A.getD k ByteArray.empty = s at h1
              have h1' : (w.drewN q).cell? ⟨b, off + k, none⟩ = some (.string s) := h1
              have ca1 : ∀ n, Hid (Calls Try.prog 31 #[.slice (some ⟨b, off, none⟩) na ca, .string s] ((w.drewN q).drewN n) fun e w' => e = .returned (.int .i64 (cnt A s : Nat)) ∧ w' = (w.drewN q).drewN n) := fun n => by rw [World.drewN_drewN]; exact CA (q + n) s
              have cb1 : ∀ n, Hid (Calls Try.prog 31 #[.slice aob nb cb, .string s] ((w.drewN q).drewN n) fun e w' => e = .returned (.int .i64 (cnt B s : Nat)) ∧ w' = (w.drewN q).drewN n) := fun n => by rw [World.drewN_drewN]; exact CB (q + n) s
              have cj1 : ∀ n, Hid (Calls Try.prog 31 #[.slice aoj nj cj, .string s] ((w.drewN q).drewN n) fun e w' => e = .returned (.int .i64 (max (cnt A s) (cnt B s) : Nat)) ∧ w' = (w.drewN q).drewN n) := fun n => by rw [World.drewN_drewN]; exact CJ (q + n) s
              clear CA CB CJ hcell h1
              generalize cnt A s = x at *
              generalize cnt B s = y at *
              have mx : ∀ W : World, Hid (Calls Try.prog 32 #[.int .i64 x, .int .i64 y] W fun e w' => e = .returned (.int .i64 (max x y : Nat)) ∧ w' = W) := fun W => max_any x y W
              generalize max x y = m at *
              generalize hW : w.drewN q = W at *
              have HW := hide hW
              clear hW
              go_wp2
              go_quiet ((first | (go_at_call_of 31 (Value.slice aoj nj cj); exact Calls.quiet_of_same (unhide (cj1 _))) | (go_at_call_of 31 (Value.slice (some { block := b, off := off }) na ca); exact Calls.quiet_of_same (unhide (ca1 _))) | (go_at_call_of 31 (Value.slice aob nb cb); exact Calls.quiet_of_same (unhide (cb1 _))) | (go_at_call 32; exact Calls.quiet_of_same (unhide (mx _)))))
              go_wp2
              go_roundw
              case rel => exact ⟨k + 1, q + nq, by omega, by go_num, by rw [← HW.out, World.drewN_drewN]⟩
              case measure => simp [intOf]; omega
            · go_wp2
              -- the fourth loop: the strings of b
              go_loopw [12] (fun i wr => ∃ (k q : Nat), k ≤ nb ∧ i = .int .i64 k ∧ wr = w.drewN q) (fun i _ => nb - (intOf i).toNat)
              case atStart => exact ⟨0, q, by omega, rfl, rfl⟩
              case round =>
                clear hlt
                obtain ⟨k, q, hk, rfl, rfl⟩ := hrel
                by_cases hlt : k < nb
                · obtain ⟨b, off, rfl, hbB, hcell⟩ := KB.out (by omega)
                  have h1 := hcell k (by omega)
                  generalize B.getD k ByteArray.empty = s at h1
                  have h1' : (w.drewN q).cell? ⟨b, off + k, none⟩ = some (.string s) := h1
                  have ca1 : ∀ n, Hid (Calls Try.prog 31 #[.slice aoa na ca, .string s] ((w.drewN q).drewN n) fun e w' => e = .returned (.int .i64 (cnt A s : Nat)) ∧ w' = (w.drewN q).drewN n) := fun n => by rw [World.drewN_drewN]; exact CA (q + n) s
                  have cb1 : ∀ n, Hid (Calls Try.prog 31 #[.slice (some ⟨b, off, none⟩) nb cb, .string s] ((w.drewN q).drewN n) fun e w' => e = .returned (.int .i64 (cnt B s : Nat)) ∧ w' = (w.drewN q).drewN n) := fun n => by rw [World.drewN_drewN]; exact CB (q + n) s
                  have cj1 : ∀ n, Hid (Calls Try.prog 31 #[.slice aoj nj cj, .string s] ((w.drewN q).drewN n) fun e w' => e = .returned (.int .i64 (max (cnt A s) (cnt B s) : Nat)) ∧ w' = (w.drewN q).drewN n) := fun n => by rw [World.drewN_drewN]; exact CJ (q + n) s
                  clear CA CB CJ hcell h1
                  generalize cnt A s = x at *
                  generalize cnt B s = y at *
                  have mx : ∀ W : World, Hid (Calls Try.prog 32 #[.int .i64 x, .int .i64 y] W fun e w' => e = .returned (.int .i64 (max x y : Nat)) ∧ w' = W) := fun W => max_any x y W
                  generalize max x y = m at *
                  generalize hW : w.drewN q = W at *
                  have HW := hide hW
                  clear hW
                  go_wp2
                  go_quiet ((first | (go_at_call_of 31 (Value.slice aoj nj cj); exact Calls.quiet_of_same (unhide (cj1 _))) | (go_at_call_of 31 (Value.slice aoa na ca); exact Calls.quiet_of_same (unhide (ca1 _))) | (go_at_call_of 31 (Value.slice (some { block := b, off := off }) nb cb); exact Calls.quiet_of_same (unhide (cb1 _))) | (go_at_call 32; exact Calls.quiet_of_same (unhide (mx _)))))
                  go_wp2
                  go_roundw
                  case rel => exact ⟨k + 1, q + nq, by omega, by go_num, by rw [← HW.out, World.drewN_drewN]⟩
                  case measure => simp [intOf]; omega
                · go_wp2
                  go_ret
                  exact ⟨rfl, q, rfl⟩

end Go.Proofs.Qxb6603225a
