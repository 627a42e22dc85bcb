import Derived.Test.Qxb6603281aEarly
namespace Go.Proofs.Qxb6603281a
open Go.RowKit

set_option maxHeartbeats 400000 in
theorem fn7_main (v hv : Value) (bs hs : List Int) (z p : Int) (d : Bool) (w : World) (hbv : Bytes w.heap.size w v bs) (hhv : Bytes w.heap.size w hv hs) (hby : ByteList hs) (hz0 : 0 ≤ z) (hp0 : 0 ≤ p) (hp1 : p < 65536)
    (h1 : bs.length ≤ 65536) (h2 : hs.length ≤ 65536) (h3 : 3 ≤ hs.length) (h4 : z ≤ 3) : Calls Try.prog 7 #[v, hv, .int .u8 z, .int .u16 p, .bool d] w (Holds w) := by
  have CC1 := hide (clone_any w.heap.size v bs w (Nat.le_refl _) hbv (by omega))
  have HHV := hide hhv
  obtain ⟨ao, cap, rfl, _, _⟩ := hbv
  obtain ⟨bo, cap', rfl, _, _⟩ := hhv
  have C := hide (bytes16_any ao bo bs.length cap hs.length cap' z p d w)
  rw [decide_eq_true (show bs.length + hs.length ≤ 1048576 by omega)] at C
  obtain ⟨n, en⟩ : ∃ n, n = bs.length := ⟨_, rfl⟩
  obtain ⟨m, em⟩ : ∃ m, m = hs.length := ⟨_, rfl⟩
  have HN := hide en
  have HM := hide em
  have HBY := hide hby
  rw [← en] at h1 C CC1 ⊢
  rw [← em] at h2 h3 C HHV ⊢
  clear en em hby
  go_enter Try.func7, Try.ntmps7
  go_wp2_with fail
  refine C.out.mono ?_
  rintro e w' ⟨rfl, rfl⟩
  go_wp2_with fail
  refine CC1.out.mono ?_
  rintro e w1 ⟨ao1, cap1, rfl, hbel1, ho1⟩
  have CC2 := hide (clone_any w'.heap.size _ hs w1 hbel1.size (HHV.out.below hbel1) (by have := HM.out; omega))
  have HO1 := hide ho1
  have HBEL1 := hide hbel1
  rw [← HN.out]
  clear C CC1 HHV ho1 hbel1
  go_wp2_with fail
  refine CC2.out.mono ?_
  rintro e w2 ⟨ao2, cap2, rfl, hbel2, ho2⟩
  have HB1 := hide (((Bytes.of_own HO1.out).below hbel2).mono hbel2.size)
  have HB2 := hide (Bytes.of_own ho2)
  have HBEL2 := hide hbel2
  have CC3 := hide (clone_any w2.heap.size _ bs w2 (Nat.le_refl _) HB1.out (by have := HN.out; omega))
  rw [← HN.out] at CC3
  rw [← HM.out]
  obtain ⟨ao3, cap3, he3, _, hc3⟩ := HB2.out
  obtain ⟨b2, off2, rfl, hbB2, hcell2⟩ := hc3 (by have := HM.out; omega)
  simp only [Value.slice.injEq, true_and] at he3
  obtain ⟨rfl, rfl⟩ := he3
  have hc0 := hcell2 0 (by have := HM.out; omega)
  rw [Nat.add_zero] at hc0
  obtain ⟨h0, eh0⟩ : ∃ h0, h0 = hs.getD 0 0 := ⟨_, rfl⟩
  rw [← eh0] at hc0
  have HH0 := hide eh0
  have HC2 := hide hcell2
  clear CC2 hbel2 ho2 hc3 hcell2 eh0 HO1
  go_wp2_with fail
  refine CC3.out.mono ?_
  rintro e w3 ⟨ao3, cap3, rfl, hbel3, ho3⟩
  have CC4 := hide (copy_any w2.heap.size w2.heap.size _ _ bs hs z p d w3 ho3 hbel3.size (HB2.out.below hbel3) (by have := HM.out; omega) (by have := HN.out; omega) (by have := HM.out; omega) hz0 h4 hp0 hp1)
  rw [← HM.out, ← HN.out] at CC4
  rw [← HN.out]
  have HBEL3 := hide hbel3
  clear CC3 hbel3 ho3
  go_wp2_with fail
  refine CC4.out.mono ?_
  rintro e w4 ⟨v4, rfl, ho4, hbel4⟩
  have HB24 : Hid (Below w2.heap.size w2 w4) := hide (HBEL3.out.trans hbel4)
  have HBW : Hid (∀ q, Holds w' (.returned (.bool true)) (w4.drewN q)) := hide fun q => Holds.mk (below_drew ((HBEL1.out.trans (HBEL2.out.mono HBEL1.out.size)).trans (HB24.out.mono (Nat.le_trans HBEL1.out.size HBEL2.out.size))) q)
  have HOS := hide (out_says bs hs z p d (by have := HM.out; omega))
  have HBO := hide (Bytes.of_own ho4)
  have HBs := hide (HB1.out.below HB24.out)
  have HHs : Hid (∀ j, j < m → w4.cell? ⟨b2, off2 + j, none⟩ = some (.int .u8 (hs.getD j 0))) := hide fun j hj => (HB24.out.cell (p := ⟨b2, off2 + j, none⟩) hbB2).trans (HC2.out j (by have := HM.out; omega))
  clear CC4 ho4 hbel4 HBEL1 HBEL2 HBEL3 HB24 HB1 HB2 HC2 hc0
  obtain ⟨O, eO⟩ : ∃ O, O = outv bs hs z p d := ⟨_, rfl⟩
  rw [← eO] at HBO HOS
  clear eO
  obtain ⟨ao4, cap4, rfl, _, hc4⟩ := HBO.out
  have hOl : O.length = n + m := by rw [HOS.out.len, HN.out, HM.out]
  obtain ⟨g, og, rfl, _, hcO⟩ := hc4 (by omega)
  rw [hOl] at hcO ⊢
  have HCO := hide hcO
  clear hc4 HBO hOl hcO
  -- the facts of the copy, each by its place
  have HLO : Hid (∀ j, j < n → w4.cell? ⟨g, og + j, none⟩ = some (.int .u8 (bs.getD j 0))) := hide fun j hj => by rw [HCO.out j (by omega), HOS.out.lo j (by have := HN.out; omega)]
  have HFL : Hid (w4.cell? ⟨g, og + n, none⟩ = some (.int .u8 (flag h0 z d))) := hide (by rw [HCO.out n (by omega), HH0.out, ← HOS.out.fl, HN.out])
  have HMID : Hid (∀ j, 1 ≤ j → j + 2 < m → w4.cell? ⟨g, og + (n + j), none⟩ = some (.int .u8 (hs.getD j 0))) := hide fun j h1 h2 => by
    rw [HCO.out (n + j) (by omega), ← HOS.out.mid j h1 (by have := HM.out; omega), HN.out]
  obtain ⟨a, ha⟩ : ∃ a, a = n + m - 2 := ⟨_, rfl⟩
  have HHI : Hid (w4.cell? ⟨g, og + a, none⟩ = some (.int .u8 (p / 256))) := hide (by rw [HCO.out a (by omega), ← HOS.out.hi, ← HN.out, ← HM.out, ha])
  have HLW : Hid (w4.cell? ⟨g, og + (a + 1), none⟩ = some (.int .u8 (p % 256))) := hide (by rw [HCO.out (a + 1) (by omega), ← HOS.out.lw, ← HN.out, ← HM.out, ha, show n + m - 2 + 1 = n + m - 1 by omega])
  have hA : (n : Int) + (m : Int) - 2 = (a : Int) := by omega
  have hB : (n : Int) + (m : Int) - 1 = ((a + 1 : Nat) : Int) := by omega
  have ham : a + 2 = n + m := by omega
  have HFS := hide (flag_says d (show 0 ≤ h0 by rw [HH0.out]; exact (HBY.out 0).1) (by rw [HH0.out]; exact (HBY.out 0).2) hz0 h4)
  have hh0 : 0 ≤ h0 := by rw [HH0.out]; exact (HBY.out 0).1
  have hh1 : h0 < 256 := by rw [HH0.out]; have := (HBY.out 0).2; omega
  obtain ⟨F, eF⟩ : ∃ F, F = flag h0 z d := ⟨_, rfl⟩
  rw [← eF] at HFL HFS
  obtain ⟨hF0, hF1, k0, k1, k2, k3, k4, k5, k6, k7⟩ := HFS.out
  have HBITS := hide (And.intro k0 (And.intro k1 (And.intro k2 (And.intro k3 (And.intro k4 (And.intro k5 (And.intro k6 k7)))))))
  clear k0 k1 k2 k3 k4 k5 k6 k7 HFS eF HOS HCO HBY HH0 ha
  go_wp2_with fail
  go_loopw [15] (fun i wr => ∃ (k q : Nat), k ≤ n ∧ i = .int .i64 k ∧ wr = w4.drewN q) (fun i _ => n - (intOf i).toNat)
  case atStart => exact ⟨0, 0, Nat.zero_le _, rfl, rfl⟩
  case round =>
    obtain ⟨k, q1, hk, rfl, rfl⟩ := hrel
    by_cases hlt : k < n
    · obtain ⟨ao5, cap5, he5, _, hc5⟩ := HBs.out
      obtain ⟨b1, off1, rfl, _, hcell1⟩ := hc5 (by have := HN.out; omega)
      simp only [Value.slice.injEq, true_and] at he5
      obtain ⟨rfl, rfl⟩ := he5
      have e1 := HLO.out k hlt
      have e2 := hcell1 k (by have := HN.out; omega)
      generalize bs.getD k 0 = c at e1 e2
      clear hc5 hcell1
      go_wp2
      go_quiet (fail)
      go_wp2
      go_roundw
      case rel => exact ⟨k + 1, _, by omega, by go_num, rfl⟩
      case measure => simp [intOf]; omega
    · have hkn : n = k := by omega
      subst hkn
      have e3 := HFL.out
      clear HBs HLO HFL
      go_wp2_with fail
      clear e3
      go_loopw [17] (fun i wr => ∃ (k : Nat), k ≤ 8 ∧ i = .int .u64 k ∧ wr = w4.drewN q1) (fun i _ => 8 - (intOf i).toNat)
      case atStart => exact ⟨0, Nat.zero_le _, rfl, rfl⟩
      case round =>
        obtain ⟨k, hk, rfl, rfl⟩ := hrel
        obtain ⟨k0, k1, k2, k3, k4, k5, k6, k7⟩ := HBITS.out
        rcases (show k = 0 ∨ k = 1 ∨ k = 2 ∨ k = 3 ∨ k = 4 ∨ k = 5 ∨ k = 6 ∨ k = 7 ∨ k = 8 by omega) with rfl | rfl | rfl | rfl | rfl | rfl | rfl | rfl | rfl
        · clear k1 k2 k3 k4 k5 k6 k7
          go_wp2_with fail
          go_roundw
          case rel => exact ⟨1, by omega, by go_num, trivial⟩
          case measure => simp [intOf]
        · clear k0 k2 k3 k4 k5 k6 k7
          go_wp2_with fail
          go_roundw
          case rel => exact ⟨2, by omega, by go_num, trivial⟩
          case measure => simp [intOf]
        · clear k0 k1 k3 k4 k5 k6 k7
          go_wp2_with fail
          go_roundw
          case rel => exact ⟨3, by omega, by go_num, trivial⟩
          case measure => simp [intOf]
        · clear k0 k1 k2 k4 k5 k6 k7
          cases d
          · rw [if_neg (by simp)] at k3
            go_wp2_with fail
            go_roundw
            case rel => exact ⟨4, by omega, by go_num, trivial⟩
            case measure => simp [intOf]
          · rw [if_pos rfl] at k3
            go_wp2_with fail
            go_roundw
            case rel => exact ⟨4, by omega, by go_num, trivial⟩
            case measure => simp [intOf]
        · clear k0 k1 k2 k3 k5 k6 k7
          go_wp2_with fail
          go_roundw
          case rel => exact ⟨5, by omega, by go_num, trivial⟩
          case measure => simp [intOf]
        · clear k0 k1 k2 k3 k4 k6 k7
          go_wp2_with fail
          go_roundw
          case rel => exact ⟨6, by omega, by go_num, trivial⟩
          case measure => simp [intOf]
        · clear k0 k1 k2 k3 k4 k5 k7
          go_wp2_with fail
          go_roundw
          case rel => exact ⟨7, by omega, by go_num, trivial⟩
          case measure => simp [intOf]
        · clear k0 k1 k2 k3 k4 k5 k6
          go_wp2_with fail
          go_roundw
          case rel => exact ⟨8, by omega, by go_num, trivial⟩
          case measure => simp [intOf]
        · clear k0 k1 k2 k3 k4 k5 k6 k7 HBITS
          rw [show ((8 : Nat) : Int) = 8 from rfl]
          go_wp2_with fail
          go_loopw [20] (fun i wr => ∃ (k q : Nat), 1 ≤ k ∧ k + 2 ≤ m ∧ i = .int .i64 k ∧ wr = w4.drewN q) (fun i _ => m - (intOf i).toNat)
          case atStart => exact ⟨1, q1, by omega, by omega, rfl, rfl⟩
          case round =>
            obtain ⟨k, q2, hk1, hk2, rfl, rfl⟩ := hrel
            by_cases hlt : k + 2 < m
            · have e1 := HMID.out k hk1 hlt
              have e2 := HHs.out k (by omega)
              generalize hs.getD k 0 = c at e1 e2
              go_wp2
              go_quiet (fail)
              go_wp2
              go_roundw
              case rel => exact ⟨k + 1, _, by omega, by omega, by go_num, rfl⟩
              case measure => simp [intOf]; omega
            · have e1 := HHI.out
              have e2 := HLW.out
              have hor := or16 (x := p / 256) (y := p % 256) (by omega) (by omega) (by omega) (by omega)
              rw [show p / 256 * 256 + p % 256 = p by omega] at hor
              go_wp2
              go_quiet (fail)
              go_wp2
              go_ret
              exact HBW.out _

theorem fn7 (v hv : Value) (bs hs : List Int) (z p : Int) (d : Bool) (w : World) (hbv : Bytes w.heap.size w v bs) (hhv : Bytes w.heap.size w hv hs) (hby : ByteList hs) (hz0 : 0 ≤ z) (hp0 : 0 ≤ p) (hp1 : p < 65536) :
    Calls Try.prog 7 #[v, hv, .int .u8 z, .int .u16 p, .bool d] w (Holds w) := by
  by_cases h : bs.length ≤ 65536 ∧ hs.length ≤ 65536 ∧ 3 ≤ hs.length ∧ z ≤ 3
  · exact fn7_main v hv bs hs z p d w hbv hhv hby hz0 hp0 hp1 h.1 h.2.1 h.2.2.1 h.2.2.2
  · exact fn7_early v hv bs hs z p d w hbv hhv h
end Go.Proofs.Qxb6603281a
