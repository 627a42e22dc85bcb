import Derived.Test.Qxb6603281aBytes
namespace Go.Proofs.Qxb6603281a
open Go.RowKit

theorem own_pos {w : World} {base k : Nat} {v : Value} {xs : List Value} (h : w.ownsRow base 5 1 v k xs) (hk : 0 < k) : ∃ g cap, v = .slice (some ⟨g, 0, none⟩) k cap ∧ base ≤ g := by
  rcases h.2 with ⟨_, h0⟩ | ⟨g, cap, cur, rfl, hb, _⟩
  · omega
  · exact ⟨g, cap, rfl, hb⟩

/-- The first header byte of the copy. -/
def flag0 (h0 q : Int) : Int := bits .or .u8 (bits .andNot .u8 h0 6) (q * 2)
def flag (h0 q : Int) (d : Bool) : Int := if d then bits .or .u8 (flag0 h0 q) 8 else flag0 h0 q

/-- What AppendPublishHeaderCopy hands back: the row's bytes. -/
def outv (bs hs : List Int) (q p : Int) (d : Bool) : List Int :=
  (((bs ++ hs).set bs.length (flag (hs.getD 0 0) q d)).set (bs.length + hs.length - 2) (p / 256)).set (bs.length + hs.length - 1) (p % 256)

def Copied (base : Nat) (w : World) (zs : List Int) (e : Ending) (w' : World) : Prop :=
  ∃ v, e = .returned v ∧ w'.ownsRow base 5 1 v zs.length (zs.map (.int .u8)) ∧ Below base w w'

set_option maxHeartbeats 1000000 in
theorem copy_any (base B : Nat) (v hv : Value) (bs hs : List Int) (q p : Int) (d : Bool) (w : World) (hown : w.ownsRow base 5 1 v bs.length (bs.map (.int .u8))) (hbase : base ≤ w.heap.size)
    (hh : Bytes B w hv hs) (h3 : 3 ≤ hs.length) (hn : bs.length ≤ 65536) (hm : hs.length ≤ 65536) (hq0 : 0 ≤ q) (hq1 : q ≤ 3) (hp0 : 0 ≤ p) (hp1 : p < 65536) :
    Calls Try.prog 18 #[v, hv, .int .u8 q, .int .u16 p, .bool d] w (Copied base w (outv bs hs q p d)) := by
  obtain ⟨ho, hcap, rfl, _, hcc⟩ := hh
  obtain ⟨b, off, rfl, hbB, hcell⟩ := hcc (by omega)
  have HNEW : Hid (∀ j u, (hs.map (Value.int .u8))[j]? = some u → w.cell? ((⟨b, off, none⟩ : Addr).add j) = some u) := hide fun j u hu => by
    have hj : j < hs.length := by
      rcases Nat.lt_or_ge j hs.length with h | h
      · exact h
      · rw [List.getElem?_eq_none (by simp; omega)] at hu; cases hu
    rw [show (⟨b, off, none⟩ : Addr).add j = ⟨b, off + j, none⟩ by unfold Addr.add; split <;> simp_all]
    rw [hcell j hj]
    rw [List.getElem?_map, List.getElem?_eq_getElem hj] at hu
    simpa [List.getElem?_eq_getElem hj] using hu
  have HONE : Hid (∀ u ∈ hs.map (Value.int .u8), u.oneCell' = true) := hide fun u hu => by
    obtain ⟨j, _, rfl⟩ := List.mem_map.1 hu
    rfl
  clear hcc hcell
  obtain ⟨n, en⟩ : ∃ n, n = bs.length := ⟨_, rfl⟩
  obtain ⟨m, em⟩ : ∃ m, m = hs.length := ⟨_, rfl⟩
  have HEN := hide en
  have HEM := hide em
  rw [← en] at hown hn
  rw [← em] at h3 hm ⊢
  clear en em
  obtain ⟨i0, hi, hz0, hz1, hz2⟩ := info_parts Try.info5
  have HOWN := hide hown
  clear hown
  have hlen : ∃ c k, v = .slice c n k := by
    rcases HOWN.out.2 with ⟨rfl, h0⟩ | ⟨g, cap, cur, rfl, _⟩
    · exact ⟨_, _, by rw [h0]⟩
    · exact ⟨_, _, rfl⟩
  obtain ⟨vc, vk, rfl⟩ := hlen
  have HBLK : Hid (∀ k, (Value.slice vc n vk).ownBlock = some k → base ≤ k) := hide fun k hk => by
    rcases HOWN.out.2 with ⟨h1, _⟩ | ⟨g, cap, cur, h1, hb, _⟩
    · rw [h1] at hk; cases hk
    · rw [h1] at hk; simp [Value.ownBlock] at hk; omega
  obtain ⟨a, ha⟩ : ∃ a, a = n + m - 2 := ⟨_, rfl⟩
  have hA : (n : Int) + (m : Int) - 2 = (a : Int) := by omega
  have hB : (n : Int) + (m : Int) - 1 = ((a + 1 : Nat) : Int) := by omega
  have hna : n < a := by omega
  have ham : a + 2 = n + m := by omega
  have HA := hide ha
  clear ha
  obtain ⟨h0, eh0⟩ : ∃ h0, h0 = hs.getD 0 0 := ⟨_, rfl⟩
  have HH0 := hide eh0
  clear eh0
  have HCELLS : Hid (∀ W : World, ∀ g k, W.ownsRow base 5 1 (.slice (some ⟨g, 0, none⟩) (n + m) k) (n + m) (bs.map (Value.int .u8) ++ hs.map (Value.int .u8)) → W.cell? ⟨g, n, none⟩ = some (.int .u8 h0) ∧ (∃ u, W.cell? ⟨g, a, none⟩ = some u) ∧ (∃ u, W.cell? ⟨g, a + 1, none⟩ = some u)) := hide fun W g k ho => by
    have el := HEN.out
    have fl := HEM.out
    refine ⟨?_, ?_, ?_⟩
    · rw [ho.cellAt n (by omega), List.getElem?_append_right (by simp; omega), List.length_map, ← el, Nat.sub_self, List.getElem?_map, HH0.out, List.getElem?_eq_getElem (show 0 < hs.length by omega)]
      simp [List.getElem?_eq_getElem (show 0 < hs.length by omega)]
    · rw [ho.cellAt a (by omega)]
      exact ⟨_, List.getElem?_eq_getElem (by simp; omega)⟩
    · rw [ho.cellAt (a + 1) (by omega)]
      exact ⟨_, List.getElem?_eq_getElem (by simp; omega)⟩
  cases d
  · go_enter Try.func18, Try.ntmps18
    go_wp2_with (at_builtin; refine wpList_append_own w rfl (.tmp 14) (.tmp 15) 25 rfl base 5 i0 (.int .u8 0) 1 1 Try.underlying25 hi hz0 hz1 hz2 rfl (by omega) _ n _ rfl HOWN.out ⟨b, off, none⟩ m hcap (hs.map (.int .u8)) rfl (by rw [List.length_map, ← HEM.out]; omega) HNEW.out HONE.out (by unfold maxLen; omega) (by omega) hbase ?_; intro v' w1 ho1 hg1 hnil; clear hnil; obtain ⟨g, cap', rfl, hbg⟩ := own_pos ho1 (by omega); obtain ⟨c0, ⟨uA, cA⟩, ⟨uB, cB⟩⟩ := HCELLS.out w1 g cap' ho1; have f0 := ho1.frozenAt n; have fA := ho1.frozenAt a; have fB := ho1.frozenAt (a + 1); have HO1 := hide ho1; have hb1 : Below base w w1 := (Below.refl _ _).grown hg1 hbase HBLK.out; clear ho1 hg1)
    go_ret
    refine ⟨_, rfl, ?_, (((hb1.setCell hbg _).setCell hbg _).setCell hbg _)⟩
    have H := (((HO1.out.stored n (.int .u8 (flag0 h0 q))).1.stored a (.int .u8 (p / 256))).1.stored (a + 1) (.int .u8 (p % 256))).1
    have hl : (outv bs hs q p false).length = n + m := by unfold outv; simp [← HEN.out, ← HEM.out]
    rw [hl]
    refine (congrArg (fun l => World.ownsRow _ base 5 1 _ (n + m) l) ?_).mp H
    unfold outv flag
    rw [← HEN.out, ← HEM.out, ← HA.out, ← HH0.out, show n + m - 1 = a + 1 by omega]
    simp [List.map_set]
  · go_enter Try.func18, Try.ntmps18
    go_wp2_with (at_builtin; refine wpList_append_own w rfl (.tmp 14) (.tmp 15) 25 rfl base 5 i0 (.int .u8 0) 1 1 Try.underlying25 hi hz0 hz1 hz2 rfl (by omega) _ n _ rfl HOWN.out ⟨b, off, none⟩ m hcap (hs.map (.int .u8)) rfl (by rw [List.length_map, ← HEM.out]; omega) HNEW.out HONE.out (by unfold maxLen; omega) (by omega) hbase ?_; intro v' w1 ho1 hg1 hnil; clear hnil; obtain ⟨g, cap', rfl, hbg⟩ := own_pos ho1 (by omega); obtain ⟨c0, ⟨uA, cA⟩, ⟨uB, cB⟩⟩ := HCELLS.out w1 g cap' ho1; have f0 := ho1.frozenAt n; have fA := ho1.frozenAt a; have fB := ho1.frozenAt (a + 1); have HO1 := hide ho1; have hb1 : Below base w w1 := (Below.refl _ _).grown hg1 hbase HBLK.out; clear ho1 hg1)
    go_ret
    refine ⟨_, rfl, ?_, ((((hb1.setCell hbg _).setCell hbg _).setCell hbg _).setCell hbg _)⟩
    have H := ((((HO1.out.stored n (.int .u8 (flag0 h0 q))).1.stored n (.int .u8 (bits .or .u8 (flag0 h0 q) 8))).1.stored a (.int .u8 (p / 256))).1.stored (a + 1) (.int .u8 (p % 256))).1
    have hl : (outv bs hs q p true).length = n + m := by unfold outv; simp [← HEN.out, ← HEM.out]
    rw [hl]
    refine (congrArg (fun l => World.ownsRow _ base 5 1 _ (n + m) l) ?_).mp H
    unfold outv flag
    rw [← HEN.out, ← HEM.out, ← HA.out, ← HH0.out, show n + m - 1 = a + 1 by omega]
    simp [List.map_set, List.set_set]
end Go.Proofs.Qxb6603281a
