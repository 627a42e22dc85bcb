import Derived.Test.Qxb6603225aEff
import Derived.Laws.CopyOwn
namespace Go.Proofs.Qxb6603225a
open Go.RowKit

theorem Try.info5 : (Try.prog.info? 5).map (fun i => (i.zero, i.size, i.bytes)) = some (some (.int .u8 0), 1, 1) := by kernel_rfl

/-- zzMsg: the clock and the member; the body is some slice. -/
def MsgMade (w : World) (c : Int) (m : ByteArray) (e : Ending) (w' : World) : Prop :=
  ∃ a n k, e = .returned (.agg #[.int .u64 c, .string m, .slice a n k]) ∧ Below w.heap.size w w'

set_option maxHeartbeats 1000000 in
set_option maxRecDepth 100000 in
theorem msg_nil (c : Int) (m : ByteArray) (bl bc : Nat) (w : World) :
    Calls Try.prog 40 #[.agg #[.int .u64 c, .string m, .slice none bl bc]] w (MsgMade w c m) := by
  have hq := fun (w : World) (a : Option Addr) (n c : Nat) => run_neq_slice_nil_any (P := Try.prog) w 48 5 a n c 0 0 Try.underlying48
  go_enter Try.func40, Try.ntmps40
  go_wp2
  refine bodyPost_ret (v := .agg #[.int .u64 c, .string m, .slice none 0 0]) (by simp [results, Try.results40, go_sem]) rfl ⟨_, _, _, rfl, ?_⟩
  exact ((Below.refl _ _).alloc (Nat.le_refl _) _).alloc (by simp) _

theorem row_of {w : World} {base e g g' n : Nat} {xs : List Value} (h : w.ownsRow base e 1 (.slice (some ⟨g, 0, none⟩) n n) n xs) (hg : g = g') : ∃ cur : List Value, w.heap[g']? = some (.cells cur.toArray e (0, 0)) ∧ cur.length = n := by
  subst hg
  rcases h.2 with ⟨h', _⟩ | ⟨g', cap', cur, h', _, hh, _, _, hs, _⟩
  · cases h'
  · simp only [Value.slice.injEq, Option.some.injEq, Addr.mk.injEq, and_true, true_and] at h'
    obtain ⟨rfl, rfl⟩ := h'
    exact ⟨cur.toList, hh, by simpa using hs⟩

/-- The blocks that zzMsg lays: the parameter's, the result's. -/
abbrev twoBlocks (w : World) (c : Int) (m : ByteArray) (a : Option Addr) (bl bc : Nat) : World :=
  (w.alloc (.cells #[.int .u64 c, .string m, .slice a bl bc] 60)).alloc (.cells #[.int .u64 0, .string ⟨#[]⟩, .slice none 0 0] 50)

theorem twoBlocks_below (w : World) (c : Int) (m : ByteArray) (a : Option Addr) (bl bc : Nat) : Below w.heap.size w (twoBlocks w c m a bl bc) :=
  ((Below.refl _ _).alloc (Nat.le_refl _) _).alloc (by simp) _

theorem twoBlocks_facts {w w1 : World} {c : Int} {m : ByteArray} {a : Option Addr} {bl bc : Nat} (h : Below (w.heap.size + 2) (twoBlocks w c m a bl bc) w1) :
    (w1.cell? ⟨w.heap.size, 0, none⟩ = some (.int .u64 c) ∧ w1.cell? ⟨w.heap.size, 1, none⟩ = some (.string m) ∧ w1.cell? ⟨w.heap.size, 2, none⟩ = some (.slice a bl bc)) ∧
    (w1.cell? ⟨w.heap.size + 1, 0, none⟩ = some (.int .u64 0) ∧ w1.cell? ⟨w.heap.size + 1, 1, none⟩ = some (.string ⟨#[]⟩) ∧ w1.cell? ⟨w.heap.size + 1, 2, none⟩ = some (.slice none 0 0)) ∧
    (w1.frozen? ⟨w.heap.size + 1, 0, none⟩ = false ∧ w1.frozen? ⟨w.heap.size + 1, 1, none⟩ = false ∧ w1.frozen? ⟨w.heap.size + 1, 2, none⟩ = false) ∧ w.heap.size + 1 < w1.heap.size := by
  have hz : w.heap.size + 1 < w1.heap.size := by have := h.size; simp [twoBlocks] at this; omega
  refine ⟨⟨?_, ?_, ?_⟩, ⟨?_, ?_, ?_⟩, ⟨?_, ?_, ?_⟩, hz⟩
  · rw [h.cell (by simp)]; simp [twoBlocks, go_sem]
  · rw [h.cell (by simp)]; simp [twoBlocks, go_sem]
  · rw [h.cell (by simp)]; simp [twoBlocks, go_sem]
  · rw [h.cell (by simp)]; simp [twoBlocks, go_sem]
  · rw [h.cell (by simp)]; simp [twoBlocks, go_sem]
  · rw [h.cell (by simp)]; simp [twoBlocks, go_sem]
  · rw [h.frozen (by simp)]; simp [twoBlocks, go_sem]
  · rw [h.frozen (by simp)]; simp [twoBlocks, go_sem]
  · rw [h.frozen (by simp)]; simp [twoBlocks, go_sem]

set_option maxHeartbeats 1000000 in
set_option maxRecDepth 100000 in
theorem msg_some (B : Nat) (c : Int) (m : ByteArray) (ad : Addr) (bl bc : Nat) (w : World) (hB : B ≤ w.heap.size) (hbl : bl ≤ 1048576) (hok : BodyOK B w ⟨c, m, some ad, bl, bc⟩) :
    Calls Try.prog 40 #[.agg #[.int .u64 c, .string m, .slice (some ad) bl bc]] w (MsgMade w c m) := by
  have hq := fun (w : World) (a : Option Addr) (n c : Nat) => run_neq_slice_nil_any (P := Try.prog) w 48 5 a n c 0 0 Try.underlying48
  obtain ⟨i0, hi, hz0, hz1, hz2⟩ := info_parts Try.info5
  have hbW := twoBlocks_below w c m (some ad) bl bc
  -- the cells that go over
  obtain ⟨cs, hcl, hc1, hcs⟩ : ∃ cs : List Value, cs.length = bl ∧ (∀ v ∈ cs, v.oneCell' = true) ∧ ∀ W1 : World, Below w.heap.size w W1 → ∀ j v, cs[j]? = some v → W1.cell? (ad.add j) = some v := by
    refine ⟨(List.range bl).map fun j => (w.cell? (ad.add j)).getD undef, by simp, ?_, ?_⟩
    · intro v hv
      obtain ⟨j, hj, rfl⟩ := List.mem_map.1 hv
      have hj' : j < bl := by simpa using hj
      obtain ⟨b, off, e, hbB, hcell⟩ := hok (show 0 < bl by omega)
      obtain ⟨u, hu⟩ := hcell j hj'
      simp only [Option.some.injEq] at e
      subst e
      rw [show (⟨b, off, none⟩ : Addr).add j = ⟨b, off + j, none⟩ by unfold Addr.add; split <;> simp_all, hu]
      rfl
    · intro W1 hb1 j v hv
      rw [List.getElem?_map] at hv
      have hj' : j < bl := by
        rcases Nat.lt_or_ge j bl with h | h
        · exact h
        · rw [List.getElem?_eq_none (by simpa using h)] at hv; cases hv
      rw [List.getElem?_range hj'] at hv
      obtain ⟨b, off, e, hbB, hcell⟩ := hok (show 0 < bl by omega)
      obtain ⟨u, hu⟩ := hcell j hj'
      simp only [Option.some.injEq] at e
      subst e
      simp only [Option.map_some] at hv
      rw [show (⟨b, off, none⟩ : Addr).add j = ⟨b, off + j, none⟩ by unfold Addr.add; split <;> simp_all] at hv ⊢
      rw [hu] at hv
      rw [hb1.cell (by exact Nat.lt_of_lt_of_le hbB hB), hu]
      simpa using hv
  have HCS := hide' hcs
  have HC1 := hide' hc1
  clear hcs hc1 hok
  go_enter Try.func40, Try.ntmps40
  go_wp2_with (first
    | (at_make; refine wpList_make_full _ rfl _ _ 48 rfl (w.heap.size + 2) 5 i0 (.int .u8 0) 1 Try.underlying48 hi hz0 hz1 .i64 .i64 _ _ bl rfl rfl rfl rfl (by rw [hz2]; omega) (by unfold maxLen; omega) (by simp) ?_; intro w1 hown hgrow; have hb1 : Below (w.heap.size + 2) (twoBlocks w c m (some ad) bl bc) w1 := (Below.refl _ _).grown hgrow (by simp [twoBlocks]) (fun k hk => by cases hk); obtain ⟨⟨a0, a1, a2⟩, ⟨b0, b1, b2⟩, ⟨f0, f1, f2⟩, hsz⟩ := twoBlocks_facts hb1; obtain ⟨cur, hcur, hcurl⟩ := row_of hown (show _ = w.heap.size + 1 + 1 by simp); have HCUR := hide' hcur; have HCL := hide' hcurl; clear hown hgrow hcur hcurl)
    | (have _t := HCUR; refine wpList_copy_splice rfl (.tmp 11) (.tmp 13) 48 48 rfl 5 Try.underlying48 (by kernel_rfl) _ _ _ _ _ _ rfl rfl (w.heap.size + 1 + 1) 0 cur 5 (by exact HCUR.out) cs (by rw [hcl]; simp) (fun _ => ⟨rfl, ad, rfl, HCS.out _ (hbW.trans (hb1.mono (by omega)))⟩) (by rw [hcl, HCL.out]; omega) HC1.out (w.heap.size + 2) (twoBlocks w c m (some ad) bl bc) hb1 (by omega) ?_; intro w2 HG2 hB2; clear a0 a1 a2 b0 b1 b2 f0 f1 f2 hsz HCUR HCL HCS HC1 HG2; obtain ⟨⟨a0, a1, a2⟩, ⟨b0, b1, b2⟩, ⟨f0, f1, f2⟩, hsz⟩ := twoBlocks_facts hB2))
  refine bodyPost_ret (v := .agg #[.int .u64 c, .string m, .slice (some ⟨w.heap.size + 1 + 1, 0, none⟩) bl bl]) ?_ rfl ⟨_, _, _, rfl, ?_⟩
  · simp [results, Try.results40, go_sem, b0, b1, b2]
  · exact (((hbW.trans (hB2.mono (by omega))).setCell (by simp) _).setCell (by simp) _).setCell (by simp) _

theorem msg_any (B : Nat) (m : Msg) (w : World) (hB : B ≤ w.heap.size) (hbl : m.bl ≤ 1048576) (hok : BodyOK B w m) :
    Calls Try.prog 40 #[.agg #[.int .u64 m.clock, .string m.member, .slice m.ba m.bl m.bc]] w (MsgMade w m.clock m.member) := by
  obtain ⟨c, mem, ba, bl, bc⟩ := m
  cases ba with
  | none => exact msg_nil c mem bl bc w
  | some ad => exact msg_some B c mem ad bl bc w hB hbl hok

theorem own_below {w w' : World} {base e size : Nat} {v : Value} {n : Nat} {xs : List Value} (h : w.ownsRow base e size v n xs) (hb : Below w.heap.size w w') : w'.ownsRow base e size v n xs := by
  refine ⟨h.1, ?_⟩
  rcases h.2 with h2 | ⟨g, cap, cur, hv, hg, hh, r⟩
  · exact Or.inl h2
  · exact Or.inr ⟨g, cap, cur, hv, hg, by rw [hb.block g (Array.getElem?_eq_some_iff.1 hh).1]; exact hh, r⟩

/-! ### zzMsgs -/
theorem Try.info50 : (Try.prog.info? 50).map (fun i => (i.zero, i.size, i.bytes)) = some (some (.agg #[.int .u64 0, .string ByteArray.empty, .slice none 0 0]), 3, 48) := by kernel_rfl

/-- A slice of messages as long as ms, in whose first cells the first message's clock and member lie. -/
def FirstAt (base : Nat) (w : World) (v : Value) (ms : List Msg) : Prop :=
  ∃ ao cap, v = .slice ao ms.length cap ∧ (0 < ms.length → ∃ g, ao = some ⟨g, 0, none⟩ ∧ base ≤ g ∧ g < w.heap.size ∧
    w.cell? ⟨g, 0, none⟩ = some (.int .u64 (ms.getD 0 Msg.none).clock) ∧ w.cell? ⟨g, 1, none⟩ = some (.string (ms.getD 0 Msg.none).member))
def MsgsMade (w : World) (ms : List Msg) (e : Ending) (w' : World) : Prop := ∃ v, e = .returned v ∧ FirstAt w.heap.size w' v ms ∧ Below w.heap.size w w'

set_option maxHeartbeats 400000 in
theorem msgs_nil (w : World) (n cap : Nat) :
    Calls Try.prog 34 #[.slice none n cap] w fun e w' => e = .returned (.slice none 0 0) ∧ w' = w := by
  have hq := fun (w : World) (a : Option Addr) (n c : Nat) => Lib.run_eql_slice_nil (P := Try.prog) w 34 60 a n c 0 0 Try.underlying34
  go_enter Try.func34, Try.ntmps34
  go_wp2
  go_ret
  exact ⟨rfl, rfl⟩

set_option maxHeartbeats 1000000 in
set_option maxRecDepth 100000 in
theorem msgs_some (B : Nat) (ad : Addr) (cap : Nat) (ms : List Msg) (w : World) (hB : B ≤ w.heap.size) (h : MsgsAt B w (some ad) ms) (hm : ms.length ≤ 1048576) (hbl : ∀ m ∈ ms, m.bl ≤ 1048576) :
    Calls Try.prog 34 #[.slice (some ad) ms.length cap] w (MsgsMade w ms) := by
  have hq := fun (w : World) (a : Option Addr) (n c : Nat) => Lib.run_eql_slice_nil (P := Try.prog) w 34 60 a n c 0 0 Try.underlying34
  obtain ⟨i0, hi, hz0, hz1, hz2⟩ := info_parts Try.info50
  have HL : Hid (∀ k, k < ms.length → (ms.getD k Msg.none).bl ≤ 1048576) := hide' (fun k hk => hbl _ (by rw [List.getD, List.getElem?_eq_getElem hk]; exact List.getElem_mem hk))
  clear hbl
  obtain ⟨n, hn⟩ : ∃ n, n = ms.length := ⟨_, rfl⟩
  unfold MsgsAt at h
  rw [← hn] at h hm HL ⊢
  have HN := hide' hn
  have H := hide' h
  clear hn h
  go_enter Try.func34, Try.ntmps34
  go_wp2_with (at_make; refine wpList_make_full _ rfl _ _ 39 rfl w.heap.size 50 i0 _ 3 Try.underlying39 hi hz0 hz1 .i64 .i64 _ _ n rfl rfl rfl rfl (by rw [hz2]; omega) (by unfold maxLen; omega) (Nat.le_refl _) ?_; intro w1 hown hgrow)
  have hb1 : Below w.heap.size w w1 := (Below.refl _ _).grown hgrow (Nat.le_refl _) (fun k hk => by cases hk)
  clear hgrow
  go_loopw [4] (fun i wr => ∃ (k : Nat), k ≤ n ∧ i = .int .i64 k ∧ Below w.heap.size w wr ∧ ∃ cs, wr.ownsRow w.heap.size 50 3 (.slice (some ⟨w.heap.size, 0, none⟩) n n) n cs ∧ (0 < k → cs[0]? = some (.int .u64 (ms.getD 0 Msg.none).clock) ∧ cs[1]? = some (.string (ms.getD 0 Msg.none).member))) (fun i _ => n - (intOf i).toNat)
  case atStart => exact ⟨0, Nat.zero_le _, rfl, hb1, _, hown, fun h => by omega⟩
  case round =>
    obtain ⟨k, hk, rfl, hb, cs, ho, hcs⟩ := hrel
    by_cases hlt : k < n
    · obtain ⟨b, off, e, hbB, hcell⟩ := H.out (by omega)
      simp only [Option.some.injEq] at e
      subst e
      obtain ⟨h1, h2, h3, h4⟩ := (hcell k hlt).below hbB (hb.mono hB)
      have hmb := HL.out k hlt
      obtain ⟨x, hx⟩ : ∃ x, x = ms.getD k Msg.none := ⟨_, rfl⟩
      rw [← hx] at h1 h2 h3 h4 hmb
      have mc := msg_any B x wr (by have := hb.size; omega) hmb h4
      have MC := hide' mc
      clear mc hcell H HL h4 hmb hown hb1 hz0 hz1 hz2 hi
      generalize hxc : x.clock = xc at *
      generalize hxm : x.member = xm at *
      generalize x.ba = xa at *
      generalize x.bl = xl at *
      generalize x.bc = xk at *
      have HO := hide' ho
      have HC := hide' hcs
      have HB := hide' hb
      have HX := hide' hx
      have HXC := hide' hxc
      have HXM := hide' hxm
      clear ho hcs hb hx hxc hxm
      go_wp2_with fail
      refine MC.out.mono ?_
      rintro e w2 ⟨xa2, xl2, xk2, rfl, hb2⟩
      clear MC h1 h2 h3
      have ho2 := own_below HO.out hb2
      have hlen := ho2.1
      have d0 : w2.cell? ⟨w.heap.size, k * 3, none⟩ = some (cs[k * 3]'(by omega)) := by rw [ho2.cellAt (k * 3) (by omega)]; exact List.getElem?_eq_getElem _
      have d1 : w2.cell? ⟨w.heap.size, k * 3 + 1, none⟩ = some (cs[k * 3 + 1]'(by omega)) := by rw [ho2.cellAt (k * 3 + 1) (by omega)]; exact List.getElem?_eq_getElem _
      have d2 : w2.cell? ⟨w.heap.size, k * 3 + 2, none⟩ = some (cs[k * 3 + 2]'(by omega)) := by rw [ho2.cellAt (k * 3 + 2) (by omega)]; exact List.getElem?_eq_getElem _
      have f0 := ho2.frozenAt (k * 3)
      have f1 := ho2.frozenAt (k * 3 + 1)
      have f2 := ho2.frozenAt (k * 3 + 2)
      have st := (((ho2.stored (k * 3) (.int .u64 xc)).1.stored (k * 3 + 1) (.string xm)).1.stored (k * 3 + 2) (.slice xa2 xl2 xk2)).1
      have ST := hide' st
      have hz2 : w.heap.size < w2.heap.size := by
        obtain ⟨cur, hcur, _⟩ | h := (show (∃ cur : Array Value, w2.heap[w.heap.size]? = some (.cells cur 50 (0, 0)) ∧ True) ∨ False from by
          rcases ho2.2 with ⟨h', _⟩ | ⟨g', cap', cur, h', _, hh, _⟩
          · cases h'
          · simp only [Value.slice.injEq, Option.some.injEq, Addr.mk.injEq, and_true, true_and] at h'
            obtain ⟨rfl, rfl⟩ := h'
            exact Or.inl ⟨cur, hh, trivial⟩)
        · exact (Array.getElem?_eq_some_iff.1 hcur).1
        · exact h.elim
      have HB2 := hide' (HB.out.trans (hb2.mono HB.out.size))
      have HLEN := hide' hlen
      generalize cs[k * 3]'(by omega) = e0 at d0
      generalize cs[k * 3 + 1]'(by omega) = e1 at d1
      generalize cs[k * 3 + 2]'(by omega) = e2 at d2
      clear st ho2 HO hlen hb2
      go_wp2_with fail
      go_roundw
      case rel =>
        refine ⟨k + 1, by omega, by go_num, ((HB2.out.setCell (Nat.le_refl _) _).setCell (Nat.le_refl _) _).setCell (Nat.le_refl _) _, _, ST.out, fun _ => ?_⟩
        have hl := HLEN.out
        by_cases hk0 : k = 0
        · subst hk0
          have e1 : xc = (ms.getD 0 Msg.none).clock := by rw [← HXC.out, HX.out]
          have e2 : xm = (ms.getD 0 Msg.none).member := by rw [← HXM.out, HX.out]
          rw [← e1, ← e2]
          constructor
          · rw [List.getElem?_set_ne (by omega), List.getElem?_set_ne (by omega), List.getElem?_set_self (by omega)]
          · rw [List.getElem?_set_ne (by omega), List.getElem?_set_self (by simp; omega)]
        · have hc := HC.out (by omega)
          constructor
          · rw [List.getElem?_set_ne (by omega), List.getElem?_set_ne (by omega), List.getElem?_set_ne (by omega)]; exact hc.1
          · rw [List.getElem?_set_ne (by omega), List.getElem?_set_ne (by omega), List.getElem?_set_ne (by omega)]; exact hc.2
      case measure => simp [intOf]; omega
    · clear H HL hown hb1
      have HO := hide' ho
      have HC := hide' hcs
      have HB := hide' hb
      clear ho hcs hb
      go_wp2
      go_ret
      refine ⟨.slice (some ⟨w.heap.size, 0, none⟩) n n, rfl, ⟨_, n, by rw [← HN.out], fun h0 => ?_⟩, HB.out⟩
      have hc := HC.out (by have := HN.out; omega)
      refine ⟨w.heap.size, rfl, Nat.le_refl _, ?_, ?_, ?_⟩
      · rcases HO.out.2 with ⟨h', _⟩ | ⟨g', cap', cur, h', _, hh, _⟩
        · cases h'
        · simp only [Value.slice.injEq, Option.some.injEq, Addr.mk.injEq, and_true, true_and] at h'
          obtain ⟨rfl, rfl⟩ := h'
          exact (Array.getElem?_eq_some_iff.1 hh).1
      · rw [HO.out.cellAt 0 (by have := HN.out; omega)]; exact hc.1
      · rw [HO.out.cellAt 1 (by have := HN.out; omega)]; exact hc.2

theorem msgs_any (B : Nat) (ao : Option Addr) (cap : Nat) (ms : List Msg) (w : World) (hB : B ≤ w.heap.size) (h : MsgsAt B w ao ms) (hm : ms.length ≤ 1048576) (hbl : ∀ m ∈ ms, m.bl ≤ 1048576) :
    Calls Try.prog 34 #[.slice ao ms.length cap] w (MsgsMade w ms) := by
  cases ao with
  | none =>
    have h0 : ms.length = 0 := by
      rcases Nat.eq_zero_or_pos ms.length with h0 | h0
      · exact h0
      · obtain ⟨_, _, h', _⟩ := h h0; cases h'
    refine (msgs_nil w _ _).mono ?_
    rintro e w' ⟨rfl, rfl⟩
    exact ⟨_, rfl, ⟨none, 0, by rw [h0], fun hp => by omega⟩, Below.refl _ _⟩
  | some ad => exact msgs_some B ad cap ms w hB h hm hbl
end Go.Proofs.Qxb6603225a
