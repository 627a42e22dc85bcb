import Derived.Test.Qxb6603225aData
namespace Go.Proofs.Qxb6603225a
open Go.RowKit

def hit (c : Int) (m : ByteArray) (t : Tak) : Bool := (t.clock == c) && (t.member.toList == m.toList)
/-- zzEff, over the first k entries: the last that hits, else the clock. -/
def effTo (c : Int) (m : ByteArray) (ts : List Tak) : Nat → Int
  | 0 => c
  | k + 1 => if hit c m (ts.getD k Tak.none) then (ts.getD k Tak.none).time else effTo c m ts k
def eff (c : Int) (m : ByteArray) (ts : List Tak) : Int := effTo c m ts ts.length

theorem below_dr {B : Nat} {a w : World} (h : Below B a w) (n : Nat) : Below B a (w.drewN n) := ⟨h.os, h.tape, h.output, h.size, h.block⟩
theorem hide' {p : Prop} (h : p) : Hid p := h

set_option maxHeartbeats 1000000 in
theorem eff_any (B : Nat) (at' : Option Addr) (capt : Nat) (c : Int) (m : ByteArray) (ba : Option Addr) (bl bc : Nat) (ts : List Tak) (w : World) (hB : B ≤ w.heap.size) (ht : TakenAt B w at' ts) (hm : ts.length ≤ 1048576) :
    Calls Try.prog 28 #[.agg #[.int .u64 c, .string m, .slice ba bl bc], .slice at' ts.length capt] w fun e w' => e = .returned (.int .u64 (eff c m ts)) ∧ Below w.heap.size w w' := by
  have H1 : (w.alloc (.cells #[.int .u64 c, .string m, .slice ba bl bc] 60)).cell? ⟨w.heap.size, 0, none⟩ = some (.int .u64 c) := by rw [World.cell?_alloc_at _ _ _ _ rfl]; rfl
  have H2 : (w.alloc (.cells #[.int .u64 c, .string m, .slice ba bl bc] 60)).cell? ⟨w.heap.size, 1, none⟩ = some (.string m) := by rw [World.cell?_alloc_at _ _ _ _ rfl]; rfl
  have hbel : Below w.heap.size w (w.alloc (.cells #[.int .u64 c, .string m, .slice ba bl bc] 60)) := (Below.refl _ _).alloc (Nat.le_refl _) _
  have ht' := ht.below (hbel.mono hB)
  obtain ⟨W, hW⟩ : ∃ W, W = w.alloc (.cells #[.int .u64 c, .string m, .slice ba bl bc] 60) := ⟨_, rfl⟩
  rw [← hW] at H1 H2 hbel ht'
  have HW := hide' hW
  have HBEL := hide' hbel
  have HE : Hid (eff c m ts = effTo c m ts ts.length) := rfl
  clear hbel ht
  obtain ⟨n, hn⟩ : ∃ n, n = ts.length := ⟨_, rfl⟩
  unfold TakenAt at ht'
  rw [← hn] at ht' hm HE ⊢
  clear hn
  have HT := hide' ht'
  clear ht'
  generalize eff c m ts = r at *
  go_enter Try.func28, Try.ntmps28
  go_wp2
  clear hW
  go_loopw [5] (fun j wr => ∃ (k q : Nat), k ≤ n ∧ j = .int .i64 ((k : Int) - 1) ∧ wr = W.drewN q ∧ effTo c m ts k = r) (fun j _ => (intOf j + 1).toNat)
  case atStart => exact ⟨n, 0, Nat.le_refl _, rfl, HW.out.symm, HE.out.symm⟩
  case round =>
    obtain ⟨k, q, hk, rfl, rfl, he⟩ := hrel
    match k, hk, he with
    | 0, hk, he =>
      have HR : Hid (c = r) := he
      clear he HT
      go_wp2
      go_ret
      refine ⟨?_, ⟨HBEL.out.os, HBEL.out.tape, HBEL.out.output, HBEL.out.size, HBEL.out.block⟩⟩
      rw [← HR.out]
      rfl
    | k + 1, hk, he =>
      obtain ⟨b, off, rfl, hb, hcell⟩ := HT.out (by omega)
      obtain ⟨h1, h2, h3⟩ := hcell k (by omega)
      unfold effTo at he
      generalize ts.getD k Tak.none = t at h1 h2 h3 he
      have hj : (((k + 1 : Nat) : Int) - 1) = (k : Int) := by omega
      rw [hj]
      clear hj HT hcell
      by_cases c1 : (t.clock == c) = true
      · by_cases c2 : (t.member.toList == m.toList) = true
        · have HR : Hid (t.time = r) := by rw [if_pos (by simp [hit, c1, c2])] at he; exact he
          clear he
          generalize t.clock = tc at *
          generalize t.member = tm at *
          generalize t.time = tt at *
          go_wp2
          go_quiet (fail)
          go_wp2
          go_ret
          refine ⟨?_, ⟨HBEL.out.os, HBEL.out.tape, HBEL.out.output, HBEL.out.size, HBEL.out.block⟩⟩
          rw [← HR.out]
          rfl
        · replace c2 : (t.member.toList == m.toList) = false := by simpa using c2
          have HR : Hid (effTo c m ts k = r) := by rw [if_neg (by simp [hit, c2])] at he; exact he
          clear he
          generalize t.clock = tc at *
          generalize t.member = tm at *
          generalize t.time = tt at *
          go_wp2
          go_quiet (fail)
          go_wp2
          go_roundw
          case rel => exact ⟨k, _, by omega, rfl, rfl, HR.out⟩
          case measure => simp [intOf]
      · replace c1 : (t.clock == c) = false := by simpa using c1
        have HR : Hid (effTo c m ts k = r) := by rw [if_neg (by simp [hit, c1])] at he; exact he
        clear he
        generalize t.clock = tc at *
        generalize t.member = tm at *
        generalize t.time = tt at *
        go_wp2
        go_quiet (fail)
        go_wp2
        go_roundw
        case rel => exact ⟨k, _, by omega, rfl, rfl, HR.out⟩
        case measure => simp [intOf]

/-! ### zzAlive (without a sender to skip) -/
theorem Try.info4 : (Try.prog.info? 4).map (fun i => (i.zero, i.size, i.bytes)) = some (some (.bool false), 1, 1) := by kernel_rfl

/-- The entry is its sender's last. -/
def aliveB (es : List Ent) (i : Nat) : Bool := (es.drop (i + 1)).all fun e => !(e.sender.toList == (es.getD i Ent.none).sender.toList)

theorem aliveB_true {es : List Ent} {i : Nat} (h : ∀ j, i < j → j < es.length → ((es.getD j Ent.none).sender.toList == (es.getD i Ent.none).sender.toList) = false) : aliveB es i = true := by
  rw [aliveB, List.all_eq_true]
  intro e he
  obtain ⟨j, hj, rfl⟩ := List.mem_iff_getElem.1 he
  rw [List.length_drop] at hj
  have := h (i + 1 + j) (by omega) (by omega)
  rw [List.getElem_drop]
  rw [List.getD, List.getElem?_eq_getElem (show i + 1 + j < es.length by omega), Option.getD_some] at this
  rw [this]
  rfl
theorem aliveB_false {es : List Ent} {i j : Nat} (hij : i < j) (hj : j < es.length) (h : ((es.getD j Ent.none).sender.toList == (es.getD i Ent.none).sender.toList) = true) : aliveB es i = false := by
  rw [aliveB, List.all_eq_false]
  refine ⟨es[j], ?_, ?_⟩
  · rw [List.mem_iff_getElem]
    exact ⟨j - (i + 1), by rw [List.length_drop]; omega, by rw [List.getElem_drop]; congr 1; omega⟩
  · rw [List.getD, List.getElem?_eq_getElem hj, Option.getD_some] at h
    rw [h]
    simp

set_option maxHeartbeats 1000000 in
set_option maxRecDepth 100000 in
theorem alive_any (B : Nat) (ao : Option Addr) (cap : Nat) (es : List Ent) (sk : ByteArray) (w : World) (hB : B ≤ w.heap.size) (h : LogAt B w ao es) (hm : es.length ≤ 1048576) :
    Calls Try.prog 25 #[.slice ao es.length cap, .string sk, .bool false] w fun e w' => e = .returned (.slice (some ⟨w.heap.size, 0, none⟩) es.length es.length) ∧ Below w.heap.size w w' ∧
      w.heap.size < w'.heap.size ∧ ∀ j, j < es.length → w'.cell? ⟨w.heap.size, j, none⟩ = some (.bool (aliveB es j)) := by
  obtain ⟨i0, hi, hz0, hz1, hz2⟩ := info_parts Try.info4
  obtain ⟨n, hn⟩ : ∃ n, n = es.length := ⟨_, rfl⟩
  unfold LogAt at h
  rw [← hn] at h hm ⊢
  have HN := hide' hn
  have H := hide' h
  clear hn h
  go_enter Try.func25, Try.ntmps25
  go_wp2_with (at_make; refine wpList_make_full _ rfl _ _ 54 rfl w.heap.size 4 i0 (.bool false) 1 Try.underlying54 hi hz0 hz1 .i64 .i64 _ _ n rfl rfl rfl rfl (by rw [hz2]; omega) (by unfold maxLen; omega) (Nat.le_refl _) ?_; intro w1 hown hgrow)
  have hb1 : Below w.heap.size w w1 := (Below.refl _ _).grown hgrow (Nat.le_refl _) (fun k hk => by cases hk)
  clear hgrow
  go_loopw [8] (fun i wr => ∃ (k : Nat), k ≤ n ∧ i = .int .i64 k ∧ Below w.heap.size w wr ∧ ∃ cs, wr.ownsRow w.heap.size 4 1 (.slice (some ⟨w.heap.size, 0, none⟩) n n) n cs ∧ ∀ j, j < k → cs[j]? = some (.bool (aliveB es j))) (fun i _ => n - (intOf i).toNat)
  case atStart => exact ⟨0, Nat.zero_le _, rfl, hb1, _, hown, fun j hj => by omega⟩
  case round =>
    obtain ⟨k, hk, rfl, hb, cs, ho, hcs⟩ := hrel
    by_cases hlt : k < n
    · obtain ⟨b, off, rfl, hbB, hcell⟩ := H.out (by omega)
      have hlen := ho.1
      have h2 : wr.cell? ⟨w.heap.size, k, none⟩ = some (cs[k]'(by omega)) := by rw [ho.cellAt k (by omega)]; exact List.getElem?_eq_getElem _
      have h3 := ho.frozenAt k
      have hst : ∀ u, Hid ((wr.setCell ⟨w.heap.size, k, none⟩ u).ownsRow w.heap.size 4 1 (.slice (some ⟨w.heap.size, 0, none⟩) n n) n (cs.set k u)) := fun u => (ho.stored k u).1
      have HC : Hid (∀ j, j < k → cs[j]? = some (.bool (aliveB es j))) := hcs
      have HCS : Hid (∀ u, u = Value.bool (aliveB es k) → ∀ j, j < k + 1 → (cs.set k u)[j]? = some (.bool (aliveB es j))) := hide' (fun u hu j hj => by
        rw [List.getElem?_set]
        by_cases hjk : k = j
        · subst hjk; rw [if_pos rfl, if_pos (by omega), hu]
        · rw [if_neg hjk]; exact HC.out j (by omega))
      have hs1 := (hb.cell (p := ⟨b, off + k * 2, none⟩) (show b < w.heap.size by omega)).trans (hcell k hlt).sender
      have hsz := hb.size
      have hcj : ∀ j, j < n → wr.cell? ⟨b, off + j * 2, none⟩ = some (.string (es.getD j Ent.none).sender) := fun j hj => (hb.cell (p := ⟨b, off + j * 2, none⟩) (show b < w.heap.size by omega)).trans (hcell j hj).sender
      have HCJ := hide' hcj
      have HB := hide' hb
      generalize cs[k]'(by omega) = c0 at h2
      obtain ⟨s, hs⟩ : ∃ s, s = (es.getD k Ent.none).sender := ⟨_, rfl⟩
      rw [← hs] at hs1
      have HS := hide' hs
      clear ho hcs hown hb1 hcell H hz0 hz1 hz2 hi hcj hs hb
      go_wp2
      go_loopw [9, 10] (fun l i w2 => ∃ (j q : Nat), k < j ∧ j ≤ n ∧ l = .bool true ∧ i = .int .i64 j ∧ w2 = wr.drewN q ∧ ∀ j', k < j' → j' < j → ((es.getD j' Ent.none).sender.toList == (es.getD k Ent.none).sender.toList) = false) (fun _ i _ => n - (intOf i).toNat)
      case atStart => exact ⟨k + 1, 0, by omega, by omega, rfl, by go_num, rfl, fun j' h1 h2 => by omega⟩
      case round =>
        obtain ⟨j, q, hkj, hj, rfl, rfl, rfl, hno⟩ := hrel
        have HNO := hide' hno
        clear hno
        by_cases hltj : j < n
        · have hs2 := HCJ.out j hltj
          obtain ⟨t, htt⟩ : ∃ t, t = (es.getD j Ent.none).sender := ⟨_, rfl⟩
          rw [← htt] at hs2
          have HTT := hide' htt
          clear htt
          by_cases heq : (t.toList == s.toList) = true
          · have hal : aliveB es k = false := aliveB_false hkj (by have := HN.out; omega) (by rw [← HS.out, ← HTT.out]; exact heq)
            have HAL := hide' hal
            clear hal HCJ
            go_wp2
            go_quiet (fail)
            go_wp2
            go_roundw
            case rel => exact ⟨k + 1, by omega, by go_num, (below_dr HB.out _).setCell (Nat.le_refl _) _, _, (hst (.bool false)).out, HCS.out _ (by rw [HAL.out])⟩
            case measure => simp [intOf]; omega
          · replace heq : (t.toList == s.toList) = false := by simpa using heq
            clear HCJ
            go_wp2
            go_quiet (fail)
            go_wp2
            go_roundw
            case rel =>
              refine ⟨j + 1, _, by omega, by omega, rfl, by go_num, rfl, fun j' h1 h2 => ?_⟩
              by_cases hjj : j' = j
              · subst hjj; rw [← HS.out, ← HTT.out]; exact heq
              · exact HNO.out j' h1 (by omega)
            case measure => simp [intOf]; omega
        · have hal : aliveB es k = true := aliveB_true (fun j' h1 h2 => HNO.out j' h1 (by have := HN.out; omega))
          have HAL := hide' hal
          clear hal HCJ
          go_wp2
          go_roundw
          case rel => exact ⟨k + 1, by omega, by go_num, (below_dr HB.out _).setCell (Nat.le_refl _) _, _, (hst (.bool true)).out, HCS.out _ (by rw [HAL.out])⟩
          case measure => simp [intOf]; omega
    · clear H
      go_wp2
      go_ret
      refine ⟨rfl, hb, ?_, fun j hj => ?_⟩
      · rcases ho.2 with ⟨h', _⟩ | ⟨g', cap', cur, h', _, hg, _⟩
        · cases h'
        · simp only [Value.slice.injEq, Option.some.injEq, Addr.mk.injEq, and_true, true_and] at h'
          obtain ⟨rfl, rfl⟩ := h'
          exact (Array.getElem?_eq_some_iff.1 hg).1
      · rw [ho.cellAt j (by omega)]
        exact hcs j (by omega)

/-! ### zzFirstsDefined -/
/-- Every entry that is its sender's last has a first message, taken in at a time other than 0. -/
def Firsts (es : List Ent) (ts : List Tak) (k : Nat) : Prop := ∀ j, j < k → aliveB es j = true → 0 < (es.getD j Ent.none).msgs.length ∧ eff ((es.getD j Ent.none).msgs.getD 0 Msg.none).clock ((es.getD j Ent.none).msgs.getD 0 Msg.none).member ts ≠ 0
theorem Firsts.step {es : List Ent} {ts : List Tak} {k : Nat} (h : Firsts es ts k) (h1 : aliveB es k = true → 0 < (es.getD k Ent.none).msgs.length ∧ eff ((es.getD k Ent.none).msgs.getD 0 Msg.none).clock ((es.getD k Ent.none).msgs.getD 0 Msg.none).member ts ≠ 0) : Firsts es ts (k + 1) := fun j hj ha => by
  by_cases hjk : j = k
  · subst hjk; exact h1 ha
  · exact h j (by omega) ha

set_option maxHeartbeats 1000000 in
set_option maxRecDepth 100000 in
theorem firsts_any (B : Nat) (ao at' : Option Addr) (cap capt g capg : Nat) (es : List Ent) (ts : List Tak) (w : World) (hB : B ≤ w.heap.size) (h : LogAt B w ao es) (ht : TakenAt B w at' ts) (hg : g < w.heap.size)
    (hal : ∀ j, j < es.length → w.cell? ⟨g, j, none⟩ = some (.bool (aliveB es j))) (hm : es.length ≤ 1048576) (hmt : ts.length ≤ 1048576) :
    Calls Try.prog 26 #[.slice ao es.length cap, .slice at' ts.length capt, .slice (some ⟨g, 0, none⟩) es.length capg] w (RetBool' fun r w' => Below w.heap.size w w' ∧ (r = true → Firsts es ts es.length)) := by
  obtain ⟨n, hn⟩ : ∃ n, n = es.length := ⟨_, rfl⟩
  have HLOG := hide' h
  have HTAK := hide' ht
  clear h ht
  rw [← hn] at hal hm ⊢
  have HN := hide' hn
  have HA := hide' hal
  clear hn hal
  go_enter Try.func26, Try.ntmps26
  go_wp2
  go_loopw [7] (fun i wr => ∃ (k : Nat), k ≤ n ∧ i = .int .i64 k ∧ Below w.heap.size w wr ∧ Firsts es ts k) (fun i _ => n - (intOf i).toNat)
  case atStart => exact ⟨0, Nat.zero_le _, rfl, Below.refl _ _, fun j hj => by omega⟩
  case round =>
    obtain ⟨k, hk, rfl, hb, hf⟩ := hrel
    have HB := hide' hb
    have HF : Hid (Firsts es ts k) := hf
    clear hf
    by_cases hlt : k < n
    · obtain ⟨b, off, rfl, hbB, hcell⟩ := HLOG.out (by have := HN.out; omega)
      have ha1 := (hb.cell (p := ⟨g, k, none⟩) hg).trans (HA.out k hlt)
      obtain ⟨al, hale⟩ : ∃ a, a = aliveB es k := ⟨_, rfl⟩
      rw [← hale] at ha1
      have HAL := hide' hale
      clear hale
      cases al with
      | false =>
        clear HA hcell hb
        go_wp2
        go_roundw
        case rel => exact ⟨k + 1, by omega, by go_num, HB.out, Firsts.step HF.out (fun h => by rw [← HAL.out] at h; cases h)⟩
        case measure => simp [intOf]; omega
      | true =>
        have hent := (hcell k (by have := HN.out; omega)).below hbB (hb.mono hB)
        obtain ⟨h1, h2, h3⟩ := hent
        obtain ⟨e, he⟩ : ∃ e, e = es.getD k Ent.none := ⟨_, rfl⟩
        rw [← he] at h1 h2 h3
        have HE := hide' he
        clear he HA hcell h1
        by_cases h0 : 0 < e.msgs.length
        · obtain ⟨bm, om, hma, hbm, hmc⟩ := h3 h0
          obtain ⟨m1, m2, m3, _⟩ := hmc 0 h0
          rw [show om + 0 * 3 = om by omega] at m1 m2 m3
          rw [hma] at h2
          obtain ⟨x, hx⟩ : ∃ x, x = e.msgs.getD 0 Msg.none := ⟨_, rfl⟩
          rw [← hx] at m1 m2 m3
          have HX := hide' hx
          have hg0 : (((e.msgs.length : Nat) : Int) == 0) = false := beq_eq_false_iff_ne.2 (by omega)
          have ef := eff_any B at' capt x.clock x.member x.ba x.bl x.bc ts wr (by have := hb.size; omega) (HTAK.out.below (hb.mono hB)) hmt
          have EF := hide' ef
          have HP : Hid (∀ r : Int, r = eff x.clock x.member ts → r ≠ 0 → Firsts es ts (k + 1)) := hide' (fun r hr hr0 => Firsts.step HF.out (fun _ => by rw [← HE.out, ← HX.out, ← hr]; exact ⟨h0, hr0⟩))
          have hmi : (0 : Int) < ((e.msgs.length : Nat) : Int) := by omega
          clear hx hmc h3 hma ef hb
          obtain ⟨r, hr⟩ : ∃ r, r = eff x.clock x.member ts := ⟨_, rfl⟩
          rw [← hr] at EF
          have HRR := hide' hr
          clear hr
          generalize x.clock = xc at *
          generalize x.member = xm at *
          generalize x.ba = xa at *
          generalize x.bl = xl at *
          generalize x.bc = xk at *
          generalize e.msgs.length = nm at *
          generalize e.mc = mc at *
          go_wp2_with fail
          refine EF.out.mono ?_
          rintro e' w' ⟨rfl, hb'⟩
          have HB' := hide' (HB.out.trans (hb'.mono HB.out.size))
          clear hb'
          by_cases hr0 : (r == 0) = true
          · go_wp2_with fail
            go_ret
            exact RetBool'.mk (r := false) ⟨HB'.out, fun h => by cases h⟩
          · replace hr0 : (r == 0) = false := by simpa using hr0
            go_wp2_with fail
            go_roundw
            case rel => exact ⟨k + 1, by omega, by go_num, HB'.out, HP.out r HRR.out (beq_eq_false_iff_ne.1 hr0)⟩
            case measure => simp [intOf]; omega
        · have hg0 : (((e.msgs.length : Nat) : Int) == 0) = true := by rw [show e.msgs.length = 0 by omega]; rfl
          generalize e.msgs.length = nm at *
          generalize e.mc = mc at *
          clear h3 hb
          go_wp2
          go_ret
          exact RetBool'.mk (r := false) ⟨HB.out, fun h => by cases h⟩
    · clear HA
      have hkn : k = n := by omega
      rw [hkn] at HF
      clear hkn
      go_wp2
      go_ret
      exact RetBool'.mk (r := true) ⟨HB.out, fun _ => HF.out⟩
end Go.Proofs.Qxb6603225a
