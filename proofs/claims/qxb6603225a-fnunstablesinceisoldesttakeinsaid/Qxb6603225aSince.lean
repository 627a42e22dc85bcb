import Derived.Test.Qxb6603225aRepl2
namespace Go.Proofs.Qxb6603225a
open Go.RowKit Go.Maps
open Go.ChangeMaps (setBlock)

/-! ### The look-up in taken is zzEff -/
theorem hit_iff {c : Int} {m : ByteArray} {t : Tak} : hit c m t = true ↔ stamp t = .agg #[.int .u64 c, .string m] := by
  unfold hit stamp
  rw [Bool.and_eq_true, beq_iff_eq, beq_iff_eq]
  constructor
  · rintro ⟨h1, h2⟩; rw [h1, bytes_eq h2]
  · intro h
    simp only [Value.agg.injEq, Array.mk.injEq, List.cons.injEq, Value.int.injEq, Value.string.injEq, true_and, and_true] at h
    exact ⟨h.1, by rw [h.2]⟩

theorem effTo_miss {c : Int} {m : ByteArray} {ts : List Tak} : ∀ {k : Nat}, (∀ i, i < k → hit c m (ts.getD i Tak.none) = false) → effTo c m ts k = c
  | 0, _ => rfl
  | k + 1, h => by
    unfold effTo
    rw [h k (by omega)]
    exact effTo_miss fun i hi => h i (by omega)
theorem effTo_hit {c : Int} {m : ByteArray} {ts : List Tak} {i : Nat} (hi : hit c m (ts.getD i Tak.none) = true) : ∀ {k : Nat}, i < k → (∀ j, i < j → j < k → hit c m (ts.getD j Tak.none) = false) → effTo c m ts k = (ts.getD i Tak.none).time
  | 0, h, _ => by omega
  | k + 1, h, hn => by
    unfold effTo
    by_cases hik : i = k
    · subst hik; rw [hi]; rfl
    · rw [hn k (by omega) (by omega)]
      exact effTo_hit hi (by omega) fun j h1 h2 => hn j h1 (by omega)

theorem TakVal.lookup {w : World} {tm : Value} {ts : List Tak} (h : TakVal w tm ts) {c : Int} {m : ByteArray} (hc : (Lit.int .u64 c).wf = true) (hm : m.size ≤ maxLen) :
    (∀ n, (Instr.lookup 68 tm (.agg #[.int .u64 c, .string m]) true).run Try.prog (w.drewN n) = .ok (.tuple #[.int .u64 (eff c m ts), .bool true]) (w.drewN n)) ∨
    (eff c m ts = c ∧ ∀ n, (Instr.lookup 68 tm (.agg #[.int .u64 c, .string m]) true).run Try.prog (w.drewN n) = .ok (.tuple #[.int .u64 0, .bool false]) (w.drewN n)) := by
  rcases h with ⟨rfl, h0⟩ | ⟨r, rfl, ens, clock, h1, h2, h3, h4⟩
  · right
    refine ⟨?_, fun n => lookup_nil lawTaken Try.underlying68 zeroTaken _ (isK_stamp hc hm)⟩
    unfold eff
    rw [h0]
    rfl
  · by_cases hx : ∃ e ∈ ens.toList, e.key = .agg #[.int .u64 c, .string m]
    · left
      obtain ⟨e0, he0, hk0⟩ := hx
      intro n
      have hv : ∀ e ∈ ens.toList, e.key = .agg #[.int .u64 c, .string m] → e.val = .int .u64 (eff c m ts) := by
        intro e he hk
        obtain ⟨i, hi, h5, h6, h7⟩ := h3 e he
        have hh : hit c m (ts.getD i Tak.none) = true := hit_iff.2 (by rw [← h5, hk])
        rw [h6]
        unfold eff
        rw [effTo_hit hh hi (fun j hij hj => ?_)]
        cases hb : hit c m (ts.getD j Tak.none) with
        | false => rfl
        | true => exact absurd (by rw [hit_iff.1 hb, hit_iff.1 hh]) (h7 j hij hj)
      rcases lookup_run lawTaken Try.underlying68 zeroTaken (w := w.drewN n) h1 h2 (isK_stamp hc hm) with ⟨e, he, hk, hrun⟩ | ⟨hno, _⟩
      · rw [hrun, hv e he hk]
      · exact absurd hk0 (hno e0 he0)
    · right
      refine ⟨?_, fun n => ?_⟩
      · unfold eff
        refine effTo_miss fun i hi => ?_
        cases hb : hit c m (ts.getD i Tak.none) with
        | false => rfl
        | true =>
          obtain ⟨e, he, hk⟩ := h4 i hi
          exact absurd ⟨e, he, by rw [hk, hit_iff.1 hb]⟩ hx
      · rcases lookup_run lawTaken Try.underlying68 zeroTaken (w := w.drewN n) h1 h2 (isK_stamp hc hm) with ⟨e, he, hk, hrun⟩ | ⟨_, hrun⟩
        · exact absurd ⟨e, he, hk⟩ hx
        · exact hrun

/-! ### unstableSince -/
/-- Entry i stands in the map: it is not left out and is its sender's last. -/
structure Live (es : List Ent) (us : Bool) (skip : ByteArray) (i : Nat) : Prop where
  lt : i < es.length
  no : ¬ Skip us skip (es.getD i Ent.none).sender
  last : ∀ j, i < j → j < es.length → (es.getD j Ent.none).sender ≠ (es.getD i Ent.none).sender
theorem Live.uniq {es : List Ent} {us : Bool} {skip : ByteArray} {i j : Nat} (hi : Live es us skip i) (hj : Live es us skip j) (h : (es.getD i Ent.none).sender = (es.getD j Ent.none).sender) : i = j := by
  rcases Nat.lt_trichotomy i j with h1 | h1 | h1
  · exact absurd h.symm (hi.last j h1 hj.lt)
  · exact h1
  · exact absurd h (hj.last i h1 hi.lt)
/-- When entry i's first message was taken in. -/
def effAt (es : List Ent) (ts : List Tak) (i : Nat) : Int := eff ((es.getD i Ent.none).msgs.getD 0 Msg.none).clock ((es.getD i Ent.none).msgs.getD 0 Msg.none).member ts
/-- r is the earliest of those times; 0 where there is none. -/
def Oldest (es : List Ent) (ts : List Tak) (us : Bool) (skip : ByteArray) (r : Int) : Prop :=
  ((∀ i, ¬ Live es us skip i) ∧ r = 0) ∨ ((∃ i, Live es us skip i ∧ effAt es ts i = r) ∧ ∀ i, Live es us skip i → r ≤ effAt es ts i)
def Defined (es : List Ent) (ts : List Tak) (us : Bool) (skip : ByteArray) : Prop := ∀ i, Live es us skip i → 0 < (es.getD i Ent.none).msgs.length ∧ effAt es ts i ≠ 0

def leftIn (ens : Array MapEntry) (w : World) (it : Nat) : Nat := match w.heap[it]? with | some (.mapIter _ _ seen _) => (leftOf ens seen).size | _ => 0

set_option maxHeartbeats 400000 in
theorem since_nil (p : Nat) (tm : Value) (w : World) (h : ReplicaAt w p (.map none) tm) :
    Calls Try.prog 37 #[.pointer (some ⟨p, 0, none⟩)] w fun e w' => e = .returned (.int .u64 0) ∧ Below w.heap.size w w' := by
  obtain ⟨hp, h7, h12⟩ := h
  have hr := fun w => run_range_nilMap (P := Try.prog) w 66 45 39 Try.underlying66
  have hn := fun (w : World) (ty : TypeId) => run_next_nilMap (P := Try.prog) w ty 0 0 #[]
  go_enter Try.func37, Try.ntmps37
  go_wp2
  refine wp_loop_rounds 1 ?_
  rw [rounds_succ]
  go_wp2
  go_ret
  exact ⟨rfl, (Below.refl _ _).alloc (Nat.le_refl _) _⟩

/-- What holds of 'since' = x when the entries with stamps in 'seen' have come. -/
def Inv (es : List Ent) (ts : List Tak) (us : Bool) (skip : ByteArray) (ens : Array MapEntry) (seen : Array Nat) (x : Int) : Prop :=
  (x = 0 ∨ ∃ i, Live es us skip i ∧ effAt es ts i = x) ∧ ∀ e ∈ ens.toList, seen.contains e.born = true → ∀ i, Live es us skip i → e.key = .string (es.getD i Ent.none).sender → x ≠ 0 ∧ x ≤ effAt es ts i

theorem Inv.start (es : List Ent) (ts : List Tak) (us : Bool) (skip : ByteArray) (ens : Array MapEntry) : Inv es ts us skip ens #[] 0 := ⟨Or.inl rfl, fun e _ h => by simp at h⟩

theorem Inv.step {es : List Ent} {ts : List Tak} {us : Bool} {skip : ByteArray} {ens : Array MapEntry} {clock : Nat} {seen : Array Nat} {x x' : Int} (h : Inv es ts us skip ens seen x) (ok : MapOK 45 ens clock) {e : MapEntry} (he : e ∈ ens.toList) {i : Nat}
    (hi : Live es us skip i) (hk : e.key = .string (es.getD i Ent.none).sender) (h0 : effAt es ts i ≠ 0) (hx : (x' = effAt es ts i ∧ (x = 0 ∨ effAt es ts i < x)) ∨ (x' = x ∧ x ≠ 0 ∧ x ≤ effAt es ts i)) : Inv es ts us skip ens (seen.push e.born) x' := by
  obtain ⟨hA, hB⟩ := h
  refine ⟨?_, fun e' he' hs j hj hkj => ?_⟩
  · rcases hx with ⟨hx, _⟩ | ⟨hx, hne, _⟩
    · exact Or.inr ⟨i, hi, hx.symm⟩
    · rw [hx]; exact hA
  · by_cases hb : e'.born = e.born
    · obtain ⟨a, ha, rfl⟩ := List.mem_iff_getElem.1 he'
      obtain ⟨b, hb', rfl⟩ := List.mem_iff_getElem.1 he
      have h1 := ok.born a (by simpa using ha)
      have h2 := ok.born b (by simpa using hb')
      simp only [Array.getElem_toList] at hb hkj hk
      have hab : a = b := by omega
      subst hab
      have hij : j = i := hj.uniq hi (by rw [hk] at hkj; injection hkj with hkj; exact hkj.symm)
      subst hij
      rcases hx with ⟨hx, _⟩ | ⟨hx, hne, hle⟩
      · rw [hx]; exact ⟨h0, Int.le_refl _⟩
      · rw [hx]; exact ⟨hne, hle⟩
    · have hs' : seen.contains e'.born = true := by
        simp only [Array.contains_push, Bool.or_eq_true, beq_iff_eq] at hs
        rcases hs with hs | hs
        · exact hs
        · exact absurd hs hb
      obtain ⟨q1, q2⟩ := hB e' he' hs' j hj hkj
      rcases hx with ⟨hx, hx'⟩ | ⟨hx, _⟩
      · rw [hx]; exact ⟨h0, by omega⟩
      · rw [hx]; exact ⟨q1, q2⟩

theorem Inv.oldest {es : List Ent} {ts : List Tak} {us : Bool} {skip : ByteArray} {ens : Array MapEntry} {seen : Array Nat} {x : Int} (h : Inv es ts us skip ens seen x)
    (hall : ∀ e ∈ ens.toList, seen.contains e.born = true) (h4 : ∀ i, i < es.length → ¬ Skip us skip (es.getD i Ent.none).sender → ∃ e ∈ ens.toList, e.key = .string (es.getD i Ent.none).sender) : Oldest es ts us skip x := by
  obtain ⟨hA, hB⟩ := h
  by_cases hl : ∃ i, Live es us skip i
  · obtain ⟨i, hi⟩ := hl
    obtain ⟨e, he, hk⟩ := h4 i hi.lt hi.no
    obtain ⟨hne, _⟩ := hB e he (hall e he) i hi hk
    refine Or.inr ⟨hA.resolve_left hne, fun j hj => ?_⟩
    obtain ⟨e', he', hk'⟩ := h4 j hj.lt hj.no
    exact (hB e' he' (hall e' he') j hj hk').2
  · refine Or.inl ⟨fun i hi => hl ⟨i, hi⟩, ?_⟩
    rcases hA with h | ⟨i, hi, _⟩
    · exact h
    · exact absurd ⟨i, hi⟩ hl

set_option maxHeartbeats 1000000 in
set_option maxRecDepth 100000 in
theorem since_map (p r : Nat) (tm : Value) (es : List Ent) (ts : List Tak) (us : Bool) (skip : ByteArray) (w : World) (h : ReplicaAt w p (.map (some r)) tm) (hl : LogMap w r es us skip es.length) (ht : TakVal w tm ts)
    (wf : Wf es ts) (df : Defined es ts us skip) :
    Calls Try.prog 37 #[.pointer (some ⟨p, 0, none⟩)] w (RetU64 fun x w' => Oldest es ts us skip x ∧ Below w.heap.size w w') := by
  obtain ⟨hp, h7, h12⟩ := h
  obtain ⟨ens, clock, hmap, ok, h3, h4⟩ := hl
  have hrg := run_range_map (P := Try.prog) w 66 45 39 r ens clock Try.underlying66 hmap
  have H3 := hide' h3
  have H4 := hide' h4
  have OK := hide' ok
  have HM := hide' hmap
  have HT := hide' ht
  have WF := hide' wf
  have DF := hide' df
  have hrlt : r < w.heap.size := (Array.getElem?_eq_some_iff.1 hmap).1
  clear h3 h4 ok hmap ht wf df
  go_enter Try.func37, Try.ntmps37
  go_wp2_with fail
  clear hrg
  go_loopw [3] (fun s wr => ∃ (x : Int) (seen : Array Nat) (c0 : Nat), s = .int .u64 x ∧ Below w.heap.size w wr ∧ wr.heap[w.heap.size]? = some (.mapIter (some r) clock seen c0) ∧ clock ≤ c0 ∧ Inv es ts us skip ens seen x) (fun _ wr => leftIn ens wr w.heap.size)
  case atStart => exact ⟨0, #[], clock, rfl, (Below.refl _ _).alloc (Nat.le_refl _) _, heap_alloc_new w _, Nat.le_refl _, Inv.start _ _ _ _ _⟩
  case round =>
    obtain ⟨x, seen, c0, rfl, hb, hiter, hc0, hinv⟩ := hrel
    have hmr := (hb.block r hrlt).trans HM.out
    have HINV := hide' hinv
    have HB := hide' hb
    have hleft : leftIn ens wr w.heap.size = (leftOf ens seen).size := by simp [leftIn, hiter]
    rcases run_next_at (P := Try.prog) wr 0 w.heap.size r clock c0 seen ens clock hiter hmr OK.out.old hc0 with ⟨hsz, hrun⟩ | ⟨e, he, w1, hal, hrun⟩
    · have hold : Oldest es ts us skip x := HINV.out.oldest (all_seen ens seen hsz) H4.out
      have HO := hide' hold
      clear hold hinv hiter hmr hsz hc0 hleft hb
      go_wp2_with fail
      go_ret
      exact RetU64.mk ⟨HO.out, HB.out⟩
    · obtain ⟨hmem, _⟩ := mem_left he
      have hshr := left_shrinks ens seen e he
      obtain ⟨i, hi1, hi2, hi3, hi4, hi5⟩ := H3.out e hmem
      have hlive : Live es us skip i := ⟨hi1, hi2, hi4⟩
      obtain ⟨hpos, hne0⟩ := DF.out i hlive
      have hb1 : Below w.heap.size w w1 := by rcases hal with rfl | rfl; exact hb; exact hb.drew
      have hit1 : w1.heap[w.heap.size]? = some (.mapIter (some r) clock seen c0) := by rcases hal with rfl | rfl <;> exact hiter
      -- the world behind the step
      obtain ⟨W, hW⟩ : ∃ W, W = setBlock w1 w.heap.size (.mapIter (some r) clock (seen.push e.born) clock) := ⟨_, rfl⟩
      have hbW : Below w.heap.size w W := by rw [hW]; exact below_setBlock hb1 (Nat.le_refl _)
      have hitW : W.heap[w.heap.size]? = some (.mapIter (some r) clock (seen.push e.born) clock) := by rw [hW]; exact heap_setBlock hit1
      have hmW := (hbW.block r hrlt).trans HM.out
      have hent := run_entry_at (P := Try.prog) W w.heap.size r clock seen ens clock e hitW hmW hmem OK.out.nodup
      have hleftW : leftIn ens W w.heap.size = (leftOf ens (seen.push e.born)).size := by simp [leftIn, hitW]
      rw [← hW] at hrun
      clear hW hal hit1 hb1 he
      obtain ⟨ao, cap, hv, hfirst⟩ := hi5
      obtain ⟨g, rfl, _, hg, g0, g1⟩ := hfirst hpos
      rw [hv] at hrun hent
      have hfm : (es.getD i Ent.none).msgs.getD 0 Msg.none ∈ (es.getD i Ent.none).msgs := getD_mem hpos
      have hem : es.getD i Ent.none ∈ es := getD_mem hi1
      have hlook := TakVal.lookup (HT.out.below hbW) (WF.out.clock _ hem _ hfm) (WF.out.member _ hem _ hfm)
      have e12 := (hbW.cell (p := ⟨p, 12, none⟩) hp).trans h12
      have eg0 := (hbW.cell (p := ⟨g, 0, none⟩) hg).trans g0
      have eg1 := (hbW.cell (p := ⟨g, 1, none⟩) hg).trans g1
      have hmi : (0 : Int) < (((es.getD i Ent.none).msgs.length : Nat) : Int) := by omega
      have STEP : Hid (∀ x', ((x' = effAt es ts i ∧ (x = 0 ∨ effAt es ts i < x)) ∨ (x' = x ∧ x ≠ 0 ∧ x ≤ effAt es ts i)) → Inv es ts us skip ens (seen.push e.born) x') := hide' (fun x' hx' => HINV.out.step OK.out hmem hlive hi3 hne0 hx')
      have HBW := hide' hbW
      have HIT := hide' hitW
      have HLF : Hid (leftIn ens W w.heap.size < leftIn ens wr w.heap.size) := hide' (by rw [hleft, hleftW]; exact hshr)
      obtain ⟨nm, hnm⟩ : ∃ n, n = (es.getD i Ent.none).msgs.length := ⟨_, rfl⟩
      rw [← hnm] at hrun hent hmi
      have hef : effAt es ts i = eff ((es.getD i Ent.none).msgs.getD 0 Msg.none).clock ((es.getD i Ent.none).msgs.getD 0 Msg.none).member ts := rfl
      rw [← hef] at hlook
      clear hnm hef hfm hem hv hfirst g0 g1 hmW hitW hbW hleftW hleft hshr hinv hmr hiter hpos hne0 hlive hi1 hi2 hi3 hi4 hmem hb
      generalize ((es.getD i Ent.none).msgs.getD 0 Msg.none).clock = mc at *
      generalize ((es.getD i Ent.none).msgs.getD 0 Msg.none).member = mm at *
      generalize effAt es ts i = ef at *
      rcases hlook with hlk | ⟨hec, hlk⟩
      · by_cases hx0 : (x == 0) = true
        · have HN : Hid (Inv es ts us skip ens (seen.push e.born) ef) := STEP.out _ (Or.inl ⟨rfl, Or.inl (beq_iff_eq.1 hx0)⟩)
          go_wp2_with fail
          go_quiet (fail)
          go_wp2
          go_roundw
          case rel => exact ⟨ef, _, clock, rfl, below_dr HBW.out _, HIT.out, Nat.le_refl _, HN.out⟩
          case measure => exact HLF.out
        · replace hx0 : (x == 0) = false := by simpa using hx0
          by_cases hlt : ef < x
          · have HN : Hid (Inv es ts us skip ens (seen.push e.born) ef) := STEP.out _ (Or.inl ⟨rfl, Or.inr hlt⟩)
            go_wp2_with fail
            go_quiet (fail)
            go_wp2
            go_roundw
            case rel => exact ⟨ef, _, clock, rfl, below_dr HBW.out _, HIT.out, Nat.le_refl _, HN.out⟩
            case measure => exact HLF.out
          · have HN : Hid (Inv es ts us skip ens (seen.push e.born) x) := STEP.out _ (Or.inr ⟨rfl, beq_eq_false_iff_ne.1 hx0, by omega⟩)
            go_wp2_with fail
            go_quiet (fail)
            go_wp2
            go_roundw
            case rel => exact ⟨x, _, clock, rfl, below_dr HBW.out _, HIT.out, Nat.le_refl _, HN.out⟩
            case measure => exact HLF.out
      · subst hec
        by_cases hx0 : (x == 0) = true
        · have HN : Hid (Inv es ts us skip ens (seen.push e.born) ef) := STEP.out _ (Or.inl ⟨rfl, Or.inl (beq_iff_eq.1 hx0)⟩)
          go_wp2_with fail
          go_quiet (fail)
          go_wp2
          go_roundw
          case rel => exact ⟨ef, _, clock, rfl, below_dr HBW.out _, HIT.out, Nat.le_refl _, HN.out⟩
          case measure => exact HLF.out
        · replace hx0 : (x == 0) = false := by simpa using hx0
          by_cases hlt : ef < x
          · have HN : Hid (Inv es ts us skip ens (seen.push e.born) ef) := STEP.out _ (Or.inl ⟨rfl, Or.inr hlt⟩)
            go_wp2_with fail
            go_quiet (fail)
            go_wp2
            go_roundw
            case rel => exact ⟨ef, _, clock, rfl, below_dr HBW.out _, HIT.out, Nat.le_refl _, HN.out⟩
            case measure => exact HLF.out
          · have HN : Hid (Inv es ts us skip ens (seen.push e.born) x) := STEP.out _ (Or.inr ⟨rfl, beq_eq_false_iff_ne.1 hx0, by omega⟩)
            go_wp2_with fail
            go_quiet (fail)
            go_wp2
            go_roundw
            case rel => exact ⟨x, _, clock, rfl, below_dr HBW.out _, HIT.out, Nat.le_refl _, HN.out⟩
            case measure => exact HLF.out
end Go.Proofs.Qxb6603225a
