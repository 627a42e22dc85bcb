import Derived.Test.Qxb6603225aMaps
import Derived.Deep.RegionHeld3
namespace Go.Proofs.Qxb6603225a
open Go.RowKit Go.Maps
open Go.ChangeMaps (setBlock)

/-! ### ZZReplicaOf -/
def ReplicaAt (w : World) (p : Nat) (lm tm : Value) : Prop := p < w.heap.size ∧ w.cell? ⟨p, 7, none⟩ = some lm ∧ w.cell? ⟨p, 12, none⟩ = some tm
def ReplicaMade (w : World) (lm tm : Value) (e : Ending) (w' : World) : Prop := ∃ p, e = .returned (.pointer (some ⟨p, 0, none⟩)) ∧ ReplicaAt w' p lm tm ∧ Below w.heap.size w w'

set_option maxHeartbeats 400000 in
theorem replicaOf_any (ml mt : Option Nat) (w : World) :
    Calls Try.prog 35 #[.map ml, .map mt, .slice none 0 0] w (ReplicaMade w (.map ml) (.map mt)) := by
  go_enter Try.func35, Try.ntmps35
  go_wp2
  go_ret
  refine ⟨w.heap.size, rfl, ⟨by simp, ?_, ?_⟩, (Below.refl _ _).alloc (Nat.le_refl _) _⟩
  · rw [World.cell?_alloc_at _ _ _ _ rfl]; rfl
  · rw [World.cell?_alloc_at _ _ _ _ rfl]; rfl

/-! ### The two maps that zzReplica makes -/
theorem bytes_eq {a b : ByteArray} (h : a.toList = b.toList) : a = b := by
  rw [ByteArray.toList_eq, ByteArray.toList_eq] at h
  obtain ⟨⟨la⟩⟩ := a
  obtain ⟨⟨lb⟩⟩ := b
  simp at h
  rw [h]

/-- The sender's entries are left out. -/
def Skip (us : Bool) (skip s : ByteArray) : Prop := us = true ∧ s = skip

/-- Block r is a map of the log's first k entries: under each sender that is not left out the messages of his last entry. -/
def LogMap (w : World) (r : Nat) (es : List Ent) (us : Bool) (skip : ByteArray) (k : Nat) : Prop :=
  ∃ ens clock, w.heap[r]? = some (.map ens clock) ∧ MapOK 45 ens clock ∧
    (∀ e ∈ ens.toList, ∃ i, i < k ∧ ¬ Skip us skip (es.getD i Ent.none).sender ∧ e.key = .string (es.getD i Ent.none).sender ∧ (∀ j, i < j → j < k → (es.getD j Ent.none).sender ≠ (es.getD i Ent.none).sender) ∧ FirstAt 0 w e.val (es.getD i Ent.none).msgs) ∧
    (∀ i, i < k → ¬ Skip us skip (es.getD i Ent.none).sender → ∃ e ∈ ens.toList, e.key = .string (es.getD i Ent.none).sender)

theorem FirstAt.below {base : Nat} {w w' : World} {v : Value} {ms : List Msg} (h : FirstAt base w v ms) (hb : Below w.heap.size w w') : FirstAt 0 w' v ms := by
  obtain ⟨ao, cap, rfl, hc⟩ := h
  refine ⟨ao, cap, rfl, fun h0 => ?_⟩
  obtain ⟨g, rfl, _, hg, h1, h2⟩ := hc h0
  exact ⟨g, rfl, Nat.zero_le _, Nat.lt_of_lt_of_le hg hb.size, (hb.cell (p := ⟨g, 0, none⟩) hg).trans h1, (hb.cell (p := ⟨g, 1, none⟩) hg).trans h2⟩

theorem cell_setBlock {w : World} {r : Nat} {o : Obj} {a : Addr} (h : a.block ≠ r) : (setBlock w r o).cell? a = w.cell? a :=
  World.cell?_of_block (by show (w.heap.setIfInBounds r o)[a.block]? = _; rw [Array.getElem?_setIfInBounds_ne (fun e => h e.symm)])
theorem heap_setBlock {w : World} {r : Nat} {o o' : Obj} (h : w.heap[r]? = some o') : (setBlock w r o).heap[r]? = some o := by
  show (w.heap.setIfInBounds r o)[r]? = _
  rw [Array.getElem?_setIfInBounds_self, if_pos (Array.getElem?_eq_some_iff.1 h).1]
theorem below_setBlock {B : Nat} {w0 w : World} {r : Nat} {o : Obj} (h : Below B w0 w) (hr : B ≤ r) : Below B w0 (setBlock w r o) :=
  h.trans ⟨rfl, rfl, rfl, by show _ ≤ (w.heap.setIfInBounds r o).size; simp, fun k hk => by show (w.heap.setIfInBounds r o)[k]? = _; rw [Array.getElem?_setIfInBounds_ne (by omega)]⟩
theorem size_setBlock (w : World) (r : Nat) (o : Obj) : (setBlock w r o).heap.size = w.heap.size := by show (w.heap.setIfInBounds r o).size = _; simp
theorem ne_of_cell {w : World} {r : Nat} {a : Addr} {v : Value} {ens : Array MapEntry} {clock : Nat} (h : w.heap[r]? = some (.map ens clock)) (hc : w.cell? a = some v) : a.block ≠ r := by
  intro e
  simp [World.cell?, e, h] at hc

theorem FirstAt.setBlock {base : Nat} {w : World} {r : Nat} {o : Obj} {v : Value} {ms : List Msg} {ens : Array MapEntry} {clock : Nat} (h : FirstAt base w v ms) (hr : w.heap[r]? = some (.map ens clock)) : FirstAt 0 (setBlock w r o) v ms := by
  obtain ⟨ao, cap, rfl, hc⟩ := h
  refine ⟨ao, cap, rfl, fun h0 => ?_⟩
  obtain ⟨g, rfl, _, hg, h1, h2⟩ := hc h0
  exact ⟨g, rfl, Nat.zero_le _, by rw [size_setBlock]; exact hg, by rw [cell_setBlock (ne_of_cell hr h1)]; exact h1, by rw [cell_setBlock (ne_of_cell hr h2)]; exact h2⟩

theorem LogMap.below {w w' : World} {r : Nat} {es : List Ent} {us : Bool} {skip : ByteArray} {k : Nat} (h : LogMap w r es us skip k) (hb : Below w.heap.size w w') : LogMap w' r es us skip k := by
  obtain ⟨ens, clock, h1, h2, h3, h4⟩ := h
  refine ⟨ens, clock, by rw [hb.block r (Array.getElem?_eq_some_iff.1 h1).1]; exact h1, h2, fun e he => ?_, h4⟩
  obtain ⟨i, a, b, c, d, f⟩ := h3 e he
  exact ⟨i, a, b, c, d, f.below hb⟩

theorem LogMap.skip {w : World} {r : Nat} {es : List Ent} {us : Bool} {skip : ByteArray} {k : Nat} (h : LogMap w r es us skip k) (hs : Skip us skip (es.getD k Ent.none).sender) : LogMap w r es us skip (k + 1) := by
  obtain ⟨ens, clock, h1, h2, h3, h4⟩ := h
  refine ⟨ens, clock, h1, h2, fun e he => ?_, fun i hi hn => ?_⟩
  · obtain ⟨i, a, b, c, d, f⟩ := h3 e he
    refine ⟨i, by omega, b, c, fun j hij hj => ?_, f⟩
    by_cases hjk : j = k
    · subst hjk; intro e'; exact b (e' ▸ hs)
    · exact d j hij (by omega)
  · by_cases hik : i = k
    · subst hik; exact absurd hs hn
    · exact h4 i (by omega) hn

theorem LogMap.put {w : World} {r : Nat} {es : List Ent} {us : Bool} {skip : ByteArray} {k : Nat} (h : LogMap w r es us skip k) (hs : ¬ Skip us skip (es.getD k Ent.none).sender)
    (hsz : (es.getD k Ent.none).sender.size ≤ maxLen) {v : Value} {base : Nat} (hv : FirstAt base w v (es.getD k Ent.none).msgs) :
    ∃ o, (Instr.mapUpdate 66 (.map (some r)) (.string (es.getD k Ent.none).sender) v).run Try.prog w = .ok () (setBlock w r o) ∧ LogMap (setBlock w r o) r es us skip (k + 1) := by
  obtain ⟨ens, clock, h1, h2, h3, h4⟩ := h
  obtain ⟨ens', clock', hrun, hok, hput⟩ := update_run lawLog Try.underlying66 h1 h2 v (isK_string hsz)
  refine ⟨.map ens' clock', hrun, ens', clock', heap_setBlock h1, hok, fun e he => ?_, fun i hi hn => ?_⟩
  · rcases hput.who e he with ⟨e1, e2⟩ | ⟨e1, e2⟩
    · exact ⟨k, by omega, hs, e1, fun j hij hj => by omega, by rw [e2]; exact hv.setBlock h1⟩
    · obtain ⟨i, a, b, c, d, f⟩ := h3 e e1
      refine ⟨i, by omega, b, c, fun j hij hj => ?_, f.setBlock h1⟩
      by_cases hjk : j = k
      · subst hjk; intro e'; exact e2 (by rw [c, e'])
      · exact d j hij (by omega)
  · by_cases he : (es.getD i Ent.none).sender = (es.getD k Ent.none).sender
    · obtain ⟨e, he1, he2, _⟩ := hput.new
      exact ⟨e, he1, by rw [he2, he]⟩
    · have hik : i ≠ k := fun e => he (by rw [e])
      obtain ⟨e, he1, he2⟩ := h4 i (by omega) hn
      exact ⟨e, hput.kept e he1 (by rw [he2]; intro e'; exact he (by injection e')), he2⟩

/-- A taken entry's key. -/
def stamp (t : Tak) : Value := .agg #[.int .u64 t.clock, .string t.member]
def TakMap (w : World) (r : Nat) (ts : List Tak) (k : Nat) : Prop :=
  ∃ ens clock, w.heap[r]? = some (.map ens clock) ∧ MapOK 47 ens clock ∧
    (∀ e ∈ ens.toList, ∃ i, i < k ∧ e.key = stamp (ts.getD i Tak.none) ∧ e.val = .int .u64 (ts.getD i Tak.none).time ∧ ∀ j, i < j → j < k → stamp (ts.getD j Tak.none) ≠ stamp (ts.getD i Tak.none)) ∧
    (∀ i, i < k → ∃ e ∈ ens.toList, e.key = stamp (ts.getD i Tak.none))

theorem TakMap.below {w w' : World} {r : Nat} {ts : List Tak} {k : Nat} (h : TakMap w r ts k) (hb : Below w.heap.size w w') : TakMap w' r ts k := by
  obtain ⟨ens, clock, h1, h2, h3, h4⟩ := h
  exact ⟨ens, clock, by rw [hb.block r (Array.getElem?_eq_some_iff.1 h1).1]; exact h1, h2, h3, h4⟩

theorem TakMap.put {w : World} {r : Nat} {ts : List Tak} {k : Nat} (h : TakMap w r ts k) (hw : (Lit.int .u64 (ts.getD k Tak.none).clock).wf = true) (hsz : (ts.getD k Tak.none).member.size ≤ maxLen) :
    ∃ o, (Instr.mapUpdate 68 (.map (some r)) (.agg #[.int .u64 (ts.getD k Tak.none).clock, .string (ts.getD k Tak.none).member]) (.int .u64 (ts.getD k Tak.none).time)).run Try.prog w = .ok () (setBlock w r o) ∧ TakMap (setBlock w r o) r ts (k + 1) := by
  obtain ⟨ens, clock, h1, h2, h3, h4⟩ := h
  obtain ⟨ens', clock', hrun, hok, hput⟩ := update_run lawTaken Try.underlying68 h1 h2 (.int .u64 (ts.getD k Tak.none).time) (isK_stamp hw hsz)
  refine ⟨.map ens' clock', hrun, ens', clock', heap_setBlock h1, hok, fun e he => ?_, fun i hi => ?_⟩
  · rcases hput.who e he with ⟨e1, e2⟩ | ⟨e1, e2⟩
    · exact ⟨k, by omega, e1, e2, fun j hij hj => by omega⟩
    · obtain ⟨i, a, c, d, f⟩ := h3 e e1
      refine ⟨i, by omega, c, d, fun j hij hj => ?_⟩
      by_cases hjk : j = k
      · subst hjk; intro e'; exact e2 (by rw [c]; exact e'.symm)
      · exact f j hij (by omega)
  · by_cases hik : i = k
    · obtain ⟨e, he1, he2, _⟩ := hput.new
      exact ⟨e, he1, by rw [he2, hik]; rfl⟩
    · obtain ⟨e, he1, he2⟩ := h4 i (by omega)
      by_cases hk : e.key = .agg #[.int .u64 (ts.getD k Tak.none).clock, .string (ts.getD k Tak.none).member]
      · obtain ⟨e', h1', h2', _⟩ := hput.new
        exact ⟨e', h1', by rw [h2', ← hk, he2]⟩
      · exact ⟨e, hput.kept e he1 hk, he2⟩

theorem LogMap.made {w : World} {r : Nat} (h : w.heap[r]? = some (.map #[] 0)) (es : List Ent) (us : Bool) (skip : ByteArray) : LogMap w r es us skip 0 :=
  ⟨#[], 0, h, MapOK.empty 45, fun e he => by simp at he, fun i hi => by omega⟩
theorem TakMap.made {w : World} {r : Nat} (h : w.heap[r]? = some (.map #[] 0)) (ts : List Tak) : TakMap w r ts 0 :=
  ⟨#[], 0, h, MapOK.empty 47, fun e he => by simp at he, fun i hi => by omega⟩
end Go.Proofs.Qxb6603225a
