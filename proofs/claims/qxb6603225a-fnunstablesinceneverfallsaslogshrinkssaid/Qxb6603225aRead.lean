import Derived.Test.Qxb6603225aFn8
import Derived.ProofKit
import Derived.ChangeOld
import Derived.Deep.Slices
import Derived.Deep.Strs
namespace Go.Proofs.Qxb6603225a
open Go.ChangeShapes Go.WideShapes Go.ChangeAt Go.RowKit

theorem Try.c5 : Try.prog.cellsOf 5 = 1 := by kernel_rfl
theorem Try.c9 : Try.prog.cellsOf 9 = 1 := by kernel_rfl
theorem Try.c24 : Try.prog.cellsOf 24 = 1 := by kernel_rfl
theorem Try.c34 : Try.prog.cellsOf 34 = 1 := by kernel_rfl
theorem Try.c48 : Try.prog.cellsOf 48 = 1 := by kernel_rfl
theorem Try.c38 : Try.prog.cellsOf 38 = 2 := by kernel_rfl
theorem Try.c60 : Try.prog.cellsOf 60 = 3 := by kernel_rfl
theorem Try.c65 : Try.prog.cellsOf 65 = 3 := by kernel_rfl

theorem cells_two {w : World} {base : Nat} {a : Addr} {cs : List Value} (h : w.cells? base a 2 = some cs) : ∃ c0 c1, cs = [c0, c1] ∧ w.cell? a = some c0 ∧ w.cell? (a.add 1) = some c1 := by
  unfold World.cells? at h
  split at h
  · rw [show List.range 2 = [0, 1] from rfl] at h
    simp only [List.mapM_cons, List.mapM_nil, Option.pure_def, Option.bind_eq_bind, Option.bind_eq_some_iff, Option.some.injEq] at h
    obtain ⟨c0, h0, _, ⟨c1, h1, _, rfl, rfl⟩, rfl⟩ := h
    exact ⟨c0, c1, rfl, h0, h1⟩
  · cases h
theorem cells_three {w : World} {base : Nat} {a : Addr} {cs : List Value} (h : w.cells? base a 3 = some cs) : ∃ c0 c1 c2, cs = [c0, c1, c2] ∧ w.cell? a = some c0 ∧ w.cell? (a.add 1) = some c1 ∧ w.cell? (a.add 2) = some c2 := by
  unfold World.cells? at h
  split at h
  · rw [show List.range 3 = [0, 1, 2] from rfl] at h
    simp only [List.mapM_cons, List.mapM_nil, Option.pure_def, Option.bind_eq_bind, Option.bind_eq_some_iff, Option.some.injEq] at h
    obtain ⟨c0, h0, _, ⟨c1, h1, _, ⟨c2, h2, _, rfl, rfl⟩, rfl⟩, rfl⟩ := h
    exact ⟨c0, c1, c2, rfl, h0, h1, h2⟩
  · cases h

theorem spot_none {w : World} {a : Addr} {v : Value} (h : w.cell? a = some v) : a.spot = none := by
  cases hs : a.spot with
  | none => rfl
  | some s => unfold World.cell? at h; rw [hs] at h; split at h <;> simp at h
theorem add_plain (b off k : Nat) : (⟨b, off, none⟩ : Addr).add k = ⟨b, off + k, none⟩ := by unfold Addr.add; split <;> simp_all

section
variable {H : Type} {enc : TypeId × Value → H} {w : World} {sp : Nat → Bool} {held : Bool}

/-- A body. -/
theorem read_body {fuel : Nat} {v : Value} {x : DataW H × List MemPlace} (h : DataW.trod enc Try.prog w 0 sp held fuel 48 [v] = some x) (c : Int) (m : ByteArray) : ∃ a n k, v = .slice a n k ∧ BodyOK w.heap.size w ⟨c, m, a, n, k⟩ := by
  rcases open_ints Try.underlying48 Try.underlying5 Try.c5 h with ⟨hcs, _⟩ | ⟨a, l, cp, zs, hcs, _, hl, hm, hz, _, hcell, _⟩
  · simp only [List.cons.injEq, and_true] at hcs
    exact ⟨none, 0, 0, hcs, fun h0 => by simp at h0⟩
  · simp only [List.cons.injEq, and_true] at hcs
    refine ⟨some a, l, cp, hcs, fun h0 => ?_⟩
    have hzl : l ≤ zs.length := by rw [hz]; split <;> omega
    have h00 := hcell 0 (by simp only at h0; omega)
    have hs := spot_none (a := a) h00
    obtain ⟨b, off, s⟩ := a
    simp only at hs
    subst hs
    refine ⟨b, off, rfl, World.block_lt_of_cell? _ _ h00, fun j hj => ?_⟩
    have := hcell j (by simp only at hj; omega)
    rw [add_plain] at this
    exact ⟨_, this⟩

theorem read_msg {fuel : Nat} {b o : Nat} {cs : List Value} {x : DataW H × List MemPlace} (hc : w.cells? 0 ⟨b, o, none⟩ 3 = some cs) (h : DataW.trod enc Try.prog w 0 sp held fuel 60 cs = some x) :
    ∃ m, MsgAt w.heap.size w b o m ∧ (Lit.int .u64 m.clock).wf = true ∧ m.member.size ≤ maxLen := by
  obtain ⟨c0, c1, c2, rfl, h0, h1, h2⟩ := cells_three hc
  rw [add_plain] at h1 h2
  obtain ⟨y0, y1, y2, n, _, _, t0, t1, t2⟩ := Go.Deep.trod_struct3 Try.underlying60 h
  simp only [Try.c24, Try.c9, Try.c48, List.drop_zero, List.drop_succ_cons, List.take_succ_cons, List.take_zero] at t0 t1 t2
  obtain ⟨a, e0, _, wa⟩ := DataW.trod_int Try.underlying24 t0
  obtain ⟨s, e1, _, ws⟩ := DataW.trod_string Try.underlying9 t1
  obtain ⟨q, ql, qc, e2, hok⟩ := read_body t2 a s
  simp only [List.cons.injEq, and_true] at e0 e1
  subst e0 e1 e2
  exact ⟨⟨a, s, q, ql, qc⟩, ⟨h0, h1, h2, hok⟩, wa, ws⟩

theorem read_tak {fuel : Nat} {b o : Nat} {cs : List Value} {x : DataW H × List MemPlace} (hc : w.cells? 0 ⟨b, o, none⟩ 3 = some cs) (h : DataW.trod enc Try.prog w 0 sp held fuel 65 cs = some x) :
    ∃ t, TakAt w b o t ∧ (Lit.int .u64 t.clock).wf = true ∧ t.member.size ≤ maxLen := by
  obtain ⟨c0, c1, c2, rfl, h0, h1, h2⟩ := cells_three hc
  rw [add_plain] at h1 h2
  obtain ⟨y0, y1, y2, n, _, _, t0, t1, t2⟩ := Go.Deep.trod_struct3 Try.underlying65 h
  simp only [Try.c24, Try.c9, List.drop_zero, List.drop_succ_cons, List.take_succ_cons, List.take_zero] at t0 t1 t2
  obtain ⟨a, e0, _, wa⟩ := DataW.trod_int Try.underlying24 t0
  obtain ⟨s, e1, _, ws⟩ := DataW.trod_string Try.underlying9 t1
  obtain ⟨q, e2, _, _⟩ := DataW.trod_int Try.underlying24 t2
  simp only [List.cons.injEq, and_true] at e0 e1 e2
  subst e0 e1 e2
  exact ⟨⟨a, s, q⟩, ⟨h0, h1, h2⟩, wa, ws⟩

/-- A slice of elements of c cells, each read by p. -/
theorem read_rows {α : Type} (d : α) {t e c : Nat} (ht : Try.prog.underlying t = some (.slice e)) (hc : Try.prog.cellsOf e = c) (hpos : 0 < c) {p : Nat → Nat → α → Prop}
    (hread : ∀ (fuel b o : Nat) (cs : List Value) (x : DataW H × List MemPlace), w.cells? 0 ⟨b, o, none⟩ c = some cs → DataW.trod enc Try.prog w 0 sp held fuel e cs = some x → ∃ m, p b o m)
    {fuel : Nat} {v : Value} {x : DataW H × List MemPlace} (h : DataW.trod enc Try.prog w 0 sp held fuel t [v] = some x) :
    ∃ ao cap ms, v = .slice ao (List.length ms) cap ∧ (0 < ms.length → ∃ b off, ao = some ⟨b, off, none⟩ ∧ b < w.heap.size ∧ ∀ j, j < ms.length → p b (off + j * c) (ms.getD j d)) := by
  rcases Go.Deep.open_slice ht h with ⟨hcs, _⟩ | ⟨a, len, cap, m, n, D, Pl, hcs, _, hl, hm, hmm, _, hel⟩
  · simp only [List.cons.injEq, and_true] at hcs
    exact ⟨none, 0, [], hcs, fun h0 => by simp at h0⟩
  · simp only [List.cons.injEq, and_true] at hcs
    have hlm : len ≤ m := by rw [hmm]; split <;> omega
    by_cases h0 : 0 < len
    · rw [hc] at hel
      obtain ⟨cs0, hc0, _⟩ := hel 0 (by omega)
      have hsome : ∃ v, w.cell? a = some v := by
        rw [Nat.zero_mul, show a.add 0 = a from rfl] at hc0
        unfold World.cells? at hc0
        rw [if_pos (Nat.zero_le _)] at hc0
        cases hv : w.cell? a with
        | some v => exact ⟨v, rfl⟩
        | none =>
          obtain ⟨c', rfl⟩ : ∃ c', c = c' + 1 := ⟨c - 1, by omega⟩
          rw [List.range_succ_eq_map, List.mapM_cons, show a.add 0 = a from rfl, hv] at hc0
          cases hc0
      obtain ⟨v0, hv0⟩ := hsome
      have hs := spot_none hv0
      obtain ⟨b, off, s⟩ := a
      simp only at hs
      subst hs
      obtain ⟨f, hf⟩ := @Go.Deep.choose_lt α ⟨d⟩ len (fun j y => p b (off + j * c) y) (fun j hj => by
        obtain ⟨cs', h1, h2⟩ := hel j (by omega)
        rw [add_plain] at h1
        exact hread n b (off + j * c) cs' _ h1 h2)
      refine ⟨some ⟨b, off, none⟩, cap, (List.range len).map f, by rw [hcs]; simp, fun _ => ⟨b, off, rfl, World.block_lt_of_cell? _ _ hv0, fun j hj => ?_⟩⟩
      have hj' : j < len := by simpa using hj
      have : ((List.range len).map f).getD j d = f j := by
        rw [List.getD, List.getElem?_map, List.getElem?_range hj']
        rfl
      rw [this]
      exact hf j hj'
    · refine ⟨some a, cap, [], ?_, fun h => by simp at h⟩
      rw [hcs]
      simp
      omega

theorem read_ent {fuel : Nat} {b o : Nat} {cs : List Value} {x : DataW H × List MemPlace} (hc : w.cells? 0 ⟨b, o, none⟩ 2 = some cs) (h : DataW.trod enc Try.prog w 0 sp held fuel 38 cs = some x) :
    ∃ e, EntAt w.heap.size w b o e ∧ e.sender.size ≤ maxLen ∧ (∀ m ∈ e.msgs, (Lit.int .u64 m.clock).wf = true) ∧ ∀ m ∈ e.msgs, m.member.size ≤ maxLen := by
  obtain ⟨c0, c1, rfl, h0, h1⟩ := cells_two hc
  rw [add_plain] at h1
  obtain ⟨y0, y1, n, _, _, t0, t1⟩ := trod_struct2 Try.underlying38 h
  simp only [Try.c9, Try.c34, List.drop_zero, List.drop_succ_cons, List.take_succ_cons, List.take_zero] at t0 t1
  obtain ⟨s, e0, _, ws⟩ := DataW.trod_string Try.underlying9 t0
  simp only [List.cons.injEq, and_true] at e0
  subst e0
  obtain ⟨ao, cap, ms, rfl, hms⟩ := read_rows Msg.none Try.underlying34 Try.c60 (by omega) (fun fuel b o cs x h1 h2 => read_msg h1 h2) t1
  refine ⟨⟨s, ao, cap, ms⟩, ⟨h0, h1, fun hp => ?_⟩, ws, fun m hm => ?_, fun m hm => ?_⟩
  · obtain ⟨b', off', e', hb', hj'⟩ := hms hp
    exact ⟨b', off', e', hb', fun j hj => (hj' j hj).1⟩
  · obtain ⟨j, hj, rfl⟩ := List.mem_iff_getElem.1 hm
    obtain ⟨_, _, _, _, hj'⟩ := hms (Nat.lt_of_le_of_lt (Nat.zero_le _) hj)
    have := (hj' j hj).2.1
    rwa [List.getD, List.getElem?_eq_getElem hj] at this
  · obtain ⟨j, hj, rfl⟩ := List.mem_iff_getElem.1 hm
    obtain ⟨_, _, _, _, hj'⟩ := hms (Nat.lt_of_le_of_lt (Nat.zero_le _) hj)
    have := (hj' j hj).2.2
    rwa [List.getD, List.getElem?_eq_getElem hj] at this

theorem read_log {v : Value} {d : DataW H} {ps : List MemPlace} {base : Nat} (hv : Value.okWide Try.prog w .any base 33 v) (h : DataW.Trod enc Try.prog w 0 sp held 33 v d ps) :
    ∃ ao cap es, v = .slice ao (List.length es) cap ∧ LogAt w.heap.size w ao es ∧ (∀ e ∈ es, e.sender.size ≤ maxLen) ∧ (∀ e ∈ es, ∀ m ∈ e.msgs, (Lit.int .u64 m.clock).wf = true) ∧ ∀ e ∈ es, ∀ m ∈ e.msgs, m.member.size ≤ maxLen := by
  obtain ⟨a0, len0, cap0, rfl⟩ := okWide_slice Try.underlying33 hv
  obtain ⟨fuel, hf⟩ := h
  obtain ⟨ao, cap, es, hv', hes⟩ := read_rows Ent.none Try.underlying33 Try.c38 (by omega) (fun fuel b o cs x h1 h2 => read_ent h1 h2) hf
  refine ⟨ao, cap, es, hv', fun hp => ?_, ?_⟩
  · obtain ⟨b', off', e', hb', hj'⟩ := hes hp
    exact ⟨b', off', e', hb', fun j hj => (hj' j hj).1⟩
  · have key : ∀ e ∈ es, e.sender.size ≤ maxLen ∧ (∀ m ∈ e.msgs, (Lit.int .u64 m.clock).wf = true) ∧ ∀ m ∈ e.msgs, m.member.size ≤ maxLen := by
      intro e he
      obtain ⟨j, hj, rfl⟩ := List.mem_iff_getElem.1 he
      obtain ⟨_, _, _, _, hj'⟩ := hes (Nat.lt_of_le_of_lt (Nat.zero_le _) hj)
      have := (hj' j hj).2
      rwa [List.getD, List.getElem?_eq_getElem hj] at this
    exact ⟨fun e he => (key e he).1, fun e he => (key e he).2.1, fun e he => (key e he).2.2⟩

theorem read_taken {v : Value} {d : DataW H} {ps : List MemPlace} {base : Nat} (hv : Value.okWide Try.prog w .any base 52 v) (h : DataW.Trod enc Try.prog w 0 sp held 52 v d ps) :
    ∃ ao cap ts, v = .slice ao (List.length ts) cap ∧ TakenAt w.heap.size w ao ts ∧ (∀ t ∈ ts, (Lit.int .u64 t.clock).wf = true) ∧ ∀ t ∈ ts, t.member.size ≤ maxLen := by
  obtain ⟨a0, len0, cap0, rfl⟩ := okWide_slice Try.underlying52 hv
  obtain ⟨fuel, hf⟩ := h
  obtain ⟨ao, cap, ts, hv', hes⟩ := read_rows Tak.none Try.underlying52 Try.c65 (by omega) (fun fuel b o cs x h1 h2 => read_tak h1 h2) hf
  refine ⟨ao, cap, ts, hv', fun hp => ?_, ?_⟩
  · obtain ⟨b', off', e', hb', hj'⟩ := hes hp
    exact ⟨b', off', e', hb', fun j hj => (hj' j hj).1⟩
  · have key : ∀ t ∈ ts, (Lit.int .u64 t.clock).wf = true ∧ t.member.size ≤ maxLen := by
      intro e he
      obtain ⟨j, hj, rfl⟩ := List.mem_iff_getElem.1 he
      obtain ⟨_, _, _, _, hj'⟩ := hes (Nat.lt_of_le_of_lt (Nat.zero_le _) hj)
      have := (hj' j hj).2
      rwa [List.getD, List.getElem?_eq_getElem hj] at this
    exact ⟨fun e he => (key e he).1, fun e he => (key e he).2⟩
end
end Go.Proofs.Qxb6603225a
