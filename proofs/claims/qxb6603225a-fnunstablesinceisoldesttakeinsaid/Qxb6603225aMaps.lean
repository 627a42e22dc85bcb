import Derived.Test.Qxb6603225aMsg
import Derived.Maps.RangeRun
import Derived.Maps.Keyed
import Derived.DeepKeys4
namespace Go.Proofs.Qxb6603225a
open Go.RowKit Go.Maps
open Go.ChangeMaps (setBlock)

/-- A key that the reader reads. -/
def IsK (k : TypeId) (v : Value) : Prop := ∃ l, keyOf Try.prog k v = some l

/-- A map that was only stored into: its entries' stamps are their places; no key stands twice. -/
structure MapOK (k : TypeId) (es : Array MapEntry) (clock : Nat) : Prop where
  clock : clock = es.size
  born : ∀ i (h : i < es.size), es[i].born = i
  keys : ∀ e ∈ es.toList, IsK k e.key
  uniq : ∀ i j (hi : i < es.size) (hj : j < es.size), es[i].key = es[j].key → i = j

theorem MapOK.empty (k : TypeId) : MapOK k #[] 0 := ⟨rfl, fun i h => by simp at h, fun e he => by simp at he, fun i j h => by simp at h⟩

theorem MapOK.old {k : TypeId} {es : Array MapEntry} {clock : Nat} (h : MapOK k es clock) : ∀ x ∈ es.toList, x.born < clock := by
  intro x hx
  obtain ⟨i, hi, rfl⟩ := List.mem_iff_getElem.1 hx
  have := h.born i (by simpa using hi)
  rw [h.clock]
  simp only [Array.getElem_toList] at *
  have hi' : i < es.size := by simpa using hi
  omega

theorem MapOK.nodup {k : TypeId} {es : Array MapEntry} {clock : Nat} (h : MapOK k es clock) : (es.toList.map (·.born)).Nodup := by
  rw [List.nodup_iff_pairwise_ne, List.pairwise_map, List.pairwise_iff_getElem]
  intro i j hi hj hij
  have h1 := h.born i (by simpa using hi)
  have h2 := h.born j (by simpa using hj)
  simp only [Array.getElem_toList]
  omega

/-- What a store at key x of value v makes of the entries. -/
structure Put (es es' : Array MapEntry) (x v : Value) : Prop where
  who : ∀ e ∈ es'.toList, (e.key = x ∧ e.val = v) ∨ (e ∈ es.toList ∧ e.key ≠ x)
  new : ∃ e ∈ es'.toList, e.key = x ∧ e.val = v
  kept : ∀ e ∈ es.toList, e.key ≠ x → e ∈ es'.toList

theorem update_run {k T E : TypeId} (K : Keyed Try.prog k) (ht : Try.prog.underlying T = some (.map k E)) {w : World} {b : Nat} {es : Array MapEntry} {clock : Nat} (hb : w.heap[b]? = some (.map es clock))
    (ok : MapOK k es clock) {x : Value} (v : Value) (hx : IsK k x) :
    ∃ es' clock', (Instr.mapUpdate T (.map (some b)) x v).run Try.prog w = .ok () (setBlock w b (.map es' clock')) ∧ MapOK k es' clock' ∧ Put es es' x v := by
  obtain ⟨l, hl⟩ := hx
  rcases K.find w hl es.toList ok.keys with ⟨h1, h2⟩ | ⟨j, e0, h1, h2, h3⟩
  · refine ⟨es.push ⟨x, v, clock⟩, clock + 1, ?_, ⟨by simp [ok.clock], ?_, ?_, ?_⟩, ⟨?_, ?_, ?_⟩⟩
    · simp [Instr.mapUpdate, run_underlying ht, MapKept.run_getObj_map hb, K.check w false hl, h1, MapKept.run_setObj_map _ hb, Result.andThen, setBlock]
    · intro i hi
      rw [Array.getElem_push]
      split
      · exact ok.born i _
      · have := ok.clock; simp at hi; simp; omega
    · intro e he
      simp only [Array.toList_push, List.mem_append, List.mem_singleton] at he
      rcases he with he | rfl
      · exact ok.keys e he
      · exact ⟨l, hl⟩
    · intro i j hi hj he
      rw [Array.getElem_push, Array.getElem_push] at he
      simp at hi hj
      split at he <;> split at he
      · exact ok.uniq i j _ _ he
      · rename_i hi' _
        exact absurd he (h2 _ (by simp))
      · rename_i _ hj'
        exact absurd he.symm (h2 _ (by simp))
      · omega
    · intro e he
      simp only [Array.toList_push, List.mem_append, List.mem_singleton] at he
      rcases he with he | rfl
      · exact Or.inr ⟨he, h2 e he⟩
      · exact Or.inl ⟨rfl, rfl⟩
    · exact ⟨⟨x, v, clock⟩, by simp, rfl, rfl⟩
    · intro e he _
      simp only [Array.toList_push, List.mem_append]
      exact Or.inl he
  · have hjl : j < es.size := by simpa using (List.getElem?_eq_some_iff.1 h2).1
    have hj : es[j]? = some e0 := by simpa using h2
    have hje : es[j] = e0 := by rw [Array.getElem?_eq_getElem hjl] at hj; exact Option.some.inj hj
    have hget : ∀ i (hi : i < (es.modify j fun e => { e with key := x, val := v }).size), (es.modify j fun e => { e with key := x, val := v })[i] = if j = i then { e0 with key := x, val := v } else es[i]'(by simpa using hi) := by
      intro i hi
      rw [Array.getElem_modify]
      split
      · rename_i hji; subst hji; rw [hje]
      · rfl
    have hmem : ∀ e ∈ (es.modify j fun e => { e with key := x, val := v }).toList, e = { e0 with key := x, val := v } ∨ ∃ i, ∃ hi : i < es.size, j ≠ i ∧ e = es[i] := by
      intro e he
      obtain ⟨i, hi, rfl⟩ := List.mem_iff_getElem.1 he
      rw [Array.getElem_toList, hget i (by simpa using hi)]
      split
      · exact Or.inl rfl
      · rename_i hji; exact Or.inr ⟨i, by simpa using hi, hji, rfl⟩
    refine ⟨es.modify j fun e => { e with key := x, val := v }, clock, ?_, ⟨by simpa using ok.clock, ?_, ?_, ?_⟩, ⟨?_, ?_, ?_⟩⟩
    · simp [Instr.mapUpdate, run_underlying ht, MapKept.run_getObj_map hb, K.check w false hl, h1, hj, h3, K.stays w hl, MapKept.run_setObj_map _ hb, Result.andThen, setBlock]
    · intro i hi
      rw [hget i hi]
      split
      · rename_i hji; subst hji; rw [← hje]; exact ok.born j hjl
      · exact ok.born i _
    · intro e he
      rcases hmem e he with rfl | ⟨i, hi, _, rfl⟩
      · exact ⟨l, hl⟩
      · exact ok.keys _ (by simp)
    · intro i i' hi hi' he
      rw [hget i hi, hget i' hi'] at he
      split at he <;> split at he
      · omega
      · rename_i h4 h5
        exact absurd (ok.uniq j i' hjl (by simpa using hi') (by rw [hje, h3]; exact he)) h5
      · rename_i h4 h5
        exact absurd (ok.uniq j i hjl (by simpa using hi) (by rw [hje, h3]; exact he.symm)) h4
      · exact ok.uniq i i' _ _ he
    · intro e he
      rcases hmem e he with rfl | ⟨i, hi, hne, rfl⟩
      · exact Or.inl ⟨rfl, rfl⟩
      · exact Or.inr ⟨by simp, fun hk => hne (ok.uniq j i hjl hi (by rw [hje, h3, hk]))⟩
    · refine ⟨{ e0 with key := x, val := v }, ?_, rfl, rfl⟩
      rw [List.mem_iff_getElem]
      exact ⟨j, by simpa using hjl, by rw [Array.getElem_toList, hget j (by simpa using hjl), if_pos rfl]⟩
    · intro e he hne
      obtain ⟨i, hi, rfl⟩ := List.mem_iff_getElem.1 he
      have hji : j ≠ i := by
        intro h4
        subst h4
        apply hne
        rw [Array.getElem_toList, hje, h3]
      rw [List.mem_iff_getElem]
      exact ⟨i, by simpa using hi, by rw [Array.getElem_toList, hget i (by simpa using hi), if_neg hji, Array.getElem_toList]⟩

theorem lookup_run {k T E : TypeId} (K : Keyed Try.prog k) (ht : Try.prog.underlying T = some (.map k E)) {z : Value} (hz : ∀ w, (zeroValue E).run Try.prog w = .ok z w) {w : World} {b : Nat} {es : Array MapEntry} {clock : Nat} (hb : w.heap[b]? = some (.map es clock))
    (ok : MapOK k es clock) {x : Value} (hx : IsK k x) :
    (∃ e ∈ es.toList, e.key = x ∧ (Instr.lookup T (.map (some b)) x true).run Try.prog w = .ok (.tuple #[e.val, .bool true]) w) ∨
    ((∀ e ∈ es.toList, e.key ≠ x) ∧ (Instr.lookup T (.map (some b)) x true).run Try.prog w = .ok (.tuple #[z, .bool false]) w) := by
  obtain ⟨l, hl⟩ := hx
  rcases K.find w hl es.toList ok.keys with ⟨h1, h2⟩ | ⟨j, e0, h1, h2, h3⟩
  · right
    refine ⟨h2, ?_⟩
    simp [Instr.lookup, run_underlying ht, MapKept.run_getObj_map hb, K.check w _ hl, h1, hz, Result.andThen]
  · left
    refine ⟨e0, List.mem_of_getElem? h2, h3, ?_⟩
    simp [Instr.lookup, run_underlying ht, MapKept.run_getObj_map hb, K.check w _ hl, h1, Result.andThen]

theorem lookup_nil {k T E : TypeId} (K : Keyed Try.prog k) (ht : Try.prog.underlying T = some (.map k E)) {z : Value} (hz : ∀ w, (zeroValue E).run Try.prog w = .ok z w) (w : World) {x : Value} (hx : IsK k x) :
    (Instr.lookup T (.map none) x true).run Try.prog w = .ok (.tuple #[z, .bool false]) w := by
  obtain ⟨l, hl⟩ := hx
  rcases K.find w hl [] (by simp) with ⟨h1, h2⟩ | ⟨j, e0, h1, h2, h3⟩
  · simp [Instr.lookup, run_underlying ht, K.check w _ hl, h1, hz, Result.andThen]
  · simp at h2

/-! ### The two maps' keys -/
theorem Try.laidOut' : laidOutB Try.prog = true := by kernel_rfl
theorem lawLog : Keyed Try.prog 45 := string_keyed Try.underlying45
theorem lawTaken : Keyed Try.prog 47 := Keyed.of_law (deep_law_laid Try.laidOut' (m := 3) (by omega) (of_decide_eq_true (by kernel_rfl)) (by kernel_rfl) (by kernel_rfl))
theorem zeroTaken (w : World) : (zeroValue 44).run Try.prog w = .ok (.int .u64 0) w := by kernel_rfl
theorem isK_string {s : ByteArray} (h : s.size ≤ maxLen) : IsK 45 (.string s) := ⟨.string s.data.toList, by simp [keyOf, Try.underlying45, mapKey, h]⟩
theorem Try.cells44 : Try.prog.cellsOf 44 = 1 := by kernel_rfl
theorem Try.cells45 : Try.prog.cellsOf 45 = 1 := by kernel_rfl
theorem Try.cells47 : Try.prog.cellsOf 47 = 2 := by kernel_rfl
theorem Try.keyType47 : Try.prog.keyType 47 = true := by kernel_rfl
theorem keyOf_two {P : Program} {k a b : TypeId} {f0 f1 : Field} {n : Nat} (hu : P.underlying k = some (.struct #[f0, f1])) (hk : P.keyType k = true) (hc : P.cellsOf k = 2) (hn : P.types.size = n + 1)
    (n0 : (f0.name != "_") = true) (n1 : (f1.name != "_") = true) (t0 : f0.type = a) (t1 : f1.type = b) (o0 : f0.offset = 0) (o1 : f1.offset = 1)
    (ha : P.underlying a = some (.int .u64)) (hb : P.underlying b = some .string) (ca : P.cellsOf a = 1) (cb : P.cellsOf b = 1)
    {c : Int} {m : ByteArray} (hw : (Lit.int .u64 c).wf = true) (hm : m.size ≤ maxLen) : keyOf P k (.agg #[.int .u64 c, .string m]) = some (.string (keyBytes [.int .u64 c, .string m.data.toList])) := by
  have e0 : P.keyLits (n + 1) a [.int .u64 c] = some [.int .u64 c] := by simp [Program.keyLits, ha, hw]
  have e1 : P.keyLits (n + 1) b [.string m] = some [.string m.data.toList] := by simp [Program.keyLits, hb, hm]
  have e2 : P.keyLits (n + 1 + 1) k [.int .u64 c, .string m] = some [.int .u64 c, .string m.data.toList] := by
    unfold Program.keyLits
    simp only [hu]
    simp [hc, n0, n1, t0, t1, o0, o1, ca, cb, e0, e1]
  have e3 : (Value.agg #[.int .u64 c, .string m]).formed P k = true := by simp [Value.formed, hu, hc]
  unfold keyOf
  simp only [hu, hk, e3, hn]
  simp only [Bool.and_self, if_true]
  show ((P.keyLits (n + 1 + 1) k [.int .u64 c, .string m]).map fun ls => Lit.string (keyBytes ls)) = _
  rw [e2]
  rfl
theorem Try.typesSize : Try.prog.types.size = 112 + 1 := by kernel_rfl
theorem isK_stamp {c : Int} {m : ByteArray} (hc : (Lit.int .u64 c).wf = true) (h : m.size ≤ maxLen) : IsK 47 (.agg #[.int .u64 c, .string m]) :=
  ⟨_, keyOf_two Try.underlying47 Try.keyType47 Try.cells47 Try.typesSize (by decide) (by decide) rfl rfl rfl rfl Try.underlying44 Try.underlying45 Try.cells44 Try.cells45 hc h⟩
end Go.Proofs.Qxb6603225a
