import Derived.Test.Qxb6603225aFn3
import Derived.ProofKit
import Derived.ChangeOld
import Derived.SliceStrings
namespace Go.Proofs.Qxb6603225a.fnJoinIDsIsSortedMaxUnion
open Go.ChangeShapes Go.WideShapes Go.ChangeAt Go.RowKit
set_option linter.unusedVariables false

theorem own : ownKnob Try.prog.godebug = none := by kernel_rfl
theorem laidOut : laidOutB Try.prog = true := by kernel_rfl

/-- An argument's reading as a slice of strings. -/
theorem reads {H : Type} {enc : TypeId × Value → H} {W : World} {v : Value} {d : DataW H} {ps : List MemPlace} {base : Nat}
    (hv : Value.okWide Try.prog W .any base 22 v) (h : DataW.Trod enc Try.prog W 0 (fun _ => true) true 22 v d ps) : ∃ xs, Strs W.heap.size W v xs := by
  obtain ⟨a0, len0, cap0, rfl⟩ := okWide_slice Try.underlying22 hv
  obtain ⟨fuel, hf⟩ := h
  have hlt := DataW.trod_lt fuel _ _ _ hf
  rcases open_strings Try.underlying22 Try.underlying9 (by kernel_rfl) hf with ⟨hcs, _⟩ | ⟨x, l, c, ss, hcs, _, hl, hm, hz, hx, hcell, hwz⟩
  · simp [Value.cells] at hcs
    obtain ⟨rfl, rfl, rfl⟩ := hcs
    exact ⟨[], none, 0, rfl, Nat.le_refl _, fun h => by simp at h⟩
  · simp [Value.cells] at hcs
    obtain ⟨rfl, rfl, rfl⟩ := hcs
    simp only [if_true] at hz
    have hlen : (ss.take len0).length = len0 := by rw [List.length_take]; omega
    refine ⟨ss.take len0, some x, cap0, by rw [hlen], by omega, fun h0 => ?_⟩
    have hc0 := hcell 0 (by omega)
    have hadd0 : x.add 0 = x := rfl
    rw [hadd0] at hc0
    obtain ⟨b, off, sp⟩ := x
    have hsp : sp = none := by
      cases sp with
      | none => rfl
      | some s => simp [World.cell?] at hc0; split at hc0 <;> simp at hc0
    subst hsp
    refine ⟨b, off, rfl, World.block_lt_of_cell? _ _ hc0, fun j hj => ?_⟩
    have hj' : j < ss.length := by omega
    have := hcell j hj'
    rw [show (⟨b, off, none⟩ : Addr).add j = ⟨b, off + j, none⟩ by unfold Addr.add; split <;> simp_all] at this
    rw [this]
    have hjl : j < len0 := by omega
    simp [List.getD, hjl]

set_option maxRecDepth 100000 in
theorem lifted (os : Os) (started : os.Started) (H : Type) (enc : TypeId × Value → H) :
    ReturnsInHanded {} Try.checked os 3 .any (Rows.fnJoinIDsIsSortedMaxUnionSpec.pre6 enc Try.prog Try.f3 Rows.fnJoinIDsIsSortedMaxUnionRow.domain false) (Rows.fnJoinIDsIsSortedMaxUnionSpec.post enc Try.prog Try.f3 false true false false) := by
  refine returnsInHanded_of_change (C := Try.checked) own started (by kernel_rfl) Try.func3
    (ChangeSpec.witness6 (enc := enc) (C := Try.checked) false ⟨#[], #[.slice none 0 0, .slice none 0 0], []⟩ 8 (by kernel_rfl) (by kernel_rfl) (by kernel_rfl) (by kernel_rfl)) ?_
  intro W base args ds gs before hval0 hW hcnd _
  have hval : ∀ (j : Nat) t v, Try.f3.params[j]? = some t → args[j]? = some v → Value.okWide Try.prog W .any base t v := hval0
  have hW' := hW
  obtain ⟨p, q, hA0, hV, rfl, hfz, hnd⟩ := hW
  have hA : DataW.TrodAll enc Try.prog W 0 (fun _ => true) true Try.f3.params.toList args.toList ds p := hA0
  rw [Try.params3] at hA hval
  obtain ⟨v0, vs0, d0, ds0, p0, q0, hargs, rfl, rfl, h0, r0⟩ := trodAll_cons hA
  obtain ⟨v1, vs1, d1, ds1, p1, q1, rfl, rfl, rfl, h1, r1⟩ := trodAll_cons r0
  obtain ⟨rfl, rfl, rfl⟩ := trodAll_nil r1
  obtain rfl : args = #[v0, v1] := by cases args; simp_all
  obtain ⟨rfl, rfl⟩ := trodVars_none hV
  have k0 := h0
  have lt0 : ∀ x ∈ p0, x.block < W.heap.size := by obtain ⟨m, hm⟩ := k0; exact DataW.trod_lt m _ _ _ hm
  have k1 := h1
  have lt1 : ∀ x ∈ p1, x.block < W.heap.size := by obtain ⟨m, hm⟩ := k1; exact DataW.trod_lt m _ _ _ hm
  obtain ⟨A, hSA⟩ := reads (hval 0 22 v0 rfl rfl) h0
  obtain ⟨B, hSB⟩ := reads (hval 1 22 v1 rfl rfl) h1
  clear hA0 hval0
  refine (fn3 v0 v1 A B W hSA hSB).mono fun e W' ⟨he, bel⟩ => ?_
  subst he
  exact ⟨_, rfl, _, _, _, [], _, [], hW', trodAll_mk1 (shut_bool Try.underlying4 _), (trodAll_mk2 (Below.trod laidOut (by kernel_rfl) (of_decide_eq_true (by kernel_rfl)) k0 bel lt0) (Below.trod laidOut (by kernel_rfl) (of_decide_eq_true (by kernel_rfl)) k1 bel lt1)), rfl, bel.frame _, fun h => by cases h⟩

theorem over : Rows.fnJoinIDsIsSortedMaxUnionRow.holds Try.pinned (OpenSpec.ofChange Rows.fnJoinIDsIsSortedMaxUnionSpec) :=
  OpenClaim.holds_of_wide 3 Try.f3 rfl rfl rfl rfl rfl rfl rfl ⟨rfl, rfl, rfl, rfl, rfl⟩ rfl rfl rfl rfl rfl (by kernel_rfl) Try.func3 (by kernel_rfl)
    (of_decide_eq_true (by kernel_rfl)) (by unfold Func.isWrapper; first | (rw [if_pos (by decide +kernel)]; kernel_rfl) | (rw [if_neg (by decide +kernel)]; exact ⟨rfl, rfl⟩))
    (fun os started H enc _ => lifted os started H enc)

/-- THE STATEMENT -/
theorem proved : Rows.FnJoinIDsIsSortedMaxUnionSaid := over
end Go.Proofs.Qxb6603225a.fnJoinIDsIsSortedMaxUnion
