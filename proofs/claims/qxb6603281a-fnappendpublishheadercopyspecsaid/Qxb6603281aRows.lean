/-
  No cell of these rows narrows 'for every input' (looked for: loops, veiled, ifaces, maps, wideKeys, modest, calm, conditions, laid).
  DERIVED. THE GIVEN ROWS OF THIS SEAT. 6 by the template 'for every input the law returns true; each argument reads behind the call as it read before'; 0 by the template 'total and deterministic' (their statements: Qxb6603281aTotals.lean).
  GIVEN WITH THE SEED: the statements are not yours to turn. If you find one false, say at which input.
  Laid BY PROGRAM, IN A SANDBOX (cutbox-rows.mjs): the forced cells as the released guide's own fill.sh prints them over the translation d96639633555892f… (all of the seat's roots in one cut). By AI agents, Wed Nov 11 2026. No macro, syntax, notation, axiom, sorry.
-/
import Derived.Test.Qxb6603281aChecked
import GoSem.Claim
import GoSem.ClaimJoined
import GoSem.ClaimMapViews
import Derived.JoinedTies
import Derived.KernelRfl
namespace Go.Proofs.Qxb6603281a
/- THE CELL 'sum', in the pinned program and in every row, IS THE sha256 OF THE DUMP (.gsa) THAT Qxb6603281aProg.lean LOADS. Nothing in Lean hashes anything: it is a label: what it is worth is what the hold of that sum in a sandbox is worth. -/
noncomputable def Try.pinned : Pinned := { name := "qxb6603281a", sum := "d96639633555892fe34e3d319406a85c565a7f66fa8c0d50a1d665bc6b8ba36d", checked := Try.checked }
namespace Rows
def none {H : Type} : Left H := { results := [], args := [] }

/-- 'zzlaws_internal_mqtt_b1.FnFilterCoversAntisymmetric': WHATEVER THE INPUT: true; the input reads as it did. -/
def fnFilterCoversAntisymmetricSpec : ChangeSpec := { name := "fnFilterCoversAntisymmetric", fn := fun _ => fun
  | [d1, d2] => { results := [.lit (.bool true)], args := [d1, d2] }
  | _ => none }
def fnFilterCoversAntisymmetricRow : OpenClaim := { program := "qxb6603281a", sum := "d96639633555892fe34e3d319406a85c565a7f66fa8c0d50a1d665bc6b8ba36d", func := "example.com/hermod/hermod/zzlaws_internal_mqtt_b1.FnFilterCoversAntisymmetric", spec := "fnFilterCoversAntisymmetric", inPlace := ["internal/bytealg.IndexByteString", "internal/bytealg.IndexString"], named := ["internal/bytealg.MaxLen"], apart := false }
def FnFilterCoversAntisymmetricSaid : Prop := fnFilterCoversAntisymmetricRow.holds Try.pinned (OpenSpec.ofChange fnFilterCoversAntisymmetricSpec)

/-- ITS FALSE NEIGHBOUR: 'it returns false'. Refute it at one input. -/
def fnFilterCoversAntisymmetricWrong : ChangeSpec := { name := "fnFilterCoversAntisymmetric", fn := fun _ => fun
  | [d1, d2] => { results := [.lit (.bool false)], args := [d1, d2] }
  | _ => none }
def FnFilterCoversAntisymmetricWrongFalsely : Prop := fnFilterCoversAntisymmetricRow.holds Try.pinned (OpenSpec.ofChange fnFilterCoversAntisymmetricWrong)

/-- 'zzlaws_internal_mqtt_b1.FnFilterCoversTransitive': WHATEVER THE INPUT: true; the input reads as it did. -/
def fnFilterCoversTransitiveSpec : ChangeSpec := { name := "fnFilterCoversTransitive", fn := fun _ => fun
  | [d1, d2, d3] => { results := [.lit (.bool true)], args := [d1, d2, d3] }
  | _ => none }
def fnFilterCoversTransitiveRow : OpenClaim := { program := "qxb6603281a", sum := "d96639633555892fe34e3d319406a85c565a7f66fa8c0d50a1d665bc6b8ba36d", func := "example.com/hermod/hermod/zzlaws_internal_mqtt_b1.FnFilterCoversTransitive", spec := "fnFilterCoversTransitive", inPlace := ["internal/bytealg.IndexByteString", "internal/bytealg.IndexString"], named := ["internal/bytealg.MaxLen"], apart := false }
def FnFilterCoversTransitiveSaid : Prop := fnFilterCoversTransitiveRow.holds Try.pinned (OpenSpec.ofChange fnFilterCoversTransitiveSpec)

/-- ITS FALSE NEIGHBOUR: 'it returns false'. Refute it at one input. -/
def fnFilterCoversTransitiveWrong : ChangeSpec := { name := "fnFilterCoversTransitive", fn := fun _ => fun
  | [d1, d2, d3] => { results := [.lit (.bool false)], args := [d1, d2, d3] }
  | _ => none }
def FnFilterCoversTransitiveWrongFalsely : Prop := fnFilterCoversTransitiveRow.holds Try.pinned (OpenSpec.ofChange fnFilterCoversTransitiveWrong)

/-- 'zzlaws_internal_mqtt_b1.FnValidTopicFilterSpec': WHATEVER THE INPUT: true; the input reads as it did. -/
def fnValidTopicFilterSpecSpec : ChangeSpec := { name := "fnValidTopicFilterSpec", fn := fun _ => fun
  | [d] => { results := [.lit (.bool true)], args := [d] }
  | _ => none }
def fnValidTopicFilterSpecRow : OpenClaim := { program := "qxb6603281a", sum := "d96639633555892fe34e3d319406a85c565a7f66fa8c0d50a1d665bc6b8ba36d", func := "example.com/hermod/hermod/zzlaws_internal_mqtt_b1.FnValidTopicFilterSpec", spec := "fnValidTopicFilterSpec", inPlace := ["internal/bytealg.IndexByteString", "internal/bytealg.IndexString"], named := ["internal/bytealg.MaxLen"], apart := false }
def FnValidTopicFilterSpecSaid : Prop := fnValidTopicFilterSpecRow.holds Try.pinned (OpenSpec.ofChange fnValidTopicFilterSpecSpec)

/-- ITS FALSE NEIGHBOUR: 'it returns false'. Refute it at one input. -/
def fnValidTopicFilterSpecWrong : ChangeSpec := { name := "fnValidTopicFilterSpec", fn := fun _ => fun
  | [d] => { results := [.lit (.bool false)], args := [d] }
  | _ => none }
def FnValidTopicFilterSpecWrongFalsely : Prop := fnValidTopicFilterSpecRow.holds Try.pinned (OpenSpec.ofChange fnValidTopicFilterSpecWrong)

/-- 'zzlaws_internal_mqtt_b1.FnValidTopicFilterSplitsAtSlash': WHATEVER THE INPUT: true; the input reads as it did. -/
def fnValidTopicFilterSplitsAtSlashSpec : ChangeSpec := { name := "fnValidTopicFilterSplitsAtSlash", fn := fun _ => fun
  | [d1, d2] => { results := [.lit (.bool true)], args := [d1, d2] }
  | _ => none }
def fnValidTopicFilterSplitsAtSlashRow : OpenClaim := { program := "qxb6603281a", sum := "d96639633555892fe34e3d319406a85c565a7f66fa8c0d50a1d665bc6b8ba36d", func := "example.com/hermod/hermod/zzlaws_internal_mqtt_b1.FnValidTopicFilterSplitsAtSlash", spec := "fnValidTopicFilterSplitsAtSlash", inPlace := ["internal/bytealg.IndexByteString", "internal/bytealg.IndexString"], named := ["internal/bytealg.MaxLen"], apart := false }
def FnValidTopicFilterSplitsAtSlashSaid : Prop := fnValidTopicFilterSplitsAtSlashRow.holds Try.pinned (OpenSpec.ofChange fnValidTopicFilterSplitsAtSlashSpec)

/-- ITS FALSE NEIGHBOUR: 'it returns false'. Refute it at one input. -/
def fnValidTopicFilterSplitsAtSlashWrong : ChangeSpec := { name := "fnValidTopicFilterSplitsAtSlash", fn := fun _ => fun
  | [d1, d2] => { results := [.lit (.bool false)], args := [d1, d2] }
  | _ => none }
def FnValidTopicFilterSplitsAtSlashWrongFalsely : Prop := fnValidTopicFilterSplitsAtSlashRow.holds Try.pinned (OpenSpec.ofChange fnValidTopicFilterSplitsAtSlashWrong)

/-- 'zzlaws_internal_mqtt_b1.FnAppendPublishHeaderCopySpec': WHATEVER THE INPUT: true; the input reads as it did. -/
def fnAppendPublishHeaderCopySpecSpec : ChangeSpec := { name := "fnAppendPublishHeaderCopySpec", fn := fun _ => fun
  | [d1, d2, d3, d4, d5] => { results := [.lit (.bool true)], args := [d1, d2, d3, d4, d5] }
  | _ => none }
def fnAppendPublishHeaderCopySpecRow : OpenClaim := { program := "qxb6603281a", sum := "d96639633555892fe34e3d319406a85c565a7f66fa8c0d50a1d665bc6b8ba36d", func := "example.com/hermod/hermod/zzlaws_internal_mqtt_b1.FnAppendPublishHeaderCopySpec", spec := "fnAppendPublishHeaderCopySpec", apart := false }
def FnAppendPublishHeaderCopySpecSaid : Prop := fnAppendPublishHeaderCopySpecRow.holds Try.pinned (OpenSpec.ofChange fnAppendPublishHeaderCopySpecSpec)

/-- ITS FALSE NEIGHBOUR: 'it returns false'. Refute it at one input. -/
def fnAppendPublishHeaderCopySpecWrong : ChangeSpec := { name := "fnAppendPublishHeaderCopySpec", fn := fun _ => fun
  | [d1, d2, d3, d4, d5] => { results := [.lit (.bool false)], args := [d1, d2, d3, d4, d5] }
  | _ => none }
def FnAppendPublishHeaderCopySpecWrongFalsely : Prop := fnAppendPublishHeaderCopySpecRow.holds Try.pinned (OpenSpec.ofChange fnAppendPublishHeaderCopySpecWrong)

/-- 'zzlaws_internal_mqtt_b1.FnAppendPublishHeaderCopyRecopy': WHATEVER THE INPUT: true; the input reads as it did. -/
def fnAppendPublishHeaderCopyRecopySpec : ChangeSpec := { name := "fnAppendPublishHeaderCopyRecopy", fn := fun _ => fun
  | [d1, d2, d3, d4, d5, d6, d7] => { results := [.lit (.bool true)], args := [d1, d2, d3, d4, d5, d6, d7] }
  | _ => none }
def fnAppendPublishHeaderCopyRecopyRow : OpenClaim := { program := "qxb6603281a", sum := "d96639633555892fe34e3d319406a85c565a7f66fa8c0d50a1d665bc6b8ba36d", func := "example.com/hermod/hermod/zzlaws_internal_mqtt_b1.FnAppendPublishHeaderCopyRecopy", spec := "fnAppendPublishHeaderCopyRecopy", apart := false }
def FnAppendPublishHeaderCopyRecopySaid : Prop := fnAppendPublishHeaderCopyRecopyRow.holds Try.pinned (OpenSpec.ofChange fnAppendPublishHeaderCopyRecopySpec)

/-- ITS FALSE NEIGHBOUR: 'it returns false'. Refute it at one input. -/
def fnAppendPublishHeaderCopyRecopyWrong : ChangeSpec := { name := "fnAppendPublishHeaderCopyRecopy", fn := fun _ => fun
  | [d1, d2, d3, d4, d5, d6, d7] => { results := [.lit (.bool false)], args := [d1, d2, d3, d4, d5, d6, d7] }
  | _ => none }
def FnAppendPublishHeaderCopyRecopyWrongFalsely : Prop := fnAppendPublishHeaderCopyRecopyRow.holds Try.pinned (OpenSpec.ofChange fnAppendPublishHeaderCopyRecopyWrong)

end Rows
end Go.Proofs.Qxb6603281a
