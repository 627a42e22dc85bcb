import Derived.Test.Qxb6603225aRows
import Derived.WalkKit
import Derived.WalkSpells
import Derived.WalkLawsBesides
import Derived.BigQuiet
import Derived.Deep.QuietTactic
namespace Go.Proofs.Qxb6603225a
open Go.RowKit

/-- An LMsg as data: its clock, its member, its body's slice. -/
structure Msg where
  clock : Int
  member : ByteArray
  ba : Option Addr
  bl : Nat
  bc : Nat
def Msg.none : Msg := ⟨0, ByteArray.empty, Option.none, 0, 0⟩
/-- An LEntry. -/
structure Ent where
  sender : ByteArray
  ma : Option Addr
  mc : Nat
  msgs : List Msg
def Ent.none : Ent := ⟨ByteArray.empty, Option.none, 0, []⟩
/-- An LTaken. -/
structure Tak where
  clock : Int
  member : ByteArray
  time : Int
def Tak.none : Tak := ⟨0, ByteArray.empty, 0⟩

/-- The bytes of a body lie in memory, below block B. -/
def BodyOK (B : Nat) (w : World) (m : Msg) : Prop := 0 < m.bl → ∃ b off, m.ba = some ⟨b, off, Option.none⟩ ∧ b < B ∧ ∀ j, j < m.bl → ∃ u : Int, w.cell? ⟨b, off + j, Option.none⟩ = some (.int .u8 u)
structure MsgAt (B : Nat) (w : World) (b o : Nat) (m : Msg) : Prop where
  clock : w.cell? ⟨b, o, Option.none⟩ = some (.int .u64 m.clock)
  member : w.cell? ⟨b, o + 1, Option.none⟩ = some (.string m.member)
  body : w.cell? ⟨b, o + 2, Option.none⟩ = some (.slice m.ba m.bl m.bc)
  ok : BodyOK B w m
def MsgsAt (B : Nat) (w : World) (ao : Option Addr) (ms : List Msg) : Prop := 0 < ms.length → ∃ b off, ao = some ⟨b, off, Option.none⟩ ∧ b < B ∧ ∀ j, j < ms.length → MsgAt B w b (off + j * 3) (ms.getD j Msg.none)
structure EntAt (B : Nat) (w : World) (b o : Nat) (e : Ent) : Prop where
  sender : w.cell? ⟨b, o, Option.none⟩ = some (.string e.sender)
  slice : w.cell? ⟨b, o + 1, Option.none⟩ = some (.slice e.ma e.msgs.length e.mc)
  msgs : MsgsAt B w e.ma e.msgs
def LogAt (B : Nat) (w : World) (ao : Option Addr) (es : List Ent) : Prop := 0 < es.length → ∃ b off, ao = some ⟨b, off, Option.none⟩ ∧ b < B ∧ ∀ j, j < es.length → EntAt B w b (off + j * 2) (es.getD j Ent.none)
structure TakAt (w : World) (b o : Nat) (t : Tak) : Prop where
  clock : w.cell? ⟨b, o, Option.none⟩ = some (.int .u64 t.clock)
  member : w.cell? ⟨b, o + 1, Option.none⟩ = some (.string t.member)
  time : w.cell? ⟨b, o + 2, Option.none⟩ = some (.int .u64 t.time)
def TakenAt (B : Nat) (w : World) (ao : Option Addr) (ts : List Tak) : Prop := 0 < ts.length → ∃ b off, ao = some ⟨b, off, Option.none⟩ ∧ b < B ∧ ∀ j, j < ts.length → TakAt w b (off + j * 3) (ts.getD j Tak.none)

theorem BodyOK.below {B : Nat} {w w' : World} {m : Msg} (h : BodyOK B w m) (hb : Below B w w') : BodyOK B w' m := fun h0 => by
  obtain ⟨b, off, e, hB, hc⟩ := h h0
  exact ⟨b, off, e, hB, fun j hj => by obtain ⟨u, hu⟩ := hc j hj; exact ⟨u, (hb.cell (p := ⟨b, off + j, Option.none⟩) hB).trans hu⟩⟩
theorem MsgAt.below {B : Nat} {w w' : World} {b o : Nat} {m : Msg} (h : MsgAt B w b o m) (hB : b < B) (hb : Below B w w') : MsgAt B w' b o m :=
  ⟨(hb.cell (p := ⟨b, o, Option.none⟩) hB).trans h.clock, (hb.cell (p := ⟨b, o + 1, Option.none⟩) hB).trans h.member, (hb.cell (p := ⟨b, o + 2, Option.none⟩) hB).trans h.body, h.ok.below hb⟩
theorem MsgsAt.below {B : Nat} {w w' : World} {ao : Option Addr} {ms : List Msg} (h : MsgsAt B w ao ms) (hb : Below B w w') : MsgsAt B w' ao ms := fun h0 => by
  obtain ⟨b, off, e, hB, hc⟩ := h h0
  exact ⟨b, off, e, hB, fun j hj => (hc j hj).below hB hb⟩
theorem EntAt.below {B : Nat} {w w' : World} {b o : Nat} {m : Ent} (h : EntAt B w b o m) (hB : b < B) (hb : Below B w w') : EntAt B w' b o m :=
  ⟨(hb.cell (p := ⟨b, o, Option.none⟩) hB).trans h.sender, (hb.cell (p := ⟨b, o + 1, Option.none⟩) hB).trans h.slice, h.msgs.below hb⟩
theorem LogAt.below {B : Nat} {w w' : World} {ao : Option Addr} {es : List Ent} (h : LogAt B w ao es) (hb : Below B w w') : LogAt B w' ao es := fun h0 => by
  obtain ⟨b, off, e, hB, hc⟩ := h h0
  exact ⟨b, off, e, hB, fun j hj => (hc j hj).below hB hb⟩
theorem TakAt.below {B : Nat} {w w' : World} {b o : Nat} {m : Tak} (h : TakAt w b o m) (hB : b < B) (hb : Below B w w') : TakAt w' b o m :=
  ⟨(hb.cell (p := ⟨b, o, Option.none⟩) hB).trans h.clock, (hb.cell (p := ⟨b, o + 1, Option.none⟩) hB).trans h.member, (hb.cell (p := ⟨b, o + 2, Option.none⟩) hB).trans h.time⟩
theorem TakenAt.below {B : Nat} {w w' : World} {ao : Option Addr} {ts : List Tak} (h : TakenAt B w ao ts) (hb : Below B w w') : TakenAt B w' ao ts := fun h0 => by
  obtain ⟨b, off, e, hB, hc⟩ := h h0
  exact ⟨b, off, e, hB, fun j hj => (hc j hj).below hB hb⟩

/-! ### zzMsgsBytes -/
def RetU64 (p : Int → World → Prop) (e : Ending) (w' : World) : Prop := ∃ r : Int, e = .returned (.int .u64 r) ∧ p r w'
theorem RetU64.mk {p : Int → World → Prop} {r : Int} {w' : World} (h : p r w') : RetU64 p (.returned (.int .u64 r)) w' := ⟨r, rfl, h⟩

set_option maxHeartbeats 400000 in
theorem msgsBytes_any (B : Nat) (ao : Option Addr) (cap : Nat) (ms : List Msg) (t : Int) (w : World) (h : MsgsAt B w ao ms) (hm : ms.length ≤ 1048576) :
    Calls Try.prog 33 #[.slice ao ms.length cap, .int .u64 t] w (RetU64 fun _ w' => w' = w) := by
  obtain ⟨n, hn⟩ : ∃ n, n = ms.length := ⟨_, rfl⟩
  unfold MsgsAt at h
  rw [← hn] at h hm ⊢
  clear hn
  go_enter Try.func33, Try.ntmps33
  go_wp2
  · go_ret
    exact RetU64.mk rfl
  · go_loop [1, 5] (fun t i => ∃ (k : Nat) (r : Int), k ≤ n ∧ i = .int .i64 k ∧ t = .int .u64 r) (fun _ i => n - (intOf i).toNat)
    case atStart => exact ⟨0, _, Nat.zero_le _, rfl, rfl⟩
    case round =>
      obtain ⟨k, r, hk, rfl, rfl⟩ := hrel
      by_cases hlt : k < n
      · obtain ⟨b, off, rfl, hb, hcell⟩ := h (by omega)
        obtain ⟨h1, h2, h3, _⟩ := hcell k hlt
        generalize ms.getD k Msg.none = m at *
        clear hcell h
        go_wp2
        all_goals first
          | (go_round
             case rel => exact ⟨k + 1, _, by omega, by go_num, rfl⟩
             case measure => simp [intOf]; omega)
          | (go_ret; exact RetU64.mk rfl)
      · go_wp2
        go_ret
        exact RetU64.mk rfl

/-! ### zzReplicaFits: some bool; the world as it was -/
def RetBool' (p : Bool → World → Prop) (e : Ending) (w' : World) : Prop := ∃ r, e = .returned (.bool r) ∧ p r w'
theorem RetBool'.mk {p : Bool → World → Prop} {r : Bool} {w' : World} (h : p r w') : RetBool' p (.returned (.bool r)) w' := ⟨r, rfl, h⟩

set_option maxHeartbeats 1000000 in
theorem fits_any (B : Nat) (ao at' : Option Addr) (cap capt : Nat) (es : List Ent) (ts : List Tak) (w : World) (h : LogAt B w ao es) (ht : TakenAt B w at' ts)
    (hm : es.length ≤ 1048576) (hmt : ts.length ≤ 1048576) (hms : ∀ e ∈ es, e.msgs.length ≤ 1048576) :
    Calls Try.prog 19 #[.slice ao es.length cap, .slice at' ts.length capt, .slice none 0 0] w (RetBool' fun _ w' => w' = w) := by
  have HM : Hid (∀ e ∈ es, e.msgs.length ≤ 1048576) := hms
  have hlen : ∀ k, k < es.length → (es.getD k Ent.none) ∈ es := fun k hk => by rw [List.getD, List.getElem?_eq_getElem hk]; exact List.getElem_mem hk
  have HL : Hid (∀ k, k < es.length → (es.getD k Ent.none) ∈ es) := hlen
  clear hms hlen
  obtain ⟨n, hn⟩ : ∃ n, n = es.length := ⟨_, rfl⟩
  obtain ⟨m, hm'⟩ : ∃ m, m = ts.length := ⟨_, rfl⟩
  unfold LogAt at h
  unfold TakenAt at ht
  rw [← hn] at h hm HL ⊢
  rw [← hm'] at ht hmt ⊢
  clear hn hm'
  have H := show Hid _ from h
  have HT := show Hid _ from ht
  clear h ht
  by_cases c1 : (n : Int) ≤ 4096
  case neg =>
    go_enter Try.func19, Try.ntmps19
    go_wp2
    go_ret
    exact RetBool'.mk rfl
  by_cases c2 : (m : Int) ≤ 4096
  case neg =>
    go_enter Try.func19, Try.ntmps19
    go_wp2
    go_ret
    exact RetBool'.mk rfl
  go_enter Try.func19, Try.ntmps19
  go_wp2
  go_loop [7, 8, 9] (fun t q i => ∃ (k : Nat) (r s : Int), k ≤ n ∧ i = .int .i64 k ∧ t = .int .u64 r ∧ q = .int .i64 s) (fun _ _ i => n - (intOf i).toNat)
  case atStart => exact ⟨0, _, _, Nat.zero_le _, rfl, rfl, rfl⟩
  case round =>
    obtain ⟨k, r, s, hk, rfl, rfl, rfl⟩ := hrel
    by_cases hlt : k < n
    · obtain ⟨b, off, rfl, hb, hcell⟩ := H.out (by omega)
      obtain ⟨h1, h2, h3⟩ := hcell k hlt
      have hml := HM.out _ (HL.out k hlt)
      generalize es.getD k Ent.none = e at *
      clear hcell H HT HM HL
      have mb := fun t => msgsBytes_any B e.ma e.mc e.msgs t w h3 hml
      generalize e.msgs.length = nm at *
      generalize e.ma = ma at *
      generalize e.mc = mc at *
      have MB : ∀ t, Hid (Calls Try.prog 33 #[.slice ma nm mc, .int .u64 t] w (RetU64 fun _ w' => w' = w)) := mb
      clear mb h3
      go_wp2_with (go_at_call 33; refine (MB _).out.mono ?_; rintro e' w' ⟨r', rfl, rfl⟩)
      all_goals first
        | (go_round
           case rel => exact ⟨k + 1, _, _, by omega, by go_num, rfl, rfl⟩
           case measure => simp [intOf]; omega)
        | (go_ret; exact RetBool'.mk rfl)
    · clear H HM HL
      go_wp2
      go_loop [7, 10] (fun t i => ∃ (k : Nat) (r : Int), k ≤ m ∧ i = .int .i64 k ∧ t = .int .u64 r) (fun _ i => m - (intOf i).toNat)
      case atStart => exact ⟨0, _, Nat.zero_le _, rfl, rfl⟩
      case round =>
        clear hlt
        obtain ⟨k, r, hk, rfl, rfl⟩ := hrel
        by_cases hlt : k < m
        · obtain ⟨b, off, rfl, hb, hcell⟩ := HT.out (by omega)
          obtain ⟨h1, h2, h3⟩ := hcell k hlt
          generalize ts.getD k Tak.none = e at *
          clear hcell HT
          go_wp2
          all_goals first
            | (go_round
               case rel => exact ⟨k + 1, _, by omega, by go_num, rfl⟩
               case measure => simp [intOf]; omega)
            | (go_ret; exact RetBool'.mk rfl)
        · have mb : ∀ t, Hid (Calls Try.prog 33 #[.slice none 0 0, .int .u64 t] w (RetU64 fun _ w' => w' = w)) := fun t => msgsBytes_any B none 0 [] t w (fun h => by simp at h) (by simp)
          clear HT
          go_wp2_with (go_at_call 33; refine (mb _).out.mono ?_; rintro e' w' ⟨r', rfl, rfl⟩)
          go_ret
          exact RetBool'.mk rfl
end Go.Proofs.Qxb6603225a
