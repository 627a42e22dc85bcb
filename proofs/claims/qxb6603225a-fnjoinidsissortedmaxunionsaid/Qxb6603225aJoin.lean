import Derived.Test.Qxb6603225aIds
import Derived.Test.Qxb6603225aPlain
namespace Go.Proofs.Qxb6603225a
open Go.RowKit

theorem hide {p : Prop} (h : p) : Hid p := h
theorem unhide {p : Prop} (h : Hid p) : p := h

def lenOf : Value → Nat | .slice _ n _ => n | _ => 0

/-- The loop's relation: what is left of a and of b, what has been joined. -/
structure Rel (w : World) (A0 B0 : List ByteArray) (va vb vj : Value) (wr : World) (A B J : List ByteArray) : Prop where
  a : Strs w.heap.size w va A
  b : Strs w.heap.size w vb B
  own : wr.ownsRow w.heap.size 45 1 vj J.length (J.map .string)
  nil : J = [] → vj = .slice none 0 0
  below : Below w.heap.size w wr
  eq : J ++ join A B = join A0 B0
  len : J.length + A.length + B.length ≤ A0.length + B0.length

theorem Strs.tail {B b off n cap : Nat} {w : World} {x : ByteArray} {A : List ByteArray} (hn : n = A.length + 1) (hb : b < B) (hl : n ≤ cap)
    (hc : ∀ j, j < n → w.cell? ⟨b, off + j, none⟩ = some (.string ((x :: A).getD j ByteArray.empty))) :
    Strs B w (.slice (if cap = 1 then some ⟨b, off, none⟩ else some ⟨b, off + 1, none⟩) A.length (cap - 1)) A := by
  refine ⟨_, _, rfl, by omega, fun h0 => ⟨b, off + 1, by rw [if_neg (by omega)], hb, fun j hj => ?_⟩⟩
  have := hc (j + 1) (by omega)
  rw [show off + (j + 1) = off + 1 + j by omega] at this
  simpa using this

theorem Rel.step {w W2 w1 : World} {A0 B0 A B J : List ByteArray} {x : ByteArray} {va vb : Value} {g cap : Nat} {row : Option Nat}
    (ha : Strs w.heap.size w va A) (hb : Strs w.heap.size w vb B) (hbel : Below w.heap.size w W2) (hgrow : W2.grownBy w1 row) (hrow : ∀ k, row = some k → w.heap.size ≤ k)
    (hown : w1.ownsRow w.heap.size 45 1 (.slice (some ⟨g, 0, none⟩) (J.length + 1) cap) (J.length + 1) (J.map .string ++ [.string x]))
    (heq : J ++ x :: join A B = join A0 B0) (hlen : J.length + 1 + A.length + B.length ≤ A0.length + B0.length) :
    Rel w A0 B0 va vb (.slice (some ⟨g, 0, none⟩) (J.length + 1) cap) w1 A B (J ++ [x]) :=
  ⟨ha, hb, by simpa using hown, fun h => by simp at h, hbel.grown hgrow hbel.size hrow, by simpa using heq, by simp; omega⟩

set_option maxHeartbeats 1000000 in
set_option maxRecDepth 100000 in
theorem joinIDs_any (va vb : Value) (A0 B0 : List ByteArray) (w : World) (ha : Strs w.heap.size w va A0) (hb : Strs w.heap.size w vb B0) (hm : A0.length + B0.length ≤ 8388608) :
    Calls Try.prog 30 #[va, vb] w fun e w' => ∃ vj, e = .returned vj ∧ w'.ownsRow w.heap.size 45 1 vj (join A0 B0).length ((join A0 B0).map .string) ∧ Below w.heap.size w w' ∧ (join A0 B0 = [] → vj = .slice none 0 0) := by
  obtain ⟨i0, hi, hz0, hz1, hz2⟩ := info_parts Try.info45
  go_enter Try.func30, Try.ntmps30
  go_wp2
  go_loopw [0, 1, 5] (fun va vb vj wr => ∃ A B J, Rel w A0 B0 va vb vj wr A B J) (fun va vb _ _ => lenOf va + lenOf vb)
  case atStart => exact ⟨A0, B0, [], ha, hb, World.ownsRow_nil _ _ _ _, fun _ => rfl, Below.refl _ _, rfl, by simp⟩
  case round =>
    obtain ⟨A, B, J, R⟩ := hrel
    obtain ⟨⟨aoa, capa, rfl, hla, hca⟩, ⟨aob, capb, rfl, hlb, hcb⟩, hown, hnil, hbel, heq, hlen⟩ := R
    have hsz := hbel.size
    match A, B, hla, hca, hlb, hcb, heq, hlen with
    | [], [], hla, hca, hlb, hcb, heq, hlen =>
      have HE : Hid (J = join A0 B0) := hide (by simpa [join_nil] using heq)
      clear heq
      simp only [List.length_nil]
      go_wp2
      go_ret
      rw [← HE.out]
      exact ⟨u5, rfl, hown, hbel, hnil⟩
    | x :: A, [], hla, hca, hlb, hcb, heq, hlen =>
      simp only [List.length_nil, List.length_cons] at hca hcb hlb hlen hla ⊢
      obtain ⟨b, off, rfl, hbB, hcellA⟩ := hca (by omega)
      have HA := Strs.tail rfl hbB hla hcellA
      have HAs : Strs w.heap.size w (.slice (some ⟨b, off, none⟩) (A.length + 1) capa) (x :: A) := ⟨_, _, rfl, hla, fun _ => ⟨b, off, rfl, hbB, hcellA⟩⟩
      have h1 := (hbel.cell (p := ⟨b, off, none⟩) hbB).trans (hcellA 0 (by omega))
      simp only [List.getD_cons_zero] at h1
      have hrow : u5.ownBlock ≠ some b := fun h => by have := hown.lt b h; omega
      have hcap : (1 : Int) ≤ (A.length : Int) + 1 := by omega
      have hga : (((A.length : Int) + 1) == 0) = false := beq_eq_false_iff_ne.2 (by omega)
      clear hcellA
      have HBs : Strs w.heap.size w (.slice aob 0 capb) [] := ⟨_, _, rfl, hlb, fun h => by simp at h⟩
      have HEQ : Hid (J ++ x :: join A [] = join A0 B0) := hide (by rw [join_empty]; exact heq)
      have HR : Hid (∀ k, u5.ownBlock = some k → w.heap.size ≤ k) := fun k hk => (hown.lt k hk).1
      clear hca hcb heq hnil hsz
      have KA := hide HAs
      have KB := hide HBs
      clear HAs HBs
      have KTA := hide HA
      clear HA
      go_wp2
      go_quiet (fail)
      go_wp2
      have hownW : (wr.drewN nq).ownsRow w.heap.size 45 1 u5 J.length (J.map .string) := hown
      have hbelW : Below w.heap.size w (wr.drewN nq) := ⟨hbel.os, hbel.tape, hbel.output, hbel.size, hbel.block⟩
      have h1W : (wr.drewN nq).cell? ⟨b, off, none⟩ = some (.string x) := h1
      generalize wr.drewN nq = W at *
      clear h1 hown hbel
      have hszW := hbelW.size
      have hbW : b < W.heap.size := by omega
      go_region_held3 (fun w' => w'.cell? ⟨b, off, none⟩ = some (.string x))
        (first
          | go_keep
          | (rw [hgrow.cell_far _ (by simp; omega) (Ne.symm hrow)]; assumption))
        ((refine step_append_lies _ (by rfl) _ _ _ (by rfl) w.heap.size 45 i0 _ 1 16 Try.underlying27 hi hz0 hz1 hz2 rfl (by omega) u5 J.length (J.map .string) (by rfl) ((hownW.alloc _).drew) ⟨W.heap.size, 0, none⟩ 1 1 [.string x] (by rfl) (by rfl) (World.news_of_block (cs := #[.string x]) (t := 45) (fr := (0, 0)) (heap_alloc_new W _)) (by simp [Value.oneCell']) (by omega) (by unfold maxLen; omega) (by omega) (by simp; omega) (W.heap.size + 1) (by simp) ?_; intro gg cap w1 hown1 hgrow hat hlt))
      have R := Rel.step (unhide KTA) (unhide KB) ((hbelW.alloc hszW _).drew) hgrow HR.out hown1 HEQ.out (by first | omega | (simp only [List.length_nil]; omega) | (simp only [List.length_cons]; omega))
      generalize (if capa = 1 then some (⟨b, off, none⟩ : Addr) else some ⟨b, off + 1, none⟩) = aoa' at *
      clear hown1 hgrow hat hlt hownW hbelW
      have RR := hide R
      clear R
      go_wp2
      go_roundw
      case rel => exact ⟨_, _, _, unhide RR⟩
      case measure => simp [lenOf]; try omega
    | [], y :: B, hla, hca, hlb, hcb, heq, hlen =>
      simp only [List.length_nil, List.length_cons] at hca hcb hlb hlen hla ⊢
      have HAs : Strs w.heap.size w (.slice aoa 0 capa) [] := ⟨_, _, rfl, hla, fun h => by simp at h⟩
      obtain ⟨c, ofc, rfl, hbC, hcellB⟩ := hcb (by omega)
      have HB := Strs.tail rfl hbC hlb hcellB
      have HBs : Strs w.heap.size w (.slice (some ⟨c, ofc, none⟩) (B.length + 1) capb) (y :: B) := ⟨_, _, rfl, hlb, fun _ => ⟨c, ofc, rfl, hbC, hcellB⟩⟩
      have h2 := (hbel.cell (p := ⟨c, ofc, none⟩) hbC).trans (hcellB 0 (by omega))
      simp only [List.getD_cons_zero] at h2
      have hrowc : u5.ownBlock ≠ some c := fun h => by have := hown.lt c h; omega
      have hcapc : (1 : Int) ≤ (B.length : Int) + 1 := by omega
      have hgb : (((B.length : Int) + 1) == 0) = false := beq_eq_false_iff_ne.2 (by omega)
      clear hcellB
      have HEQ : Hid (J ++ y :: join [] B = join A0 B0) := hide (by exact heq)
      have HR : Hid (∀ k, u5.ownBlock = some k → w.heap.size ≤ k) := fun k hk => (hown.lt k hk).1
      clear hca hcb heq hnil hsz
      have KA := hide HAs
      have KB := hide HBs
      clear HAs HBs
      have KTB := hide HB
      clear HB
      go_wp2
      go_quiet (fail)
      go_wp2
      have hown0 : (wr.drewN nq).ownsRow w.heap.size 45 1 u5 J.length (J.map .string) := hown
      have hbel0 : Below w.heap.size w (wr.drewN nq) := ⟨hbel.os, hbel.tape, hbel.output, hbel.size, hbel.block⟩
      have h20 : (wr.drewN nq).cell? ⟨c, ofc, none⟩ = some (.string y) := h2
      generalize wr.drewN nq = W0 at *
      clear h2 hown hbel
      go_quiet (fail)
      go_wp2
      have hownW : (W0.drewN nq).ownsRow w.heap.size 45 1 u5 J.length (J.map .string) := hown0
      have hbelW : Below w.heap.size w (W0.drewN nq) := ⟨hbel0.os, hbel0.tape, hbel0.output, hbel0.size, hbel0.block⟩
      have h2W : (W0.drewN nq).cell? ⟨c, ofc, none⟩ = some (.string y) := h20
      generalize W0.drewN nq = W at *
      clear h20 hown0 hbel0
      have hszW := hbelW.size
      have hcW : c < W.heap.size := by omega
      go_region_held3 (fun w' => w'.cell? ⟨c, ofc, none⟩ = some (.string y))
        (first
          | go_keep
          | (rw [hgrow.cell_far _ (by simp; omega) (Ne.symm hrowc)]; assumption))
        ((refine step_append_lies _ (by rfl) _ _ _ (by rfl) w.heap.size 45 i0 _ 1 16 Try.underlying27 hi hz0 hz1 hz2 rfl (by omega) u5 J.length (J.map .string) (by rfl) ((hownW.alloc _).drew) ⟨W.heap.size, 0, none⟩ 1 1 [.string y] (by rfl) (by rfl) (World.news_of_block (cs := #[.string y]) (t := 45) (fr := (0, 0)) (heap_alloc_new W _)) (by simp [Value.oneCell']) (by omega) (by unfold maxLen; omega) (by omega) (by simp; omega) (W.heap.size + 1) (by simp) ?_; intro gg cap w1 hown1 hgrow hat hlt))
      have R := Rel.step (unhide KA) (unhide KTB) ((hbelW.alloc hszW _).drew) hgrow HR.out hown1 HEQ.out (by first | omega | (simp only [List.length_nil]; omega) | (simp only [List.length_cons]; omega))
      generalize (if capb = 1 then some (⟨c, ofc, none⟩ : Addr) else some ⟨c, ofc + 1, none⟩) = aob' at *
      clear hown1 hgrow hat hlt hownW hbelW
      have RR := hide R
      clear R
      go_wp2
      go_roundw
      case rel => exact ⟨_, _, _, unhide RR⟩
      case measure => simp [lenOf]; try omega
    | x :: A, y :: B, hla, hca, hlb, hcb, heq, hlen =>
      simp only [List.length_cons] at hca hcb hlb hlen hla ⊢
      by_cases hxy : Op.bytesLess x.toList y.toList = true
      case pos =>
        obtain ⟨b, off, rfl, hbB, hcellA⟩ := hca (by omega)
        have HA := Strs.tail rfl hbB hla hcellA
        have HAs : Strs w.heap.size w (.slice (some ⟨b, off, none⟩) (A.length + 1) capa) (x :: A) := ⟨_, _, rfl, hla, fun _ => ⟨b, off, rfl, hbB, hcellA⟩⟩
        have h1 := (hbel.cell (p := ⟨b, off, none⟩) hbB).trans (hcellA 0 (by omega))
        simp only [List.getD_cons_zero] at h1
        have hrow : u5.ownBlock ≠ some b := fun h => by have := hown.lt b h; omega
        have hcap : (1 : Int) ≤ (A.length : Int) + 1 := by omega
        have hga : (((A.length : Int) + 1) == 0) = false := beq_eq_false_iff_ne.2 (by omega)
        clear hcellA
        obtain ⟨c, ofc, rfl, hbC, hcellB⟩ := hcb (by omega)
        have HB := Strs.tail rfl hbC hlb hcellB
        have HBs : Strs w.heap.size w (.slice (some ⟨c, ofc, none⟩) (B.length + 1) capb) (y :: B) := ⟨_, _, rfl, hlb, fun _ => ⟨c, ofc, rfl, hbC, hcellB⟩⟩
        have h2 := (hbel.cell (p := ⟨c, ofc, none⟩) hbC).trans (hcellB 0 (by omega))
        simp only [List.getD_cons_zero] at h2
        have hrowc : u5.ownBlock ≠ some c := fun h => by have := hown.lt c h; omega
        have hcapc : (1 : Int) ≤ (B.length : Int) + 1 := by omega
        have hgb : (((B.length : Int) + 1) == 0) = false := beq_eq_false_iff_ne.2 (by omega)
        clear hcellB
        have HEQ : Hid (J ++ x :: join A (y :: B) = join A0 B0) := hide (by rw [← heq, join_cons, if_pos (show lt x y = true from hxy)])
        have HR : Hid (∀ k, u5.ownBlock = some k → w.heap.size ≤ k) := fun k hk => (hown.lt k hk).1
        clear hca hcb heq hnil hsz
        have KA := hide HAs
        have KB := hide HBs
        clear HAs HBs
        have KTA := hide HA
        clear HA
        have KTB := hide HB
        clear HB
        go_wp2
        go_quiet (fail)
        go_wp2
        have hownW : (wr.drewN nq).ownsRow w.heap.size 45 1 u5 J.length (J.map .string) := hown
        have hbelW : Below w.heap.size w (wr.drewN nq) := ⟨hbel.os, hbel.tape, hbel.output, hbel.size, hbel.block⟩
        have h1W : (wr.drewN nq).cell? ⟨b, off, none⟩ = some (.string x) := h1
        have h2W : (wr.drewN nq).cell? ⟨c, ofc, none⟩ = some (.string y) := h2
        generalize wr.drewN nq = W at *
        clear h1 h2 hown hbel
        have hszW := hbelW.size
        have hbW : b < W.heap.size := by omega
        have hcW : c < W.heap.size := by omega
        go_region_held3 (fun w' => w'.cell? ⟨b, off, none⟩ = some (.string x))
          (first
            | go_keep
            | (rw [hgrow.cell_far _ (by simp; omega) (Ne.symm hrow)]; assumption))
          ((refine step_append_lies _ (by rfl) _ _ _ (by rfl) w.heap.size 45 i0 _ 1 16 Try.underlying27 hi hz0 hz1 hz2 rfl (by omega) u5 J.length (J.map .string) (by rfl) ((hownW.alloc _).drew) ⟨W.heap.size, 0, none⟩ 1 1 [.string x] (by rfl) (by rfl) (World.news_of_block (cs := #[.string x]) (t := 45) (fr := (0, 0)) (heap_alloc_new W _)) (by simp [Value.oneCell']) (by omega) (by unfold maxLen; omega) (by omega) (by simp; omega) (W.heap.size + 1) (by simp) ?_; intro gg cap w1 hown1 hgrow hat hlt))
        have R := Rel.step (unhide KTA) (unhide KB) ((hbelW.alloc hszW _).drew) hgrow HR.out hown1 HEQ.out (by first | omega | (simp only [List.length_nil]; omega) | (simp only [List.length_cons]; omega))
        generalize (if capa = 1 then some (⟨b, off, none⟩ : Addr) else some ⟨b, off + 1, none⟩) = aoa' at *
        clear hown1 hgrow hat hlt hownW hbelW
        have RR := hide R
        clear R
        go_wp2
        go_roundw
        case rel => exact ⟨_, _, _, unhide RR⟩
        case measure => simp [lenOf]; try omega
      replace hxy : Op.bytesLess x.toList y.toList = false := by simpa using hxy
      by_cases hyx : Op.bytesLess y.toList x.toList = true
      case pos =>
        obtain ⟨b, off, rfl, hbB, hcellA⟩ := hca (by omega)
        have HA := Strs.tail rfl hbB hla hcellA
        have HAs : Strs w.heap.size w (.slice (some ⟨b, off, none⟩) (A.length + 1) capa) (x :: A) := ⟨_, _, rfl, hla, fun _ => ⟨b, off, rfl, hbB, hcellA⟩⟩
        have h1 := (hbel.cell (p := ⟨b, off, none⟩) hbB).trans (hcellA 0 (by omega))
        simp only [List.getD_cons_zero] at h1
        have hrow : u5.ownBlock ≠ some b := fun h => by have := hown.lt b h; omega
        have hcap : (1 : Int) ≤ (A.length : Int) + 1 := by omega
        have hga : (((A.length : Int) + 1) == 0) = false := beq_eq_false_iff_ne.2 (by omega)
        clear hcellA
        obtain ⟨c, ofc, rfl, hbC, hcellB⟩ := hcb (by omega)
        have HB := Strs.tail rfl hbC hlb hcellB
        have HBs : Strs w.heap.size w (.slice (some ⟨c, ofc, none⟩) (B.length + 1) capb) (y :: B) := ⟨_, _, rfl, hlb, fun _ => ⟨c, ofc, rfl, hbC, hcellB⟩⟩
        have h2 := (hbel.cell (p := ⟨c, ofc, none⟩) hbC).trans (hcellB 0 (by omega))
        simp only [List.getD_cons_zero] at h2
        have hrowc : u5.ownBlock ≠ some c := fun h => by have := hown.lt c h; omega
        have hcapc : (1 : Int) ≤ (B.length : Int) + 1 := by omega
        have hgb : (((B.length : Int) + 1) == 0) = false := beq_eq_false_iff_ne.2 (by omega)
        clear hcellB
        have HEQ : Hid (J ++ y :: join (x :: A) B = join A0 B0) := hide (by rw [← heq, join_cons, if_neg (by simp [lt, hxy]), if_pos (show lt y x = true from hyx)])
        have HR : Hid (∀ k, u5.ownBlock = some k → w.heap.size ≤ k) := fun k hk => (hown.lt k hk).1
        clear hca hcb heq hnil hsz
        have KA := hide HAs
        have KB := hide HBs
        clear HAs HBs
        have KTA := hide HA
        clear HA
        have KTB := hide HB
        clear HB
        go_wp2
        go_quiet (fail)
        go_wp2
        have hown0 : (wr.drewN nq).ownsRow w.heap.size 45 1 u5 J.length (J.map .string) := hown
        have hbel0 : Below w.heap.size w (wr.drewN nq) := ⟨hbel.os, hbel.tape, hbel.output, hbel.size, hbel.block⟩
        have h10 : (wr.drewN nq).cell? ⟨b, off, none⟩ = some (.string x) := h1
        have h20 : (wr.drewN nq).cell? ⟨c, ofc, none⟩ = some (.string y) := h2
        generalize wr.drewN nq = W0 at *
        clear h1 h2 hown hbel
        go_quiet (fail)
        go_wp2
        have hownW : (W0.drewN nq).ownsRow w.heap.size 45 1 u5 J.length (J.map .string) := hown0
        have hbelW : Below w.heap.size w (W0.drewN nq) := ⟨hbel0.os, hbel0.tape, hbel0.output, hbel0.size, hbel0.block⟩
        have h1W : (W0.drewN nq).cell? ⟨b, off, none⟩ = some (.string x) := h10
        have h2W : (W0.drewN nq).cell? ⟨c, ofc, none⟩ = some (.string y) := h20
        generalize W0.drewN nq = W at *
        clear h10 h20 hown0 hbel0
        have hszW := hbelW.size
        have hbW : b < W.heap.size := by omega
        have hcW : c < W.heap.size := by omega
        go_region_held3 (fun w' => w'.cell? ⟨c, ofc, none⟩ = some (.string y))
          (first
            | go_keep
            | (rw [hgrow.cell_far _ (by simp; omega) (Ne.symm hrowc)]; assumption))
          ((refine step_append_lies _ (by rfl) _ _ _ (by rfl) w.heap.size 45 i0 _ 1 16 Try.underlying27 hi hz0 hz1 hz2 rfl (by omega) u5 J.length (J.map .string) (by rfl) ((hownW.alloc _).drew) ⟨W.heap.size, 0, none⟩ 1 1 [.string y] (by rfl) (by rfl) (World.news_of_block (cs := #[.string y]) (t := 45) (fr := (0, 0)) (heap_alloc_new W _)) (by simp [Value.oneCell']) (by omega) (by unfold maxLen; omega) (by omega) (by simp; omega) (W.heap.size + 1) (by simp) ?_; intro gg cap w1 hown1 hgrow hat hlt))
        have R := Rel.step (unhide KA) (unhide KTB) ((hbelW.alloc hszW _).drew) hgrow HR.out hown1 HEQ.out (by first | omega | (simp only [List.length_nil]; omega) | (simp only [List.length_cons]; omega))
        generalize (if capb = 1 then some (⟨c, ofc, none⟩ : Addr) else some ⟨c, ofc + 1, none⟩) = aob' at *
        clear hown1 hgrow hat hlt hownW hbelW
        have RR := hide R
        clear R
        go_wp2
        go_roundw
        case rel => exact ⟨_, _, _, unhide RR⟩
        case measure => simp [lenOf]; try omega
      replace hyx : Op.bytesLess y.toList x.toList = false := by simpa using hyx
      obtain ⟨b, off, rfl, hbB, hcellA⟩ := hca (by omega)
      have HA := Strs.tail rfl hbB hla hcellA
      have HAs : Strs w.heap.size w (.slice (some ⟨b, off, none⟩) (A.length + 1) capa) (x :: A) := ⟨_, _, rfl, hla, fun _ => ⟨b, off, rfl, hbB, hcellA⟩⟩
      have h1 := (hbel.cell (p := ⟨b, off, none⟩) hbB).trans (hcellA 0 (by omega))
      simp only [List.getD_cons_zero] at h1
      have hrow : u5.ownBlock ≠ some b := fun h => by have := hown.lt b h; omega
      have hcap : (1 : Int) ≤ (A.length : Int) + 1 := by omega
      have hga : (((A.length : Int) + 1) == 0) = false := beq_eq_false_iff_ne.2 (by omega)
      clear hcellA
      obtain ⟨c, ofc, rfl, hbC, hcellB⟩ := hcb (by omega)
      have HB := Strs.tail rfl hbC hlb hcellB
      have HBs : Strs w.heap.size w (.slice (some ⟨c, ofc, none⟩) (B.length + 1) capb) (y :: B) := ⟨_, _, rfl, hlb, fun _ => ⟨c, ofc, rfl, hbC, hcellB⟩⟩
      have h2 := (hbel.cell (p := ⟨c, ofc, none⟩) hbC).trans (hcellB 0 (by omega))
      simp only [List.getD_cons_zero] at h2
      have hrowc : u5.ownBlock ≠ some c := fun h => by have := hown.lt c h; omega
      have hcapc : (1 : Int) ≤ (B.length : Int) + 1 := by omega
      have hgb : (((B.length : Int) + 1) == 0) = false := beq_eq_false_iff_ne.2 (by omega)
      clear hcellB
      have HEQ : Hid (J ++ x :: join A B = join A0 B0) := hide (by rw [← heq, join_cons, if_neg (by simp [lt, hxy]), if_neg (by simp [lt, hyx])])
      have HR : Hid (∀ k, u5.ownBlock = some k → w.heap.size ≤ k) := fun k hk => (hown.lt k hk).1
      clear hca hcb heq hnil hsz
      have KA := hide HAs
      have KB := hide HBs
      clear HAs HBs
      have KTA := hide HA
      clear HA
      have KTB := hide HB
      clear HB
      go_wp2
      go_quiet (fail)
      go_wp2
      have hown0 : (wr.drewN nq).ownsRow w.heap.size 45 1 u5 J.length (J.map .string) := hown
      have hbel0 : Below w.heap.size w (wr.drewN nq) := ⟨hbel.os, hbel.tape, hbel.output, hbel.size, hbel.block⟩
      have h10 : (wr.drewN nq).cell? ⟨b, off, none⟩ = some (.string x) := h1
      have h20 : (wr.drewN nq).cell? ⟨c, ofc, none⟩ = some (.string y) := h2
      generalize wr.drewN nq = W0 at *
      clear h1 h2 hown hbel
      go_quiet (fail)
      go_wp2
      have hownW : (W0.drewN nq).ownsRow w.heap.size 45 1 u5 J.length (J.map .string) := hown0
      have hbelW : Below w.heap.size w (W0.drewN nq) := ⟨hbel0.os, hbel0.tape, hbel0.output, hbel0.size, hbel0.block⟩
      have h1W : (W0.drewN nq).cell? ⟨b, off, none⟩ = some (.string x) := h10
      have h2W : (W0.drewN nq).cell? ⟨c, ofc, none⟩ = some (.string y) := h20
      generalize W0.drewN nq = W at *
      clear h10 h20 hown0 hbel0
      have hszW := hbelW.size
      have hbW : b < W.heap.size := by omega
      have hcW : c < W.heap.size := by omega
      go_region_held3 (fun w' => w'.cell? ⟨b, off, none⟩ = some (.string x))
        (first
          | go_keep
          | (rw [hgrow.cell_far _ (by simp; omega) (Ne.symm hrow)]; assumption))
        ((refine step_append_lies _ (by rfl) _ _ _ (by rfl) w.heap.size 45 i0 _ 1 16 Try.underlying27 hi hz0 hz1 hz2 rfl (by omega) u5 J.length (J.map .string) (by rfl) ((hownW.alloc _).drew) ⟨W.heap.size, 0, none⟩ 1 1 [.string x] (by rfl) (by rfl) (World.news_of_block (cs := #[.string x]) (t := 45) (fr := (0, 0)) (heap_alloc_new W _)) (by simp [Value.oneCell']) (by omega) (by unfold maxLen; omega) (by omega) (by simp; omega) (W.heap.size + 1) (by simp) ?_; intro gg cap w1 hown1 hgrow hat hlt))
      have R := Rel.step (unhide KTA) (unhide KTB) ((hbelW.alloc hszW _).drew) hgrow HR.out hown1 HEQ.out (by first | omega | (simp only [List.length_nil]; omega) | (simp only [List.length_cons]; omega))
      generalize (if capa = 1 then some (⟨b, off, none⟩ : Addr) else some ⟨b, off + 1, none⟩) = aoa' at *
      generalize (if capb = 1 then some (⟨c, ofc, none⟩ : Addr) else some ⟨c, ofc + 1, none⟩) = aob' at *
      clear hown1 hgrow hat hlt hownW hbelW
      have RR := hide R
      clear R
      go_wp2
      go_roundw
      case rel => exact ⟨_, _, _, unhide RR⟩
      case measure => simp [lenOf]; try omega

end Go.Proofs.Qxb6603225a
