import Derived.Test.Qxb6603225aRepl
import Derived.Test.Qxb6603225aBytes
namespace Go.Proofs.Qxb6603225a
open Go.RowKit Go.Maps
open Go.ChangeMaps (setBlock)

structure Wf (es : List Ent) (ts : List Tak) : Prop where
  sender : ∀ e ∈ es, e.sender.size ≤ maxLen
  clock : ∀ e ∈ es, ∀ m ∈ e.msgs, (Lit.int .u64 m.clock).wf = true
  member : ∀ e ∈ es, ∀ m ∈ e.msgs, m.member.size ≤ maxLen
  tclock : ∀ t ∈ ts, (Lit.int .u64 t.clock).wf = true
  tmember : ∀ t ∈ ts, t.member.size ≤ maxLen

theorem LogMap.other {w : World} {r r2 : Nat} {o : Obj} {es : List Ent} {us : Bool} {skip : ByteArray} {k : Nat} {ens2 : Array MapEntry} {clock2 : Nat} (h : LogMap w r es us skip k) (hm : w.heap[r2]? = some (.map ens2 clock2)) (hne : r ≠ r2) : LogMap (setBlock w r2 o) r es us skip k := by
  obtain ⟨ens, clock, h1, h2, h3, h4⟩ := h
  refine ⟨ens, clock, ?_, h2, fun e he => ?_, h4⟩
  · show (w.heap.setIfInBounds r2 o)[r]? = _
    rw [Array.getElem?_setIfInBounds_ne (fun e => hne e.symm)]
    exact h1
  · obtain ⟨i, a, b, c, d, f⟩ := h3 e he
    exact ⟨i, a, b, c, d, f.setBlock hm⟩

def LogVal (w : World) (v : Value) (es : List Ent) (us : Bool) (skip : ByteArray) : Prop := (v = .map none ∧ es.length = 0) ∨ ∃ r, v = .map (some r) ∧ LogMap w r es us skip es.length
def TakVal (w : World) (v : Value) (ts : List Tak) : Prop := (v = .map none ∧ ts.length = 0) ∨ ∃ r, v = .map (some r) ∧ TakMap w r ts ts.length
theorem LogVal.below {w w' : World} {v : Value} {es : List Ent} {us : Bool} {skip : ByteArray} (h : LogVal w v es us skip) (hb : Below w.heap.size w w') : LogVal w' v es us skip := by
  rcases h with h | ⟨r, h1, h2⟩
  · exact Or.inl h
  · exact Or.inr ⟨r, h1, h2.below hb⟩
theorem TakVal.below {w w' : World} {v : Value} {ts : List Tak} (h : TakVal w v ts) (hb : Below w.heap.size w w') : TakVal w' v ts := by
  rcases h with h | ⟨r, h1, h2⟩
  · exact Or.inl h
  · exact Or.inr ⟨r, h1, h2.below hb⟩
/-- What zzReplica leaves. -/
def Done (w : World) (es : List Ent) (ts : List Tak) (us : Bool) (skip : ByteArray) (e : Ending) (w' : World) : Prop :=
  ∃ p lm tm, e = .returned (.pointer (some ⟨p, 0, none⟩)) ∧ ReplicaAt w' p lm tm ∧ LogVal w' lm es us skip ∧ TakVal w' tm ts ∧ Below w.heap.size w w'

theorem getD_mem {α : Type} {l : List α} {d : α} {k : Nat} (h : k < l.length) : l.getD k d ∈ l := by rw [List.getD, List.getElem?_eq_getElem h]; exact List.getElem_mem h

set_option maxHeartbeats 1000000 in
set_option maxRecDepth 100000 in
theorem replica_log (B : Nat) (ad : Addr) (at' : Option Addr) (cap capt : Nat) (es : List Ent) (ts : List Tak) (us : Bool) (skip : ByteArray) (w : World) (hB : B ≤ w.heap.size) (h : LogAt B w (some ad) es) (ht : TakenAt B w at' ts)
    (sm : Small es ts) (wf : Wf es ts) :
    Calls Try.prog 20 #[.slice (some ad) es.length cap, .slice at' ts.length capt, .slice none 0 0, .string skip, .bool us] w (Done w es ts us skip) := by
  have hq := fun (w : World) (a : Option Addr) (n c : Nat) => run_neq_slice_nil_any (P := Try.prog) w 33 38 a n c 0 0 Try.underlying33
  have hq2 := fun (w : World) (a : Option Addr) (n c : Nat) => run_neq_slice_nil_any (P := Try.prog) w 52 65 a n c 0 0 Try.underlying52
  have hmm := @run_makeMap Try.prog
  obtain ⟨n, hn⟩ : ∃ n, n = es.length := ⟨_, rfl⟩
  have hnl := sm.log
  unfold LogAt at h
  rw [← hn] at h hnl ⊢
  have HN := hide' hn
  have H := hide' h
  have HT := hide' ht
  have SM := hide' sm
  have WF := hide' wf
  clear hn h ht sm wf
  go_enter Try.func20, Try.ntmps20
  go_wp2_with fail
  go_loopw [12] (fun i wr => ∃ (k : Nat), k ≤ n ∧ i = .int .i64 k ∧ Below w.heap.size w wr ∧ LogMap wr w.heap.size es us skip k) (fun i _ => n - (intOf i).toNat)
  case atStart => exact ⟨0, Nat.zero_le _, rfl, (Below.refl _ _).alloc (Nat.le_refl _) _, LogMap.made (heap_alloc_new w _) _ _ _⟩
  case round =>
    obtain ⟨k, hk, rfl, hb, hlm⟩ := hrel
    by_cases hlt : k < n
    · obtain ⟨b, off, e, hbB, hcell⟩ := H.out (by omega)
      simp only [Option.some.injEq] at e
      subst e
      obtain ⟨h1, h2, h3⟩ := (hcell k hlt).below hbB (hb.mono hB)
      obtain ⟨x, hx⟩ : ∃ x, x = es.getD k Ent.none := ⟨_, rfl⟩
      rw [← hx] at h1 h2 h3
      have hxm : x ∈ es := by rw [hx]; exact getD_mem (by have := HN.out; omega)
      have hsz := hb.size
      have ml := SM.out.msgs x hxm
      have bl := SM.out.body x hxm
      have hss := WF.out.sender x hxm
      have HX := hide' hx
      have HB := hide' hb
      have HLM := hide' hlm
      have mc := msgs_any B x.ma x.mc x.msgs wr.drew (by show B ≤ wr.heap.size; omega) (h3.below ⟨rfl, rfl, rfl, Nat.le_refl _, fun _ _ => rfl⟩) ml bl
      have MC := hide' mc
      have HSS := hide' hss
      clear mc hcell H h3 ml bl hxm hx hb hlm hss
      by_cases hsk : Skip us skip x.sender
      · obtain ⟨rfl, hse⟩ := hsk
        have hsk' : Skip true skip (es.getD k Ent.none).sender := ⟨rfl, by rw [← HX.out]; exact hse⟩
        have HL2 := hide' (HLM.out.skip hsk')
        have hg : (x.sender.toList == skip.toList) = true := by rw [hse]; simp
        clear hsk' HX hse HSS
        generalize x.sender = sd at *
        clear MC HLM h2
        go_wp2_with fail
        go_roundw
        case rel => exact ⟨k + 1, by omega, by go_num, HB.out, HL2.out⟩
        case measure => simp [intOf]; omega
      · have hg : (us && (x.sender.toList == skip.toList)) = false := by
          cases us with
          | false => rfl
          | true =>
            simp only [Bool.true_and]
            rw [beq_eq_false_iff_ne]
            intro e
            exact hsk ⟨rfl, bytes_eq e⟩
        have HSK := hide' hsk
        clear hsk
        have put : ∀ (w2 : World) (v : Value), Below wr.heap.size wr w2 → FirstAt wr.heap.size w2 v x.msgs →
            ∃ o, (Instr.mapUpdate 66 (.map (some w.heap.size)) (.string x.sender) v).run Try.prog w2 = .ok () (setBlock w2 w.heap.size o) ∧ LogMap (setBlock w2 w.heap.size o) w.heap.size es us skip (k + 1) := by
          intro w2 v hb2 hf
          have hx := HX.out
          subst hx
          exact LogMap.put (HLM.out.below hb2) HSK.out HSS.out hf
        have PUT := hide' put
        clear put HSK HSS HLM HX
        generalize hsd : x.sender = sd at *
        generalize hma : x.ma = ma at *
        generalize hmc : x.mc = mc at *
        obtain ⟨nm, hnm⟩ : ∃ q, q = x.msgs.length := ⟨_, rfl⟩
        rw [← hnm] at h2 MC
        generalize x.msgs = xm at *
        clear hsd hma hmc hnm
        have hbs : b < wr.heap.size := by omega
        have hbr : b ≠ w.heap.size := by omega
        cases us with
        | false =>
          go_wp2_with fail
          go_region_held3 (fun w' => w'.cell? ⟨b, off + k * 2, none⟩ = some (.string sd) ∧ w'.cell? ⟨b, off + k * 2 + 1, none⟩ = some (.slice ma nm mc))
            (first
              | go_keep
              | (go_split_ands; exact ⟨(cell_setBlock (a := ⟨b, off + k * 2, none⟩) hbr).trans ((hb2.cell (p := ⟨b, off + k * 2, none⟩) hbs).trans h1), (cell_setBlock (a := ⟨b, off + k * 2 + 1, none⟩) hbr).trans ((hb2.cell (p := ⟨b, off + k * 2 + 1, none⟩) hbs).trans h2)⟩)
              | (go_split_ands; exact ⟨(hb2.cell (p := ⟨b, off + k * 2, none⟩) hbs).trans h1, (hb2.cell (p := ⟨b, off + k * 2 + 1, none⟩) hbs).trans h2⟩))
            ((go_at_call 34; refine MC.out.mono ?_; rintro e' w2 ⟨v, rfl, hf, hb2⟩; obtain ⟨o, hrun, hlm2⟩ := PUT.out w2 v ⟨hb2.os, hb2.tape, hb2.output, hb2.size, hb2.block⟩ hf))
          have HB2 := hide' (below_setBlock (o := o) (HB.out.trans (Below.mono ⟨hb2.os, hb2.tape, hb2.output, hb2.size, hb2.block⟩ hsz)) (Nat.le_refl _))
          have HL2 := hide' hlm2
          clear hb2 hf hrun hlm2 MC PUT h1 h2 HB
          go_wp2_with fail
          go_roundw
          case rel => exact ⟨k + 1, by omega, by go_num, HB2.out, HL2.out⟩
          case measure => simp [intOf]; omega
        | true =>
          simp only [Bool.true_and] at hg
          go_wp2_with fail
          go_region_held3 (fun w' => w'.cell? ⟨b, off + k * 2, none⟩ = some (.string sd) ∧ w'.cell? ⟨b, off + k * 2 + 1, none⟩ = some (.slice ma nm mc))
            (first
              | go_keep
              | (go_split_ands; exact ⟨(cell_setBlock (a := ⟨b, off + k * 2, none⟩) hbr).trans ((hb2.cell (p := ⟨b, off + k * 2, none⟩) hbs).trans h1), (cell_setBlock (a := ⟨b, off + k * 2 + 1, none⟩) hbr).trans ((hb2.cell (p := ⟨b, off + k * 2 + 1, none⟩) hbs).trans h2)⟩)
              | (go_split_ands; exact ⟨(hb2.cell (p := ⟨b, off + k * 2, none⟩) hbs).trans h1, (hb2.cell (p := ⟨b, off + k * 2 + 1, none⟩) hbs).trans h2⟩))
            ((go_at_call 34; refine MC.out.mono ?_; rintro e' w2 ⟨v, rfl, hf, hb2⟩; obtain ⟨o, hrun, hlm2⟩ := PUT.out w2 v ⟨hb2.os, hb2.tape, hb2.output, hb2.size, hb2.block⟩ hf))
          have HB2 := hide' (below_setBlock (o := o) (HB.out.trans (Below.mono ⟨hb2.os, hb2.tape, hb2.output, hb2.size, hb2.block⟩ hsz)) (Nat.le_refl _))
          have HL2 := hide' hlm2
          clear hb2 hf hrun hlm2 MC PUT h1 h2 HB
          go_wp2_with fail
          go_roundw
          case rel => exact ⟨k + 1, by omega, by go_num, HB2.out, HL2.out⟩
          case measure => simp [intOf]; omega
    · have hkn : k = es.length := by have := HN.out; omega
      rw [hkn] at hlm
      have LV0 : Hid (LogVal wr (.map (some w.heap.size)) es us skip) := Or.inr ⟨_, rfl, hlm⟩
      have BB0 := hide' hb
      clear hkn hlm hb H HN
      cases at' with
      | none =>
        have ht0 : ts.length = 0 := by
          rcases Nat.eq_zero_or_pos ts.length with h0 | h0
          · exact h0
          · obtain ⟨_, _, h', _⟩ := HT.out h0; cases h'
        have TV : Hid (TakVal wr (.map none) ts) := Or.inl ⟨rfl, ht0⟩
        have LV := LV0
        have BB := BB0
        clear ht0 HT LV0 BB0
        have MN := hide' (msgs_nil wr 0 0)
        have RO := hide' (replicaOf_any (some w.heap.size) none wr)
        go_wp2_with fail
        refine MN.out.mono ?_
        rintro e' w5 ⟨rfl, rfl⟩
        go_wp2_with fail
        refine RO.out.mono ?_
        rintro e' w6 ⟨p6, rfl, hra, hb6⟩
        go_wp2_with fail
        go_ret
        exact ⟨p6, .map (some w.heap.size), .map none, rfl, hra, LV.out.below hb6, TV.out.below hb6, BB.out.trans (hb6.mono BB.out.size)⟩
      | some adt =>
        have hml := SM.out.taken
        have hszW := BB0.out.size
        obtain ⟨nt, hnt⟩ : ∃ q, q = ts.length := ⟨_, rfl⟩
        have HTT : Hid (TakenAt B w (some adt) ts) := HT
        have HNT := hide' hnt
        have BM : Hid (Below w.heap.size w (wr.alloc (.map #[] 0))) := BB0.out.alloc hszW _
        have LVM : Hid (LogVal (wr.alloc (.map #[] 0)) (.map (some w.heap.size)) es us skip) := LV0.out.below ((Below.refl _ _).alloc (Nat.le_refl _) _)
        rw [← hnt] at hml ⊢
        clear HT hnt
        go_wp2_with fail
        have TM : Hid (TakMap (wr.alloc (.map #[] 0)) wr.heap.size ts 0) := TakMap.made (heap_alloc_new wr _) _
        have HNE : Hid (∀ r, Value.map (some w.heap.size) = .map (some r) → r ≠ wr.heap.size) := hide' (fun r hr => by
          rcases LV0.out with ⟨h, _⟩ | ⟨r', h1, h2⟩
          · rw [hr] at h; cases h
          · rw [hr] at h1
            injection h1 with h1
            injection h1 with h1
            subst h1
            obtain ⟨ens, clock, hh, _⟩ := h2
            have := (Array.getElem?_eq_some_iff.1 hh).1
            omega)
        generalize wr.alloc (.map #[] 0) = W1 at *
        generalize wr.heap.size = r2 at *
        clear LV0 BB0
        go_loopw [14] (fun i w3 => ∃ (k : Nat), k ≤ nt ∧ i = .int .i64 k ∧ Below w.heap.size w w3 ∧ LogVal w3 (.map (some w.heap.size)) es us skip ∧ TakMap w3 r2 ts k) (fun i _ => nt - (intOf i).toNat)
        case atStart => exact ⟨0, Nat.zero_le _, rfl, BM.out, LVM.out, TM.out⟩
        case round =>
          obtain ⟨kt, hkt, rfl, hb3, hlv3, htm3⟩ := hrel
          clear TM LVM BM
          by_cases hltt : kt < nt
          · obtain ⟨bt, oft, e, hbBt, hcellt⟩ := HTT.out (by have := HNT.out; omega)
            simp only [Option.some.injEq] at e
            subst e
            obtain ⟨g1, g2, g3⟩ := (hcellt kt (by have := HNT.out; omega)).below hbBt (hb3.mono hB)
            have htw := WF.out.tclock _ (getD_mem (d := Tak.none) (show kt < ts.length by have := HNT.out; omega))
            have hts := WF.out.tmember _ (getD_mem (d := Tak.none) (show kt < ts.length by have := HNT.out; omega))
            have ne1 := World.new_ne wr ⟨bt, oft + kt * 3, none⟩ g1
            have ne2 := World.new_ne wr ⟨bt, oft + kt * 3 + 1, none⟩ g2
            have HB3 := hide' hb3
            have HLV3 := hide' hlv3
            have HTM3 := hide' htm3
            have hbtw : bt < wr.heap.size := by have := hb3.size; omega
            clear hb3 hlv3 htm3 hcellt HTT
            obtain ⟨x, hx⟩ : ∃ x, x = ts.getD kt Tak.none := ⟨_, rfl⟩
            have HX := hide' hx
            rw [← hx] at g1 g2 g3 htw hts
            clear hx
            generalize hxc : x.clock = xc at *
            generalize hxm : x.member = xm at *
            generalize hxt : x.time = xt at *
            have HXC := hide' hxc
            have HXM := hide' hxm
            have HXT := hide' hxt
            have HTW := hide' htw
            have HTS := hide' hts
            clear hxc hxm hxt htw hts
            have hki : (kt : Int) < (nt : Int) := by omega
            have hk0 : (0 : Int) ≤ (kt : Int) := by omega
            go_wp2_with fail
            go_region_held3 (fun w' => w'.cell? ⟨bt, oft + kt * 3, none⟩ = some (.int .u64 xc) ∧ w'.cell? ⟨bt, oft + kt * 3 + 1, none⟩ = some (.string xm)) (go_keep) (fail)
            go_wp2_with fail
            have hW2 : Below wr.heap.size wr ((wr.alloc (.cells #[.int .u64 xc, .string xm] 47)).drew) := ((Below.refl _ _).alloc (Nat.le_refl _) _).drew
            have c0 : ((wr.alloc (.cells #[.int .u64 xc, .string xm] 47)).drew).cell? ⟨wr.heap.size, 0, none⟩ = some (.int .u64 xc) := by show (wr.alloc _).cell? _ = _; rw [World.cell?_alloc_at _ _ _ _ rfl]; rfl
            have c1 : ((wr.alloc (.cells #[.int .u64 xc, .string xm] 47)).drew).cell? ⟨wr.heap.size, 1, none⟩ = some (.string xm) := by show (wr.alloc _).cell? _ = _; rw [World.cell?_alloc_at _ _ _ _ rfl]; rfl
            have c2 := (hW2.cell (p := ⟨bt, oft + kt * 3 + 2, none⟩) hbtw).trans g3
            generalize (wr.alloc (.cells #[.int .u64 xc, .string xm] 47)).drew = W2 at *
            have hWd : Below wr.heap.size wr W2.drew := hW2.drew
            obtain ⟨o, hrun, htm4⟩ : ∃ o, (Instr.mapUpdate 68 (.map (some r2)) (.agg #[.int .u64 xc, .string xm]) (.int .u64 xt)).run Try.prog W2.drew = .ok () (setBlock W2.drew r2 o) ∧ TakMap (setBlock W2.drew r2 o) r2 ts (kt + 1) := by
              have := TakMap.put (HTM3.out.below hWd) (by rw [← HX.out, HXC.out]; exact HTW.out) (by rw [← HX.out, HXM.out]; exact HTS.out)
              rw [← HX.out, HXC.out, HXM.out, HXT.out] at this
              exact this
            obtain ⟨mens, mclock, hmap, _⟩ := HTM3.out.below hWd
            have e0 : wr.heap.size ≠ r2 := ne_of_cell (a := ⟨wr.heap.size, 0, none⟩) hmap c0
            have e1 : bt ≠ r2 := ne_of_cell (a := ⟨bt, oft + kt * 3 + 2, none⟩) hmap c2
            have hblw := HB3.out.size
            have HB4 := hide' (below_setBlock (r := r2) (o := o) (HB3.out.trans (hWd.mono hblw)) (by have := hszW; omega))
            have HLV4 : Hid (LogVal (setBlock W2.drew r2 o) (.map (some w.heap.size)) es us skip) := by
              rcases HLV3.out.below hWd with h | ⟨r, h1, h2⟩
              · exact Or.inl h
              · exact Or.inr ⟨r, h1, h2.other hmap (HNE.out r h1)⟩
            have HTM4 := hide' htm4
            clear hW2 hWd htm4 g1 g2 g3 ne1 ne2 hmap
            go_region_held3 (fun w' => w'.cell? ⟨wr.heap.size, 0, none⟩ = some (.int .u64 xc) ∧ w'.cell? ⟨wr.heap.size, 1, none⟩ = some (.string xm) ∧ w'.cell? ⟨bt, oft + kt * 3 + 2, none⟩ = some (.int .u64 xt))
              (first
                | go_keep
                | (go_split_ands; exact ⟨(cell_setBlock (a := ⟨wr.heap.size, 0, none⟩) e0).trans c0, (cell_setBlock (a := ⟨wr.heap.size, 1, none⟩) e0).trans c1, (cell_setBlock (a := ⟨bt, oft + kt * 3 + 2, none⟩) e1).trans c2⟩))
              (fail)
            clear hrun c0 c1 c2
            go_wp2_with fail
            go_roundw
            case rel => exact ⟨kt + 1, by omega, by go_num, HB4.out, HLV4.out, HTM4.out⟩
            case measure => simp [intOf]; omega
          · have hke : kt = ts.length := by have := HNT.out; omega
            rw [hke] at htm3
            have TV : Hid (TakVal wr (.map (some r2)) ts) := Or.inr ⟨_, rfl, htm3⟩
            have LV := hide' hlv3
            have BB := hide' hb3
            clear hke htm3 hlv3 hb3 HTT
            have MN := hide' (msgs_nil wr 0 0)
            have RO := hide' (replicaOf_any (some w.heap.size) (some r2) wr)
            go_wp2_with fail
            refine MN.out.mono ?_
            rintro e' w5 ⟨rfl, rfl⟩
            go_wp2_with fail
            refine RO.out.mono ?_
            rintro e' w6 ⟨p6, rfl, hra, hb6⟩
            go_wp2_with fail
            go_ret
            exact ⟨p6, .map (some w.heap.size), .map (some r2), rfl, hra, LV.out.below hb6, TV.out.below hb6, BB.out.trans (hb6.mono BB.out.size)⟩

set_option maxHeartbeats 1000000 in
set_option maxRecDepth 100000 in
theorem replica_nil (B : Nat) (at' : Option Addr) (cap capt : Nat) (es : List Ent) (ts : List Tak) (us : Bool) (skip : ByteArray) (w : World) (hB : B ≤ w.heap.size) (h0 : es.length = 0) (ht : TakenAt B w at' ts)
    (sm : Small es ts) (wf : Wf es ts) :
    Calls Try.prog 20 #[.slice none 0 cap, .slice at' ts.length capt, .slice none 0 0, .string skip, .bool us] w (Done w es ts us skip) := by
  have hq := fun (w : World) (a : Option Addr) (n c : Nat) => run_neq_slice_nil_any (P := Try.prog) w 33 38 a n c 0 0 Try.underlying33
  have hq2 := fun (w : World) (a : Option Addr) (n c : Nat) => run_neq_slice_nil_any (P := Try.prog) w 52 65 a n c 0 0 Try.underlying52
  have hmm := @run_makeMap Try.prog
  have LV0 : Hid (LogVal w (.map none) es us skip) := Or.inl ⟨rfl, h0⟩
  have BB0 : Hid (Below w.heap.size w w) := Below.refl _ _
  have HT := hide' ht
  have SM := hide' sm
  have WF := hide' wf
  clear ht sm wf h0
  go_enter Try.func20, Try.ntmps20
  cases at' with
  | none =>
    have ht0 : ts.length = 0 := by
      rcases Nat.eq_zero_or_pos ts.length with h0 | h0
      · exact h0
      · obtain ⟨_, _, h', _⟩ := HT.out h0; cases h'
    have TV : Hid (TakVal w (.map none) ts) := Or.inl ⟨rfl, ht0⟩
    have LV := LV0
    have BB := BB0
    clear ht0 HT LV0 BB0
    have MN := hide' (msgs_nil w 0 0)
    have RO := hide' (replicaOf_any none none w)
    go_wp2_with fail
    refine MN.out.mono ?_
    rintro e' w5 ⟨rfl, rfl⟩
    go_wp2_with fail
    refine RO.out.mono ?_
    rintro e' w6 ⟨p6, rfl, hra, hb6⟩
    go_wp2_with fail
    go_ret
    exact ⟨p6, .map none, .map none, rfl, hra, LV.out.below hb6, TV.out.below hb6, BB.out.trans (hb6.mono BB.out.size)⟩
  | some adt =>
    have hml := SM.out.taken
    have hszW := BB0.out.size
    obtain ⟨nt, hnt⟩ : ∃ q, q = ts.length := ⟨_, rfl⟩
    have HTT : Hid (TakenAt B w (some adt) ts) := HT
    have HNT := hide' hnt
    have BM : Hid (Below w.heap.size w (w.alloc (.map #[] 0))) := BB0.out.alloc hszW _
    have LVM : Hid (LogVal (w.alloc (.map #[] 0)) (.map none) es us skip) := LV0.out.below ((Below.refl _ _).alloc (Nat.le_refl _) _)
    rw [← hnt] at hml ⊢
    clear HT hnt
    go_wp2_with fail
    have TM : Hid (TakMap (w.alloc (.map #[] 0)) w.heap.size ts 0) := TakMap.made (heap_alloc_new w _) _
    have HNE : Hid (∀ r, Value.map none = .map (some r) → r ≠ w.heap.size) := hide' (fun r hr => by cases hr)
    generalize w.alloc (.map #[] 0) = W1 at *
    clear LV0 BB0
    go_loopw [14] (fun i w3 => ∃ (k : Nat), k ≤ nt ∧ i = .int .i64 k ∧ Below w.heap.size w w3 ∧ LogVal w3 (.map none) es us skip ∧ TakMap w3 w.heap.size ts k) (fun i _ => nt - (intOf i).toNat)
    case atStart => exact ⟨0, Nat.zero_le _, rfl, BM.out, LVM.out, TM.out⟩
    case round =>
      obtain ⟨kt, hkt, rfl, hb3, hlv3, htm3⟩ := hrel
      clear TM LVM BM
      by_cases hltt : kt < nt
      · obtain ⟨bt, oft, e, hbBt, hcellt⟩ := HTT.out (by have := HNT.out; omega)
        simp only [Option.some.injEq] at e
        subst e
        obtain ⟨g1, g2, g3⟩ := (hcellt kt (by have := HNT.out; omega)).below hbBt (hb3.mono hB)
        have htw := WF.out.tclock _ (getD_mem (d := Tak.none) (show kt < ts.length by have := HNT.out; omega))
        have hts := WF.out.tmember _ (getD_mem (d := Tak.none) (show kt < ts.length by have := HNT.out; omega))
        have ne1 := World.new_ne wr ⟨bt, oft + kt * 3, none⟩ g1
        have ne2 := World.new_ne wr ⟨bt, oft + kt * 3 + 1, none⟩ g2
        have HB3 := hide' hb3
        have HLV3 := hide' hlv3
        have HTM3 := hide' htm3
        have hbtw : bt < wr.heap.size := by have := hb3.size; omega
        clear hb3 hlv3 htm3 hcellt HTT
        obtain ⟨x, hx⟩ : ∃ x, x = ts.getD kt Tak.none := ⟨_, rfl⟩
        have HX := hide' hx
        rw [← hx] at g1 g2 g3 htw hts
        clear hx
        generalize hxc : x.clock = xc at *
        generalize hxm : x.member = xm at *
        generalize hxt : x.time = xt at *
        have HXC := hide' hxc
        have HXM := hide' hxm
        have HXT := hide' hxt
        have HTW := hide' htw
        have HTS := hide' hts
        clear hxc hxm hxt htw hts
        have hki : (kt : Int) < (nt : Int) := by omega
        have hk0 : (0 : Int) ≤ (kt : Int) := by omega
        go_wp2_with fail
        go_region_held3 (fun w' => w'.cell? ⟨bt, oft + kt * 3, none⟩ = some (.int .u64 xc) ∧ w'.cell? ⟨bt, oft + kt * 3 + 1, none⟩ = some (.string xm)) (go_keep) (fail)
        go_wp2_with fail
        have hW2 : Below wr.heap.size wr ((wr.alloc (.cells #[.int .u64 xc, .string xm] 47)).drew) := ((Below.refl _ _).alloc (Nat.le_refl _) _).drew
        have c0 : ((wr.alloc (.cells #[.int .u64 xc, .string xm] 47)).drew).cell? ⟨wr.heap.size, 0, none⟩ = some (.int .u64 xc) := by show (wr.alloc _).cell? _ = _; rw [World.cell?_alloc_at _ _ _ _ rfl]; rfl
        have c1 : ((wr.alloc (.cells #[.int .u64 xc, .string xm] 47)).drew).cell? ⟨wr.heap.size, 1, none⟩ = some (.string xm) := by show (wr.alloc _).cell? _ = _; rw [World.cell?_alloc_at _ _ _ _ rfl]; rfl
        have c2 := (hW2.cell (p := ⟨bt, oft + kt * 3 + 2, none⟩) hbtw).trans g3
        generalize (wr.alloc (.cells #[.int .u64 xc, .string xm] 47)).drew = W2 at *
        have hWd : Below wr.heap.size wr W2.drew := hW2.drew
        obtain ⟨o, hrun, htm4⟩ : ∃ o, (Instr.mapUpdate 68 (.map (some w.heap.size)) (.agg #[.int .u64 xc, .string xm]) (.int .u64 xt)).run Try.prog W2.drew = .ok () (setBlock W2.drew w.heap.size o) ∧ TakMap (setBlock W2.drew w.heap.size o) w.heap.size ts (kt + 1) := by
          have := TakMap.put (HTM3.out.below hWd) (by rw [← HX.out, HXC.out]; exact HTW.out) (by rw [← HX.out, HXM.out]; exact HTS.out)
          rw [← HX.out, HXC.out, HXM.out, HXT.out] at this
          exact this
        obtain ⟨mens, mclock, hmap, _⟩ := HTM3.out.below hWd
        have e0 : wr.heap.size ≠ w.heap.size := ne_of_cell (a := ⟨wr.heap.size, 0, none⟩) hmap c0
        have e1 : bt ≠ w.heap.size := ne_of_cell (a := ⟨bt, oft + kt * 3 + 2, none⟩) hmap c2
        have hblw := HB3.out.size
        have HB4 := hide' (below_setBlock (r := w.heap.size) (o := o) (HB3.out.trans (hWd.mono hblw)) (by have := hszW; omega))
        have HLV4 : Hid (LogVal (setBlock W2.drew w.heap.size o) (.map none) es us skip) := by
          rcases HLV3.out.below hWd with h | ⟨r, h1, h2⟩
          · exact Or.inl h
          · exact Or.inr ⟨r, h1, h2.other hmap (HNE.out r h1)⟩
        have HTM4 := hide' htm4
        clear hW2 hWd htm4 g1 g2 g3 ne1 ne2 hmap
        go_region_held3 (fun w' => w'.cell? ⟨wr.heap.size, 0, none⟩ = some (.int .u64 xc) ∧ w'.cell? ⟨wr.heap.size, 1, none⟩ = some (.string xm) ∧ w'.cell? ⟨bt, oft + kt * 3 + 2, none⟩ = some (.int .u64 xt))
          (first
            | go_keep
            | (go_split_ands; exact ⟨(cell_setBlock (a := ⟨wr.heap.size, 0, none⟩) e0).trans c0, (cell_setBlock (a := ⟨wr.heap.size, 1, none⟩) e0).trans c1, (cell_setBlock (a := ⟨bt, oft + kt * 3 + 2, none⟩) e1).trans c2⟩))
          (fail)
        clear hrun c0 c1 c2
        go_wp2_with fail
        go_roundw
        case rel => exact ⟨kt + 1, by omega, by go_num, HB4.out, HLV4.out, HTM4.out⟩
        case measure => simp [intOf]; omega
      · have hke : kt = ts.length := by have := HNT.out; omega
        rw [hke] at htm3
        have TV : Hid (TakVal wr (.map (some w.heap.size)) ts) := Or.inr ⟨_, rfl, htm3⟩
        have LV := hide' hlv3
        have BB := hide' hb3
        clear hke htm3 hlv3 hb3 HTT
        have MN := hide' (msgs_nil wr 0 0)
        have RO := hide' (replicaOf_any none (some w.heap.size) wr)
        go_wp2_with fail
        refine MN.out.mono ?_
        rintro e' w5 ⟨rfl, rfl⟩
        go_wp2_with fail
        refine RO.out.mono ?_
        rintro e' w6 ⟨p6, rfl, hra, hb6⟩
        go_wp2_with fail
        go_ret
        exact ⟨p6, .map none, .map (some w.heap.size), rfl, hra, LV.out.below hb6, TV.out.below hb6, BB.out.trans (hb6.mono BB.out.size)⟩

theorem replica_any (B : Nat) (ao at' : Option Addr) (cap capt : Nat) (es : List Ent) (ts : List Tak) (us : Bool) (skip : ByteArray) (w : World) (hB : B ≤ w.heap.size) (h : LogAt B w ao es) (ht : TakenAt B w at' ts)
    (sm : Small es ts) (wf : Wf es ts) :
    Calls Try.prog 20 #[.slice ao es.length cap, .slice at' ts.length capt, .slice none 0 0, .string skip, .bool us] w (Done w es ts us skip) := by
  cases ao with
  | none =>
    have h0 : es.length = 0 := by
      rcases Nat.eq_zero_or_pos es.length with h0 | h0
      · exact h0
      · obtain ⟨_, _, h', _⟩ := h h0; cases h'
    rw [h0]
    exact replica_nil B at' cap capt es ts us skip w hB h0 ht sm wf
  | some ad => exact replica_log B ad at' cap capt es ts us skip w hB h ht sm wf
end Go.Proofs.Qxb6603225a
