import Derived.Test.Qxb6603225aSince
namespace Go.Proofs.Qxb6603225a
open Go.RowKit Go.Maps

set_option maxHeartbeats 400000 in
theorem since_any (p : Nat) (lm tm : Value) (es : List Ent) (ts : List Tak) (us : Bool) (skip : ByteArray) (w : World) (h : ReplicaAt w p lm tm) (hl : LogVal w lm es us skip) (ht : TakVal w tm ts)
    (wf : Wf es ts) (df : Defined es ts us skip) :
    Calls Try.prog 27 #[.pointer (some ⟨p, 0, none⟩)] w (RetU64 fun x w' => Oldest es ts us skip x ∧ Below w.heap.size w w') := by
  rcases hl with ⟨rfl, h0⟩ | ⟨r, rfl, hl⟩
  · have SN := hide' (since_nil p tm w h)
    have HO : Hid (Oldest es ts us skip 0) := Or.inl ⟨fun i hi => by have := hi.lt; omega, rfl⟩
    clear h ht wf df
    go_enter Try.func27, Try.ntmps27
    go_wp2_with fail
    refine SN.out.mono ?_
    rintro e w' ⟨rfl, hb⟩
    go_wp2_with fail
    go_ret
    exact RetU64.mk ⟨HO.out, hb⟩
  · have SM := hide' (since_map p r tm es ts us skip w h hl ht wf df)
    clear h ht wf df hl
    go_enter Try.func27, Try.ntmps27
    go_wp2_with fail
    refine SM.out.mono ?_
    rintro e w' ⟨x, rfl, ho, hb⟩
    have HO := hide' ho
    have HB := hide' hb
    clear ho hb
    go_wp2_with fail
    go_ret
    exact RetU64.mk ⟨HO.out, HB.out⟩

/-- Without a sender to leave out, an entry stands in the map just if zzAlive says so. -/
theorem live_iff {es : List Ent} {sk : ByteArray} {i : Nat} (hi : i < es.length) : aliveB es i = true ↔ Live es false sk i := by
  constructor
  · intro h
    refine ⟨hi, (fun hs => by cases hs.1), fun j hij hj he => ?_⟩
    rw [aliveB_false hij hj (by rw [he]; simp)] at h
    cases h
  · intro h
    refine aliveB_true fun j hij hj => ?_
    rw [beq_eq_false_iff_ne]
    intro he
    exact h.last j hij hj (bytes_eq he)

theorem defined_of {es : List Ent} {ts : List Tak} {sk : ByteArray} (h : Firsts es ts es.length) : Defined es ts false sk := fun i hi => h i hi.lt ((live_iff hi.lt).2 hi)

/-- The law's end: true, and nothing old has turned. -/
def Holds' (w : World) (e : Ending) (w' : World) : Prop := e = .returned (.bool true) ∧ Below w.heap.size w w'
theorem Holds'.mk {w w' : World} (h : Below w.heap.size w w') : Holds' w (.returned (.bool true)) w' := ⟨rfl, h⟩

theorem last_live {es : List Ent} {sk : ByteArray} (h : 0 < es.length) : Live es false sk (es.length - 1) :=
  ⟨by omega, (fun hs => by cases hs.1), fun j h1 h2 => by omega⟩

set_option maxHeartbeats 1000000 in
set_option maxRecDepth 100000 in
theorem fn7 (ao at' : Option Addr) (cap capt : Nat) (es : List Ent) (ts : List Tak) (w : World) (h : LogAt w.heap.size w ao es) (ht : TakenAt w.heap.size w at' ts) (wf : Wf es ts) :
    Calls Try.prog 7 #[.slice ao es.length cap, .slice at' ts.length capt] w (Holds' w) := by
  have C24 := hide' (bytes24_any w.heap.size ao at' cap capt es ts w h ht)
  go_enter Try.func7, Try.ntmps7
  go_wp2_with fail
  refine C24.out.mono ?_
  rintro e w0 ⟨r, rfl, rfl, hr⟩
  cases r with
  | false =>
    go_wp2_with fail
    go_ret
    exact Holds'.mk (Below.refl _ _)
  | true =>
  have sm := hr rfl
  clear hr C24
  have C19 := hide' (fits_any w0.heap.size ao at' cap capt es ts w0 h ht sm.log sm.taken sm.msgs)
  have C25 := hide' (alive_any w0.heap.size ao cap es ⟨#[]⟩ w0 (Nat.le_refl _) h sm.log)
  have HL := hide' h
  have HT := hide' ht
  have SM := hide' sm
  have WF := hide' wf
  clear h ht sm wf
  go_wp2_with fail
  refine C19.out.mono ?_
  rintro e w1 ⟨r, rfl, hw1⟩
  subst hw1
  cases r with
  | false =>
    go_wp2_with fail
    go_ret
    exact Holds'.mk (Below.refl _ _)
  | true =>
  go_wp2_with fail
  refine C25.out.mono ?_
  rintro e w2 ⟨rfl, hb2, hg2, hal⟩
  have HL2 := hide' (HL.out.below hb2)
  have HT2 := hide' (HT.out.below hb2)
  have C26 := hide' (firsts_any w1.heap.size ao at' cap capt w1.heap.size es.length es ts w2 (by omega) HL2.out HT2.out hg2 hal SM.out.log SM.out.taken)
  have HB2 := hide' hb2
  have HAL := hide' hal
  clear hb2 hal HL HT C19 C25
  go_wp2_with fail
  refine C26.out.mono ?_
  rintro e w3 ⟨r, rfl, hb3, hr⟩
  have HB3 := hide' (HB2.out.trans (hb3.mono HB2.out.size))
  cases r with
  | false =>
    clear hb3 hr
    go_wp2_with fail
    go_ret
    exact Holds'.mk HB3.out
  | true =>
  have hd := defined_of (sk := ⟨#[]⟩) (hr rfl)
  have hFI := hr rfl
  have HL3 := hide' (HL2.out.below (hb3.mono (by omega)))
  have HT3 := hide' (HT2.out.below (hb3.mono (by omega)))
  have HAL3 : Hid (∀ j, j < es.length → w3.cell? ⟨w1.heap.size, j, none⟩ = some (.bool (aliveB es j))) := hide' (fun j hj => (hb3.cell (p := ⟨w1.heap.size, j, none⟩) hg2).trans (HAL.out j hj))
  have C20 := hide' (replica_any w1.heap.size ao at' cap capt es ts false ⟨#[]⟩ w3 (by have := HB3.out.size; omega) HL3.out HT3.out SM.out WF.out)
  have HD := hide' hd
  have HFI := hide' hFI
  have hsz3 : w1.heap.size < w3.heap.size := by have := hb3.size; omega
  clear hb3 hr hd hFI C26 HL2 HT2 HAL HB2
  go_wp2_with fail
  refine C20.out.mono ?_
  rintro e w4 ⟨p, lm, tm, rfl, hra, hlv, htv, hb4⟩
  have C27 := hide' (since_any p lm tm es ts false ⟨#[]⟩ w4 hra hlv htv WF.out HD.out)
  have HB4 := hide' hb4
  clear hra hlv htv hb4 C20
  go_wp2_with fail
  refine C27.out.mono ?_
  rintro e w5 ⟨x, rfl, hold, hb5⟩
  have hbb := HB4.out.trans (hb5.mono HB4.out.size)
  have HB5 := hide' (HB3.out.trans (hbb.mono HB3.out.size))
  have HL5 := hide' (HL3.out.below (hbb.mono (by omega)))
  have HT5 := hide' (HT3.out.below (hbb.mono (by omega)))
  have HAL5 : Hid (∀ j, j < es.length → w5.cell? ⟨w1.heap.size, j, none⟩ = some (.bool (aliveB es j))) := hide' (fun j hj => (hbb.cell (p := ⟨w1.heap.size, j, none⟩) hsz3).trans (HAL3.out j hj))
  have HO := hide' hold
  have hsz5 : w1.heap.size < w5.heap.size := by have := hbb.size; omega
  clear hold hb5 hbb C27 HL3 HT3 HAL3 HB4 HB3
  by_cases h0 : es.length = 0
  · have hg0 : (((es.length : Nat) : Int) == 0) = true := by simp [h0]
    have hx : x = 0 := by
      rcases HO.out with ⟨_, h⟩ | ⟨⟨i, hi, _⟩, _⟩
      · exact h
      · have := hi.lt; omega
    subst hx
    clear HO h0
    go_wp2_with fail
    go_ret
    exact Holds'.mk HB5.out
  · have hg0 : (((es.length : Nat) : Int) == 0) = false := beq_eq_false_iff_ne.2 (by omega)
    have hmin : (∃ i, Live es false ⟨#[]⟩ i ∧ effAt es ts i = x) ∧ ∀ i, Live es false ⟨#[]⟩ i → x ≤ effAt es ts i := by
      rcases HO.out with ⟨hno, _⟩ | h
      · exact absurd (last_live (by omega)) (hno _)
      · exact h
    have HMIN := hide' hmin
    have hml := SM.out.log
    have hmt := SM.out.taken
    clear hmin HO
    obtain ⟨n, hn⟩ : ∃ n, n = es.length := ⟨_, rfl⟩
    have HN := hide' hn
    rw [← hn] at hg0 hml h0 ⊢
    clear hn
    go_wp2_with fail
    go_loopw [7, 8] (fun a i wr => ∃ (k : Nat) (b : Bool), k ≤ n ∧ i = .int .i64 k ∧ a = .bool b ∧ Below w5.heap.size w5 wr ∧ ∀ j, j < k → Live es false ⟨#[]⟩ j → effAt es ts j = x → b = true) (fun _ i _ => n - (intOf i).toNat)
    case atStart => exact ⟨0, false, Nat.zero_le _, rfl, rfl, Below.refl _ _, fun j hj => by omega⟩
    case round =>
      obtain ⟨k, bb, hk, rfl, rfl, hb, hat⟩ := hrel
      have HB := hide' hb
      have HAT := hide' hat
      clear hat
      by_cases hlt : k < n
      · have ha1 := (hb.cell (p := ⟨w1.heap.size, k, none⟩) hsz5).trans (HAL5.out k (by have := HN.out; omega))
        obtain ⟨al, hale⟩ : ∃ a, a = aliveB es k := ⟨_, rfl⟩
        rw [← hale] at ha1
        have HALE := hide' hale
        clear hale
        have hli := live_iff (es := es) (sk := ⟨#[]⟩) (i := k) (by have := HN.out; omega)
        have HLI := hide' hli
        clear hli
        cases al with
        | false =>
          clear hb
          go_wp2_with fail
          go_roundw
          case rel =>
            refine ⟨k + 1, bb, by omega, by go_num, rfl, HB.out, fun j hj hl he => ?_⟩
            by_cases hjk : j = k
            · subst hjk; have := HLI.out.2 hl; rw [← HALE.out] at this; cases this
            · exact HAT.out j (by omega) hl he
          case measure => simp [intOf]; omega
        | true =>
          have hlive := HLI.out.1 HALE.out.symm
          obtain ⟨hpos, _⟩ := HD.out k hlive
          have hle := HMIN.out.2 k hlive
          obtain ⟨b, off, hao, hbB, hcell⟩ := HL5.out (by have := HN.out; omega)
          obtain ⟨h1, h2, h3⟩ := (hcell k (by have := HN.out; omega)).below hbB (hb.mono (by omega))
          obtain ⟨e, he⟩ : ∃ e, e = es.getD k Ent.none := ⟨_, rfl⟩
          rw [← he] at h1 h2 h3 hpos
          obtain ⟨bm, om, hma, hbm, hmc⟩ := h3 hpos
          obtain ⟨m1, m2, m3, _⟩ := hmc 0 hpos
          rw [show om + 0 * 3 = om by omega] at m1 m2 m3
          rw [hma] at h2
          obtain ⟨y, hy⟩ : ∃ y, y = e.msgs.getD 0 Msg.none := ⟨_, rfl⟩
          rw [← hy] at m1 m2 m3
          have hef : effAt es ts k = eff y.clock y.member ts := by rw [hy, he]; rfl
          have ef := eff_any w1.heap.size at' capt y.clock y.member y.ba y.bl y.bc ts wr (by have := hb.size; omega) (HT5.out.below (hb.mono (by omega))) hmt
          rw [← hef] at ef
          have EF := hide' ef
          have hmi : (0 : Int) < ((e.msgs.length : Nat) : Int) := by omega
          have HLIVE := hide' hlive
          clear hy hef ef hmc h3 hma he hcell hb hlive h1 hpos
          subst hao
          generalize hee : effAt es ts k = ek at *
          have HEE := hide' hee
          clear hee
          generalize y.clock = yc at *
          generalize y.member = ym at *
          generalize y.ba = ya at *
          generalize y.bl = yl at *
          generalize y.bc = yk at *
          generalize e.msgs.length = nm at *
          generalize e.mc = mc at *
          go_wp2_with fail
          refine EF.out.mono ?_
          rintro e' w' ⟨rfl, hb'⟩
          have HB' := hide' (HB.out.trans (hb'.mono HB.out.size))
          clear hb' EF
          by_cases hq : (ek == x) = true
          · go_wp2_with fail
            go_roundw
            case rel => exact ⟨k + 1, true, by omega, by go_num, rfl, HB'.out, fun _ _ _ _ => rfl⟩
            case measure => simp [intOf]; omega
          · replace hq : (ek == x) = false := by simpa using hq
            go_wp2_with fail
            go_roundw
            case rel =>
              refine ⟨k + 1, bb, by omega, by go_num, rfl, HB'.out, fun j hj hl he => ?_⟩
              by_cases hjk : j = k
              · subst hjk; rw [HEE.out] at he; exact absurd he (beq_eq_false_iff_ne.1 hq)
              · exact HAT.out j (by omega) hl he
            case measure => simp [intOf]; omega
      · have hbt : bb = true := by
          obtain ⟨i, hi, hei⟩ := HMIN.out.1
          exact HAT.out i (by have := hi.lt; have := HN.out; omega) hi hei
        subst hbt
        clear hb
        go_wp2_with fail
        go_ret
        exact Holds'.mk (HB5.out.trans (HB.out.mono HB5.out.size))
end Go.Proofs.Qxb6603225a
