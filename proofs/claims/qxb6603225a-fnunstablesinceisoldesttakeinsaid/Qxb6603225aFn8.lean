import Derived.Test.Qxb6603225aFn7
namespace Go.Proofs.Qxb6603225a
open Go.RowKit Go.Maps

theorem live_less {es : List Ent} {G sk : ByteArray} {i : Nat} (h : Live es true G i) : Live es false sk i := ⟨h.lt, (fun hs => by cases hs.1), h.last⟩

theorem after_zero {es : List Ent} {ts : List Tak} {G : ByteArray} {y : Int} (h : Oldest es ts true G y) (hall : ∀ j, j < es.length → (es.getD j Ent.none).sender = G) : y = 0 := by
  rcases h with ⟨_, h⟩ | ⟨⟨i, hi, _⟩, _⟩
  · exact h
  · exact absurd ⟨rfl, hall i hi.lt⟩ hi.no

theorem exists_live {es : List Ent} {G : ByteArray} : ∀ (d i : Nat), es.length - i ≤ d → i < es.length → (es.getD i Ent.none).sender ≠ G → ∃ j, Live es true G j
  | 0, i, hd, hi, _ => by omega
  | d + 1, i, hd, hi, hne => by
    by_cases hx : ∃ j, i < j ∧ j < es.length ∧ (es.getD j Ent.none).sender = (es.getD i Ent.none).sender
    · obtain ⟨j, h1, h2, h3⟩ := hx
      exact exists_live d j (by omega) h2 (by rw [h3]; exact hne)
    · exact ⟨i, hi, (fun hs => hne hs.2), fun j h1 h2 he => hx ⟨j, h1, h2, he⟩⟩

theorem after_above {es : List Ent} {ts : List Tak} {G sk : ByteArray} {x y : Int} (hx : Oldest es ts false sk x) (hy : Oldest es ts true G y) (hd : Defined es ts true G) (hn : 0 < es.length)
    (hex : ∃ j, j < es.length ∧ (es.getD j Ent.none).sender ≠ G) : y ≠ 0 ∧ x ≤ y := by
  obtain ⟨j, hj, hne⟩ := hex
  obtain ⟨i, hi⟩ := exists_live es.length j (by omega) hj hne
  rcases hy with ⟨hno, _⟩ | ⟨⟨i', hi', he'⟩, _⟩
  · exact absurd hi (hno i)
  · refine ⟨by rw [← he']; exact (hd i' hi').2, ?_⟩
    rcases hx with ⟨hno, _⟩ | ⟨_, hmin⟩
    · exact absurd (last_live hn) (hno _)
    · rw [← he']; exact hmin i' (live_less hi')

set_option maxHeartbeats 1000000 in
set_option maxRecDepth 100000 in
theorem fn8 (ao at' : Option Addr) (cap capt : Nat) (es : List Ent) (ts : List Tak) (w : World) (h : LogAt w.heap.size w ao es) (ht : TakenAt w.heap.size w at' ts) (wf : Wf es ts) :
    Calls Try.prog 8 #[.slice ao es.length cap, .slice at' ts.length capt] w (Holds' w) := by
  have C29 := hide' (bytes29_any w.heap.size ao at' cap capt es ts w h ht)
  go_enter Try.func8, Try.ntmps8
  go_wp2_with fail
  refine C29.out.mono ?_
  rintro e w0 ⟨r, rfl, rfl, hr⟩
  cases r with
  | false =>
    go_wp2_with fail
    go_ret
    exact Holds'.mk (Below.refl _ _)
  | true =>
  have sm := hr rfl
  clear hr C29
  have C19 := hide' (fits_any w0.heap.size ao at' cap capt es ts w0 h ht sm.log sm.taken sm.msgs)
  have C25 := hide' (alive_any w0.heap.size ao cap es ⟨#[]⟩ w0 (Nat.le_refl _) h sm.log)
  have HL := hide' h
  have HT := hide' ht
  have SM := hide' sm
  have WF := hide' wf
  clear h ht sm wf
  go_wp2_with fail
  refine C19.out.mono ?_
  rintro e w1 ⟨r, rfl, hw1⟩
  subst hw1
  cases r with
  | false =>
    go_wp2_with fail
    go_ret
    exact Holds'.mk (Below.refl _ _)
  | true =>
  by_cases h0 : es.length = 0
  · have hg0 : (((es.length : Nat) : Int) == 0) = true := by simp [h0]
    clear h0
    go_wp2_with fail
    go_ret
    exact Holds'.mk (Below.refl _ _)
  have hg0 : (((es.length : Nat) : Int) == 0) = false := beq_eq_false_iff_ne.2 (by omega)
  go_wp2_with fail
  refine C25.out.mono ?_
  rintro e w2 ⟨rfl, hb2, hg2, hal⟩
  have HL2 := hide' (HL.out.below hb2)
  have HT2 := hide' (HT.out.below hb2)
  have C26 := hide' (firsts_any w1.heap.size ao at' cap capt w1.heap.size es.length es ts w2 (by omega) HL2.out HT2.out hg2 hal SM.out.log SM.out.taken)
  have HB2 := hide' hb2
  have HAL := hide' hal
  clear hb2 hal HL HT C19 C25
  go_wp2_with fail
  refine C26.out.mono ?_
  rintro e w3 ⟨r, rfl, hb3, hr⟩
  have HB3 := hide' (HB2.out.trans (hb3.mono HB2.out.size))
  cases r with
  | false =>
    clear hb3 hr
    go_wp2_with fail
    go_ret
    exact Holds'.mk HB3.out
  | true =>
  have hd := defined_of (sk := ⟨#[]⟩) (hr rfl)
  have hFI := hr rfl
  have HL3 := hide' (HL2.out.below (hb3.mono (by omega)))
  have HT3 := hide' (HT2.out.below (hb3.mono (by omega)))
  have HAL3 : Hid (∀ j, j < es.length → w3.cell? ⟨w1.heap.size, j, none⟩ = some (.bool (aliveB es j))) := hide' (fun j hj => (hb3.cell (p := ⟨w1.heap.size, j, none⟩) hg2).trans (HAL.out j hj))
  have C20 := hide' (replica_any w1.heap.size ao at' cap capt es ts false ⟨#[]⟩ w3 (by have := HB3.out.size; omega) HL3.out HT3.out SM.out WF.out)
  have HD := hide' hd
  have HFI := hide' hFI
  have hsz3 : w1.heap.size < w3.heap.size := by have := hb3.size; omega
  obtain ⟨b, off, hao, hbB, hcell⟩ := HL3.out (by omega)
  have hgone := (hcell (es.length - 1) (by omega)).sender
  obtain ⟨G, hG⟩ : ∃ G, G = (es.getD (es.length - 1) Ent.none).sender := ⟨_, rfl⟩
  rw [← hG] at hgone
  have HG := hide' hG
  have hnat : ((es.length : Int) - 1).toNat = es.length - 1 := by omega
  have hml := SM.out.log
  have hmt := SM.out.taken
  clear hb3 hr hd hFI C26 HL2 HT2 HAL HB2 hcell hG
  subst hao
  go_wp2_with fail
  refine C20.out.mono ?_
  rintro e w4 ⟨p, lm, tm, rfl, hra, hlv, htv, hb4⟩
  have C27 := hide' (since_any p lm tm es ts false ⟨#[]⟩ w4 hra hlv htv WF.out HD.out)
  have HB4 := hide' hb4
  clear hra hlv htv hb4 C20
  go_wp2_with fail
  refine C27.out.mono ?_
  rintro e w5 ⟨x, rfl, hold, hb5⟩
  have hbb := HB4.out.trans (hb5.mono HB4.out.size)
  have HB5 := hide' (HB3.out.trans (hbb.mono HB3.out.size))
  have HL5 := hide' (HL3.out.below (hbb.mono (by omega)))
  have HT5 := hide' (HT3.out.below (hbb.mono (by omega)))
  have HAL5 : Hid (∀ j, j < es.length → w5.cell? ⟨w1.heap.size, j, none⟩ = some (.bool (aliveB es j))) := hide' (fun j hj => (hbb.cell (p := ⟨w1.heap.size, j, none⟩) hsz3).trans (HAL3.out j hj))
  have HO := hide' hold
  have hsz5 : w1.heap.size < w5.heap.size := by have := hbb.size; omega
  clear hold hb5 hbb C27 HL3 HT3 HAL3 HB4 HB3
  have hszw : w1.heap.size < w5.heap.size := hsz5
  have C20b := hide' (replica_any w1.heap.size (some ⟨b, off, none⟩) at' cap capt es ts true G w5 (by omega) HL5.out HT5.out SM.out WF.out)
  have HD2 : Hid (Defined es ts true G) := hide' (fun i hi => HD.out i (live_less hi))
  clear HAL5
  go_wp2_with fail
  refine C20b.out.mono ?_
  rintro e w6 ⟨p6, lm6, tm6, rfl, hra6, hlv6, htv6, hb6⟩
  have C27b := hide' (since_any p6 lm6 tm6 es ts true G w6 hra6 hlv6 htv6 WF.out HD2.out)
  have HB6 := hide' hb6
  clear hra6 hlv6 htv6 hb6 C20b
  go_wp2_with fail
  refine C27b.out.mono ?_
  rintro e w7 ⟨y, rfl, hold7, hb7⟩
  have hbb7 := HB6.out.trans (hb7.mono HB6.out.size)
  have HB7 := hide' (HB5.out.trans (hbb7.mono HB5.out.size))
  have HL7 := hide' (HL5.out.below (hbb7.mono (by omega)))
  have HO7 := hide' hold7
  clear hold7 hb7 hbb7 C27b HB6 HL5 HT5 hgone
  have LAW0 : Hid ((∀ j, j < es.length → (es.getD j Ent.none).sender = G) → y = 0) := hide' (fun hall => after_zero HO7.out hall)
  have LAW1 : Hid ((∃ j, j < es.length ∧ (es.getD j Ent.none).sender ≠ G) → y ≠ 0 ∧ x ≤ y) := hide' (fun hex => after_above HO.out HO7.out HD2.out (by omega) hex)
  clear HO HO7 HD HD2 HFI
  obtain ⟨n, hn⟩ : ∃ n, n = es.length := ⟨_, rfl⟩
  have HN := hide' hn
  rw [← hn] at hg0 hml h0 ⊢
  clear hn hnat
  go_wp2_with fail
  go_loop [9, 10] (fun a i => ∃ (k : Nat) (bb : Bool), k ≤ n ∧ i = .int .i64 k ∧ a = .bool bb ∧ (bb = false → ∀ j, j < k → (es.getD j Ent.none).sender = G) ∧ (bb = true → ∃ j, j < es.length ∧ (es.getD j Ent.none).sender ≠ G)) (fun _ i => n - (intOf i).toNat)
  case atStart => exact ⟨0, false, Nat.zero_le _, rfl, rfl, fun _ j hj => by omega, fun h => by cases h⟩
  case round =>
    obtain ⟨k, bb, hk, rfl, rfl, hf, htt⟩ := hrel
    have HF := hide' hf
    have HTT := hide' htt
    clear hf htt
    by_cases hlt : k < n
    · obtain ⟨b2, off2, he2, _, hcell2⟩ := HL7.out (by have := HN.out; omega)
      simp only [Option.some.injEq, Addr.mk.injEq, and_true] at he2
      obtain ⟨rfl, rfl⟩ := he2
      have h1 := (hcell2 k (by have := HN.out; omega)).sender
      obtain ⟨s, hs⟩ : ∃ s, s = (es.getD k Ent.none).sender := ⟨_, rfl⟩
      rw [← hs] at h1
      have HS := hide' hs
      clear hs hcell2
      by_cases hq : (s.toList == G.toList) = true
      · go_wp2_with fail
        go_round
        case rel =>
          refine ⟨k + 1, bb, by omega, by go_num, rfl, fun hb j hj => ?_, HTT.out⟩
          by_cases hjk : j = k
          · subst hjk; rw [← HS.out]; exact bytes_eq (beq_iff_eq.1 hq)
          · exact HF.out hb j (by omega)
        case measure => simp [intOf]; omega
      · replace hq : (s.toList == G.toList) = false := by simpa using hq
        go_wp2_with fail
        go_round
        case rel => exact ⟨k + 1, true, by omega, by go_num, rfl, (fun h => by cases h), fun _ => ⟨k, by have := HN.out; omega, by rw [← HS.out]; intro e'; rw [e'] at hq; simp at hq⟩⟩
        case measure => simp [intOf]; omega
    · cases bb with
      | false =>
        have hy : y = 0 := LAW0.out (fun j hj => HF.out rfl j (by have := HN.out; omega))
        subst hy
        clear LAW0 LAW1 HF HTT
        go_wp2_with fail
        go_ret
        exact Holds'.mk HB7.out
      | true =>
        obtain ⟨hy0, hxy⟩ := LAW1.out (HTT.out rfl)
        have hyb : (y != 0) = true := by rw [bne_iff_ne]; exact hy0
        clear LAW0 LAW1 HF HTT hy0
        go_wp2_with fail
        go_ret
        exact Holds'.mk HB7.out
end Go.Proofs.Qxb6603225a
