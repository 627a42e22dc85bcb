import Derived.Test.Qxb6603225aData
namespace Go.Proofs.Qxb6603225a
open Go.RowKit
/-! ### zzBytes_.. of the two laws on unstableSince: the bound on the lengths -/
def Good (es : List Ent) (k : Nat) : Prop := ∀ j, j < k → (es.getD j Ent.none).msgs.length ≤ 1048576 ∧ ∀ i, i < (es.getD j Ent.none).msgs.length → ((es.getD j Ent.none).msgs.getD i Msg.none).bl ≤ 1048576
theorem Good.step {es : List Ent} {k : Nat} {e : Ent} (h : Good es k) (he : e = es.getD k Ent.none) (h1 : e.msgs.length ≤ 1048576) (h2 : ∀ i, i < e.msgs.length → (e.msgs.getD i Msg.none).bl ≤ 1048576) : Good es (k + 1) := fun j hj => by
  by_cases hjk : j = k
  · subst hjk; rw [← he]; exact ⟨h1, h2⟩
  · exact h j (by omega)
structure Small (es : List Ent) (ts : List Tak) : Prop where
  log : es.length ≤ 1048576
  taken : ts.length ≤ 1048576
  msgs : ∀ e ∈ es, e.msgs.length ≤ 1048576
  body : ∀ e ∈ es, ∀ m ∈ e.msgs, m.bl ≤ 1048576
theorem small_of {es : List Ent} {ts : List Tak} (h1 : es.length ≤ 1048576) (h2 : ts.length ≤ 1048576) (h : Good es es.length) : Small es ts := by
  refine ⟨h1, h2, fun e he => ?_, fun e he m hm => ?_⟩
  · obtain ⟨j, hj, rfl⟩ := List.mem_iff_getElem.1 he
    have := (h j hj).1
    rwa [List.getD, List.getElem?_eq_getElem hj] at this
  · obtain ⟨j, hj, rfl⟩ := List.mem_iff_getElem.1 he
    obtain ⟨i, hi, rfl⟩ := List.mem_iff_getElem.1 hm
    have hh := (h j hj).2
    rw [List.getD, List.getElem?_eq_getElem hj] at hh
    have := hh i hi
    rw [Option.getD_some, List.getD, List.getElem?_eq_getElem hi] at this
    exact this

set_option maxHeartbeats 2000000 in
set_option maxRecDepth 100000 in
theorem bytes24_any (B : Nat) (ao at' : Option Addr) (cap capt : Nat) (es : List Ent) (ts : List Tak) (w : World) (h : LogAt B w ao es) (ht : TakenAt B w at' ts) :
    Calls Try.prog 24 #[.slice ao es.length cap, .slice at' ts.length capt] w (RetBool' fun r w' => w' = w ∧ (r = true → Small es ts)) := by
  obtain ⟨n, hn⟩ : ∃ n, n = es.length := ⟨_, rfl⟩
  obtain ⟨m, hm'⟩ : ∃ m, m = ts.length := ⟨_, rfl⟩
  unfold LogAt at h
  unfold TakenAt at ht
  have HN : Hid (n = es.length) := hn
  have HN' : Hid (m = ts.length) := hm'
  rw [← hn] at h ⊢
  rw [← hm'] at ht ⊢
  clear hn hm'
  have H := show Hid _ from h
  have HT := show Hid _ from ht
  clear h ht
  by_cases c1 : (n : Int) ≤ 1048576
  case neg =>
    go_enter Try.func24, Try.ntmps24
    go_wp2
    go_ret
    exact RetBool'.mk (r := false) ⟨rfl, fun h => by cases h⟩
  go_enter Try.func24, Try.ntmps24
  go_wp2
  go_loop [5, 6] (fun t i => ∃ (k : Nat) (r : Int), k ≤ n ∧ i = .int .i64 k ∧ t = .int .i64 r ∧ Good es k) (fun _ i => n - (intOf i).toNat)
  case atStart => exact ⟨0, _, Nat.zero_le _, rfl, rfl, fun j hj => by omega⟩
  case round =>
    obtain ⟨k, r, hk, rfl, rfl, hg⟩ := hrel
    have HG := show Hid _ from hg
    clear hg
    by_cases hlt : k < n
    · obtain ⟨b, off, rfl, hb, hcell⟩ := H.out (by omega)
      obtain ⟨h1, h2, h3⟩ := hcell k hlt
      obtain ⟨e, he⟩ : ∃ e, e = es.getD k Ent.none := ⟨_, rfl⟩
      rw [← he] at h1 h2 h3
      have HE := show Hid _ from he
      clear hcell HT H he
      obtain ⟨nm, hnm⟩ : ∃ n, n = e.msgs.length := ⟨_, rfl⟩
      unfold MsgsAt at h3
      rw [← hnm] at h2 h3
      have HNM := show Hid _ from hnm
      clear hnm
      generalize e.ma = ma at *
      generalize e.mc = mc at *
      generalize e.sender = sd at *
      have K3 := show Hid _ from h3
      clear h3
      by_cases c3 : (nm : Int) ≤ 1048576
      case neg =>
        go_wp2
        all_goals (go_ret; exact RetBool'.mk (r := false) ⟨rfl, fun h => by cases h⟩)
      go_wp2
      · go_ret
        exact RetBool'.mk (r := false) ⟨rfl, fun h => by cases h⟩
      · go_ret
        exact RetBool'.mk (r := false) ⟨rfl, fun h => by cases h⟩
      · go_ret
        exact RetBool'.mk (r := false) ⟨rfl, fun h => by cases h⟩
      · go_loop [5, 7] (fun t i => ∃ (k : Nat) (r : Int), k ≤ nm ∧ i = .int .i64 k ∧ t = .int .i64 r ∧ ∀ j, j < k → (e.msgs.getD j Msg.none).bl ≤ 1048576) (fun _ i => nm - (intOf i).toNat)
        case atStart => exact ⟨0, _, Nat.zero_le _, rfl, rfl, fun j hj => by omega⟩
        case round =>
          obtain ⟨k2, r2, hk2, rfl, rfl, hg2⟩ := hrel
          have HG2 := show Hid _ from hg2
          clear hg2
          by_cases hlt2 : k2 < nm
          · obtain ⟨b2, off2, rfl, hb2, hcell2⟩ := K3.out (by omega)
            obtain ⟨g1, g2, g3, _⟩ := hcell2 k2 hlt2
            obtain ⟨q, hq⟩ : ∃ q, q = e.msgs.getD k2 Msg.none := ⟨_, rfl⟩
            rw [← hq] at g1 g2 g3
            have HQ := show Hid _ from hq
            clear hcell2 hq K3
            obtain ⟨bl, hbl⟩ : ∃ x, x = q.bl := ⟨_, rfl⟩
            have HBL := show Hid _ from hbl
            rw [← hbl] at g3
            clear hbl
            generalize q.ba = qa at *
            generalize q.bc = qc at *
            generalize q.member = qm at *
            by_cases c4 : (bl : Int) ≤ 1048576
            case neg =>
              go_wp2
              all_goals (go_ret; exact RetBool'.mk (r := false) ⟨rfl, fun h => by cases h⟩)
            go_wp2
            all_goals first
              | (go_ret; exact RetBool'.mk (r := false) ⟨rfl, fun h => by cases h⟩)
              | (go_round
                 case rel =>
                   refine ⟨k2 + 1, _, by omega, by go_num, rfl, fun j hj => ?_⟩
                   by_cases hjk : j = k2
                   · subst hjk; rw [← HQ.out, ← HBL.out]; omega
                   · exact HG2.out j (by omega)
                 case measure => simp [intOf]; omega)
          · have hgk : Good es (k + 1) := Good.step HG.out HE.out (by have := HNM.out; omega) (fun j hj => HG2.out j (by have := HNM.out; omega))
            have HGK := show Hid _ from hgk
            clear hgk K3
            go_wp2
            go_round
            case rel => exact ⟨k + 1, _, by omega, by go_num, rfl, HGK.out⟩
            case measure => simp [intOf]; omega
    · have hgn : Good es es.length := by have := HN.out; rw [← this]; rw [show n = k by omega]; exact HG.out
      have HGN := show Hid _ from hgn
      clear hgn H HG
      by_cases c2 : (m : Int) ≤ 1048576
      case neg =>
        go_wp2
        go_ret
        exact RetBool'.mk (r := false) ⟨rfl, fun h => by cases h⟩
      go_wp2
      · go_ret
        exact RetBool'.mk (r := false) ⟨rfl, fun h => by cases h⟩
      · go_loop [5, 8] (fun t i => ∃ (k : Nat) (r : Int), k ≤ m ∧ i = .int .i64 k ∧ t = .int .i64 r) (fun _ i => m - (intOf i).toNat)
        case atStart => exact ⟨0, _, Nat.zero_le _, rfl, rfl⟩
        case round =>
          clear hlt
          obtain ⟨k, r, hk, rfl, rfl⟩ := hrel
          by_cases hlt : k < m
          · obtain ⟨b, off, rfl, hb, hcell⟩ := HT.out (by omega)
            obtain ⟨h1, h2, h3⟩ := hcell k hlt
            generalize ts.getD k Tak.none = e at *
            clear hcell HT
            go_wp2
            all_goals first
              | (go_round
                 case rel => exact ⟨k + 1, _, by omega, by go_num, rfl⟩
                 case measure => simp [intOf]; omega)
              | (go_ret; exact RetBool'.mk (r := false) ⟨rfl, fun h => by cases h⟩)
          · clear HT
            go_wp2
            go_ret
            exact RetBool'.mk (r := true) ⟨rfl, fun _ => small_of (by have := HN.out; omega) (by have := HN'.out; omega) HGN.out⟩


set_option maxHeartbeats 2000000 in
set_option maxRecDepth 100000 in
theorem bytes29_any (B : Nat) (ao at' : Option Addr) (cap capt : Nat) (es : List Ent) (ts : List Tak) (w : World) (h : LogAt B w ao es) (ht : TakenAt B w at' ts) :
    Calls Try.prog 29 #[.slice ao es.length cap, .slice at' ts.length capt] w (RetBool' fun r w' => w' = w ∧ (r = true → Small es ts)) := by
  obtain ⟨n, hn⟩ : ∃ n, n = es.length := ⟨_, rfl⟩
  obtain ⟨m, hm'⟩ : ∃ m, m = ts.length := ⟨_, rfl⟩
  unfold LogAt at h
  unfold TakenAt at ht
  have HN : Hid (n = es.length) := hn
  have HN' : Hid (m = ts.length) := hm'
  rw [← hn] at h ⊢
  rw [← hm'] at ht ⊢
  clear hn hm'
  have H := show Hid _ from h
  have HT := show Hid _ from ht
  clear h ht
  by_cases c1 : (n : Int) ≤ 1048576
  case neg =>
    go_enter Try.func29, Try.ntmps29
    go_wp2
    go_ret
    exact RetBool'.mk (r := false) ⟨rfl, fun h => by cases h⟩
  go_enter Try.func29, Try.ntmps29
  go_wp2
  go_loop [5, 6] (fun t i => ∃ (k : Nat) (r : Int), k ≤ n ∧ i = .int .i64 k ∧ t = .int .i64 r ∧ Good es k) (fun _ i => n - (intOf i).toNat)
  case atStart => exact ⟨0, _, Nat.zero_le _, rfl, rfl, fun j hj => by omega⟩
  case round =>
    obtain ⟨k, r, hk, rfl, rfl, hg⟩ := hrel
    have HG := show Hid _ from hg
    clear hg
    by_cases hlt : k < n
    · obtain ⟨b, off, rfl, hb, hcell⟩ := H.out (by omega)
      obtain ⟨h1, h2, h3⟩ := hcell k hlt
      obtain ⟨e, he⟩ : ∃ e, e = es.getD k Ent.none := ⟨_, rfl⟩
      rw [← he] at h1 h2 h3
      have HE := show Hid _ from he
      clear hcell HT H he
      obtain ⟨nm, hnm⟩ : ∃ n, n = e.msgs.length := ⟨_, rfl⟩
      unfold MsgsAt at h3
      rw [← hnm] at h2 h3
      have HNM := show Hid _ from hnm
      clear hnm
      generalize e.ma = ma at *
      generalize e.mc = mc at *
      generalize e.sender = sd at *
      have K3 := show Hid _ from h3
      clear h3
      by_cases c3 : (nm : Int) ≤ 1048576
      case neg =>
        go_wp2
        all_goals (go_ret; exact RetBool'.mk (r := false) ⟨rfl, fun h => by cases h⟩)
      go_wp2
      · go_ret
        exact RetBool'.mk (r := false) ⟨rfl, fun h => by cases h⟩
      · go_ret
        exact RetBool'.mk (r := false) ⟨rfl, fun h => by cases h⟩
      · go_ret
        exact RetBool'.mk (r := false) ⟨rfl, fun h => by cases h⟩
      · go_loop [5, 7] (fun t i => ∃ (k : Nat) (r : Int), k ≤ nm ∧ i = .int .i64 k ∧ t = .int .i64 r ∧ ∀ j, j < k → (e.msgs.getD j Msg.none).bl ≤ 1048576) (fun _ i => nm - (intOf i).toNat)
        case atStart => exact ⟨0, _, Nat.zero_le _, rfl, rfl, fun j hj => by omega⟩
        case round =>
          obtain ⟨k2, r2, hk2, rfl, rfl, hg2⟩ := hrel
          have HG2 := show Hid _ from hg2
          clear hg2
          by_cases hlt2 : k2 < nm
          · obtain ⟨b2, off2, rfl, hb2, hcell2⟩ := K3.out (by omega)
            obtain ⟨g1, g2, g3, _⟩ := hcell2 k2 hlt2
            obtain ⟨q, hq⟩ : ∃ q, q = e.msgs.getD k2 Msg.none := ⟨_, rfl⟩
            rw [← hq] at g1 g2 g3
            have HQ := show Hid _ from hq
            clear hcell2 hq K3
            obtain ⟨bl, hbl⟩ : ∃ x, x = q.bl := ⟨_, rfl⟩
            have HBL := show Hid _ from hbl
            rw [← hbl] at g3
            clear hbl
            generalize q.ba = qa at *
            generalize q.bc = qc at *
            generalize q.member = qm at *
            by_cases c4 : (bl : Int) ≤ 1048576
            case neg =>
              go_wp2
              all_goals (go_ret; exact RetBool'.mk (r := false) ⟨rfl, fun h => by cases h⟩)
            go_wp2
            all_goals first
              | (go_ret; exact RetBool'.mk (r := false) ⟨rfl, fun h => by cases h⟩)
              | (go_round
                 case rel =>
                   refine ⟨k2 + 1, _, by omega, by go_num, rfl, fun j hj => ?_⟩
                   by_cases hjk : j = k2
                   · subst hjk; rw [← HQ.out, ← HBL.out]; omega
                   · exact HG2.out j (by omega)
                 case measure => simp [intOf]; omega)
          · have hgk : Good es (k + 1) := Good.step HG.out HE.out (by have := HNM.out; omega) (fun j hj => HG2.out j (by have := HNM.out; omega))
            have HGK := show Hid _ from hgk
            clear hgk K3
            go_wp2
            go_round
            case rel => exact ⟨k + 1, _, by omega, by go_num, rfl, HGK.out⟩
            case measure => simp [intOf]; omega
    · have hgn : Good es es.length := by have := HN.out; rw [← this]; rw [show n = k by omega]; exact HG.out
      have HGN := show Hid _ from hgn
      clear hgn H HG
      by_cases c2 : (m : Int) ≤ 1048576
      case neg =>
        go_wp2
        go_ret
        exact RetBool'.mk (r := false) ⟨rfl, fun h => by cases h⟩
      go_wp2
      · go_ret
        exact RetBool'.mk (r := false) ⟨rfl, fun h => by cases h⟩
      · go_loop [5, 8] (fun t i => ∃ (k : Nat) (r : Int), k ≤ m ∧ i = .int .i64 k ∧ t = .int .i64 r) (fun _ i => m - (intOf i).toNat)
        case atStart => exact ⟨0, _, Nat.zero_le _, rfl, rfl⟩
        case round =>
          clear hlt
          obtain ⟨k, r, hk, rfl, rfl⟩ := hrel
          by_cases hlt : k < m
          · obtain ⟨b, off, rfl, hb, hcell⟩ := HT.out (by omega)
            obtain ⟨h1, h2, h3⟩ := hcell k hlt
            generalize ts.getD k Tak.none = e at *
            clear hcell HT
            go_wp2
            all_goals first
              | (go_round
                 case rel => exact ⟨k + 1, _, by omega, by go_num, rfl⟩
                 case measure => simp [intOf]; omega)
              | (go_ret; exact RetBool'.mk (r := false) ⟨rfl, fun h => by cases h⟩)
          · clear HT
            go_wp2
            go_ret
            exact RetBool'.mk (r := true) ⟨rfl, fun _ => small_of (by have := HN.out; omega) (by have := HN'.out; omega) HGN.out⟩

end Go.Proofs.Qxb6603225a
