import Derived.Test.Qxb6603225aPlain
/-! Plain lists: the join of two ascending lists is ascending and holds each string as often as whichever of the two holds it more often; counting by two cuts. -/
namespace Go.Proofs.Qxb6603225a

theorem bytesLess_trans : ∀ a b c : List UInt8, Op.bytesLess a b = true → Op.bytesLess b c = true → Op.bytesLess a c = true
  | _, _, [], _, h => by simp [Op.bytesLess] at h
  | _, [], _ :: _, h, _ => by simp [Op.bytesLess] at h
  | [], _ :: _, _ :: _, _, _ => rfl
  | a :: x, b :: y, c :: z, h1, h2 => by
    have ih := bytesLess_trans x y z
    simp only [Op.bytesLess, Bool.or_eq_true, Bool.and_eq_true, decide_eq_true_eq, beq_iff_eq, UInt8.lt_iff_toNat_lt, ← UInt8.toNat_inj] at h1 h2 ⊢
    rcases h1 with h1 | ⟨h1, h1'⟩ <;> rcases h2 with h2 | ⟨h2, h2'⟩
    · left; omega
    · left; omega
    · left; omega
    · right; exact ⟨by omega, ih h1' h2'⟩

theorem bytesLess_conn : ∀ a b : List UInt8, Op.bytesLess a b = false → Op.bytesLess b a = false → a = b
  | [], [], _, _ => rfl
  | [], _ :: _, h, _ => by simp [Op.bytesLess] at h
  | _ :: _, [], _, h => by simp [Op.bytesLess] at h
  | a :: x, b :: y, h1, h2 => by
    have ih := bytesLess_conn x y
    simp only [Op.bytesLess, Bool.or_eq_false_iff, Bool.and_eq_false_iff, decide_eq_false_iff_not, beq_eq_false_iff_ne, UInt8.lt_iff_toNat_lt, ne_eq, ← UInt8.toNat_inj] at h1 h2
    have hab : a.toNat = b.toNat := by omega
    have hab' : a = b := UInt8.toNat_inj.1 hab
    subst hab'
    rw [ih (h1.2.resolve_left (by simp)) (h2.2.resolve_left (by simp))]

/-- The same string. -/
def same (x y : ByteArray) : Bool := x.toList == y.toList

theorem lt_trans {x y z : ByteArray} (h1 : lt x y = true) (h2 : lt y z = true) : lt x z = true := bytesLess_trans _ _ _ h1 h2
theorem lt_asymm {x y : ByteArray} (h : lt x y = true) : lt y x = false := by
  cases h' : lt y x with
  | false => rfl
  | true => have := lt_trans h h'; rw [lt_irrefl] at this; cases this
theorem same_of {x y : ByteArray} (h1 : lt x y = false) (h2 : lt y x = false) : same x y = true := by simp [same, bytesLess_conn _ _ h1 h2]
theorem lt_same_left {x y z : ByteArray} (h : same x y = true) : lt x z = lt y z := by simp [same] at h; simp [lt, h]
theorem lt_same_right {x y z : ByteArray} (h : same x y = true) : lt z x = lt z y := by simp [same] at h; simp [lt, h]
theorem same_lt {x y : ByteArray} (h : same x y = true) : lt x y = false := by rw [lt_same_left h, lt_irrefl]
theorem same_congr {x y z : ByteArray} (h : same x y = true) : same x z = same y z := by simp [same] at h; simp [same, h]
/-- x ≤ y ≤ z, in the words 'y is not below x'. -/
theorem le_trans {x y z : ByteArray} (h1 : lt y x = false) (h2 : lt z y = false) : lt z x = false := by
  cases h : lt z x with
  | false => rfl
  | true =>
    cases h' : lt x y with
    | true => have := lt_trans h h'; rw [h2] at this; cases this
    | false => rw [lt_same_right (same_of h' h1), h2] at h; cases h
theorem lt_of_lt_of_le {x y z : ByteArray} (h1 : lt x y = true) (h2 : lt z y = false) : lt x z = true := by
  cases h : lt x z with
  | true => rfl
  | false =>
    have := le_trans h2 h   -- y ≤ z ≤ x
    rw [h1] at this; cases this

/-- Ascending. -/
def Sorted (l : List ByteArray) : Prop := l.Pairwise fun x y => lt y x = false
/-- How often. -/
def cnt (l : List ByteArray) (v : ByteArray) : Nat := l.countP fun x => same x v

theorem cnt_cons (x : ByteArray) (l : List ByteArray) (v : ByteArray) : cnt (x :: l) v = cnt l v + if same x v = true then 1 else 0 := by simp [cnt, List.countP_cons]

theorem cnt_zero {l : List ByteArray} {v : ByteArray} (h : ∀ x ∈ l, lt v x = true) : cnt l v = 0 := by
  simp only [cnt, List.countP_eq_zero]
  intro x hx hs
  have := h x hx
  rw [lt_same_right hs, lt_irrefl] at this
  cases this

theorem mem_join : ∀ (a b : List ByteArray) (v : ByteArray), v ∈ join a b → v ∈ a ∨ v ∈ b
  | [], b, v, h => Or.inr h
  | x :: a, [], v, h => Or.inl h
  | x :: a, y :: b, v, h => by
    rw [join_cons] at h
    split at h
    · rcases List.mem_cons.1 h with rfl | h
      · simp
      · rcases mem_join a (y :: b) v h with h | h
        · exact Or.inl (List.mem_cons_of_mem _ h)
        · exact Or.inr h
    · split at h
      · rcases List.mem_cons.1 h with rfl | h
        · simp
        · rcases mem_join (x :: a) b v h with h | h
          · exact Or.inl h
          · exact Or.inr (List.mem_cons_of_mem _ h)
      · rcases List.mem_cons.1 h with rfl | h
        · simp
        · rcases mem_join a b v h with h | h
          · exact Or.inl (List.mem_cons_of_mem _ h)
          · exact Or.inr (List.mem_cons_of_mem _ h)

theorem join_sorted : ∀ a b : List ByteArray, Sorted a → Sorted b → Sorted (join a b)
  | [], b, _, hb => hb
  | x :: a, [], ha, _ => ha
  | x :: a, y :: b, ha, hb => by
    have ha' := List.pairwise_cons.1 ha
    have hb' := List.pairwise_cons.1 hb
    rw [join_cons]
    by_cases hxy : lt x y = true
    · rw [if_pos hxy]
      refine List.pairwise_cons.2 ⟨fun v hv => ?_, join_sorted a (y :: b) ha'.2 hb⟩
      rcases mem_join _ _ _ hv with hv | hv
      · exact ha'.1 v hv
      · rcases List.mem_cons.1 hv with rfl | hv
        · exact lt_asymm hxy
        · exact le_trans (lt_asymm hxy) (hb'.1 v hv)
    · have hxy' : lt x y = false := by simpa using hxy
      rw [if_neg hxy]
      by_cases hyx : lt y x = true
      · rw [if_pos hyx]
        refine List.pairwise_cons.2 ⟨fun v hv => ?_, join_sorted (x :: a) b ha hb'.2⟩
        rcases mem_join _ _ _ hv with hv | hv
        · rcases List.mem_cons.1 hv with rfl | hv
          · exact lt_asymm hyx
          · exact le_trans (lt_asymm hyx) (ha'.1 v hv)
        · exact hb'.1 v hv
      · have hyx' : lt y x = false := by simpa using hyx
        rw [if_neg hyx]
        refine List.pairwise_cons.2 ⟨fun v hv => ?_, join_sorted a b ha'.2 hb'.2⟩
        rcases mem_join _ _ _ hv with hv | hv
        · exact ha'.1 v hv
        · exact le_trans hyx' (hb'.1 v hv)

theorem join_cnt : ∀ (a b : List ByteArray) (v : ByteArray), Sorted a → Sorted b → cnt (join a b) v = max (cnt a v) (cnt b v)
  | [], b, v, _, _ => by simp [join_nil, cnt]
  | x :: a, [], v, _, _ => by simp [join_cons_nil, cnt]
  | x :: a, y :: b, v, ha, hb => by
    have ha' := List.pairwise_cons.1 ha
    have hb' := List.pairwise_cons.1 hb
    rw [join_cons]
    by_cases hxy : lt x y = true
    · rw [if_pos hxy, cnt_cons, join_cnt a (y :: b) v ha'.2 hb, cnt_cons x a]
      by_cases hs : same x v = true
      · have h0 : cnt (y :: b) v = 0 := cnt_zero fun z hz => by
          have hvy : lt v y = true := by rw [← lt_same_left hs]; exact hxy
          rcases List.mem_cons.1 hz with rfl | hz
          · exact hvy
          · exact lt_of_lt_of_le hvy (hb'.1 z hz)
        rw [if_pos hs, h0]; omega
      · rw [if_neg hs]; omega
    · have hxy' : lt x y = false := by simpa using hxy
      rw [if_neg hxy]
      by_cases hyx : lt y x = true
      · rw [if_pos hyx, cnt_cons, join_cnt (x :: a) b v ha hb'.2, cnt_cons y b]
        by_cases hs : same y v = true
        · have h0 : cnt (x :: a) v = 0 := cnt_zero fun z hz => by
            have hvx : lt v x = true := by rw [← lt_same_left hs]; exact hyx
            rcases List.mem_cons.1 hz with rfl | hz
            · exact hvx
            · exact lt_of_lt_of_le hvx (ha'.1 z hz)
          rw [if_pos hs, h0]; omega
        · rw [if_neg hs]; omega
      · have hyx' : lt y x = false := by simpa using hyx
        rw [if_neg hyx, cnt_cons, join_cnt a b v ha'.2 hb'.2, cnt_cons x a, cnt_cons y b, same_congr (same_of hxy' hyx')]
        omega

/-! ### Cuts -/
/-- Ascending, by places. -/
theorem sorted_get {l : List ByteArray} (h : Sorted l) {i j : Nat} (hij : i < j) (hj : j < l.length) : lt (l.getD j ByteArray.empty) (l.getD i ByteArray.empty) = false := by
  have := List.pairwise_iff_getElem.1 h i j (by omega) hj hij
  simpa [List.getD, List.getElem?_eq_getElem hj, List.getElem?_eq_getElem (show i < l.length by omega)] using this

theorem sorted_of_asc : ∀ {l : List ByteArray}, (∀ j, j + 1 < l.length → lt (l.getD (j + 1) ByteArray.empty) (l.getD j ByteArray.empty) = false) → Sorted l
  | [], _ => List.Pairwise.nil
  | [x], _ => List.pairwise_singleton _ _
  | x :: y :: l, h => by
    have ih : Sorted (y :: l) := sorted_of_asc fun j hj => by simpa using h (j + 1) (by simpa using hj)
    have h0 : lt y x = false := by simpa using h 0 (by simp)
    refine List.pairwise_cons.2 ⟨fun v hv => ?_, ih⟩
    rcases List.mem_cons.1 hv with rfl | hv
    · exact h0
    · exact le_trans h0 ((List.pairwise_cons.1 ih).1 v hv)

theorem countP_cut (p : ByteArray → Bool) : ∀ (l : List ByteArray) (k : Nat), k ≤ l.length → (∀ j, j < k → p (l.getD j ByteArray.empty) = true) → (∀ j, k ≤ j → j < l.length → p (l.getD j ByteArray.empty) = false) → l.countP p = k
  | [], k, hk, _, _ => by simp at hk; simp [hk]
  | x :: l, 0, _, _, h2 => by
    rw [List.countP_eq_zero]
    intro y hy
    obtain ⟨j, hj, rfl⟩ := List.mem_iff_getElem.1 hy
    have := h2 j (Nat.zero_le _) hj
    rw [List.getD, List.getElem?_eq_getElem hj] at this
    simpa using this
  | x :: l, k + 1, hk, h1, h2 => by
    have ih := countP_cut p l k (by simpa using hk) (fun j hj => by simpa using h1 (j + 1) (by omega)) (fun j hj hj' => by simpa using h2 (j + 1) (by omega) (by simpa using hj'))
    have h0 : p x = true := by simpa using h1 0 (by omega)
    rw [List.countP_cons, ih, if_pos h0]

theorem countP_le_lt (l : List ByteArray) (v : ByteArray) : l.countP (fun x => lt x v || same x v) = l.countP (fun x => lt x v) + cnt l v := by
  induction l with
  | nil => rfl
  | cons x l ih =>
    rw [List.countP_cons, List.countP_cons, ih, cnt_cons]
    by_cases h1 : lt x v = true
    · have h2 : same x v = false := by
        cases h2 : same x v with
        | false => rfl
        | true => rw [same_lt h2] at h1; cases h1
      simp [h1, h2]; omega
    · simp only [h1, Bool.false_or]
      simp; omega

theorem cnt_pos {l : List ByteArray} {j : Nat} (hj : j < l.length) : 1 ≤ cnt l (l.getD j ByteArray.empty) := by
  have : 0 < cnt l (l.getD j ByteArray.empty) := by
    rw [cnt, List.countP_pos_iff]
    refine ⟨l[j], List.getElem_mem hj, ?_⟩
    simp [same, List.getD, List.getElem?_eq_getElem hj]
  omega
theorem cnt_le (l : List ByteArray) (v : ByteArray) : cnt l v ≤ l.length := List.countP_le_length

end Go.Proofs.Qxb6603225a
