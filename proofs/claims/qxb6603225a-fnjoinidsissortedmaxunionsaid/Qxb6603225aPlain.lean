import GoSem.Op.String
/-! Plain lists: what joinIDs computes. No Go in sight but the order of strings. -/
namespace Go.Proofs.Qxb6603225a

/-- Go's '<' on strings. -/
def lt (x y : ByteArray) : Bool := Op.bytesLess x.toList y.toList

def joinIn (x : ByteArray) (a : List ByteArray) (f : List ByteArray → List ByteArray) : List ByteArray → List ByteArray
  | [] => x :: a
  | y :: b => if lt x y then x :: f (y :: b) else if lt y x then y :: joinIn x a f b else x :: f b

/-- joinIDs. -/
def join : List ByteArray → List ByteArray → List ByteArray
  | [] => fun b => b
  | x :: a => joinIn x a (join a)

theorem join_nil (b : List ByteArray) : join [] b = b := rfl
theorem join_cons_nil (x : ByteArray) (a : List ByteArray) : join (x :: a) [] = x :: a := rfl
theorem join_cons (x y : ByteArray) (a b : List ByteArray) : join (x :: a) (y :: b) = if lt x y then x :: join a (y :: b) else if lt y x then y :: join (x :: a) b else x :: join a b := rfl
theorem join_empty (a : List ByteArray) : join a [] = a := by cases a <;> rfl

theorem bytesLess_irrefl : ∀ l : List UInt8, Op.bytesLess l l = false
  | [] => rfl
  | a :: l => by simp [Op.bytesLess, bytesLess_irrefl l]

theorem lt_irrefl (x : ByteArray) : lt x x = false := bytesLess_irrefl _

theorem join_self : ∀ a : List ByteArray, join a a = a
  | [] => rfl
  | x :: a => by rw [join_cons]; simp [lt_irrefl, join_self a]

theorem join_absorbs_right : ∀ a b : List ByteArray, join (join a b) b = join a b
  | [], b => by rw [join_nil, join_self]
  | x :: a, [] => join_empty _
  | x :: a, y :: b => by
    have h1 := join_absorbs_right a (y :: b)
    have h2 := join_absorbs_right (x :: a) b
    have h3 := join_absorbs_right a b
    rw [join_cons]
    by_cases hxy : lt x y = true
    · rw [if_pos hxy, join_cons, if_pos hxy, h1]
    · rw [if_neg hxy]
      by_cases hyx : lt y x = true
      · rw [if_pos hyx, join_cons, if_neg (by simp [lt_irrefl]), if_neg (by simp [lt_irrefl]), h2]
      · rw [if_neg hyx, join_cons, if_neg hxy, if_neg hyx, h3]

theorem join_absorbs_left : ∀ a b : List ByteArray, join (join a b) a = join a b
  | [], b => join_empty _
  | x :: a, [] => by rw [join_cons_nil, join_self]
  | x :: a, y :: b => by
    have h1 := join_absorbs_left a (y :: b)
    have h2 := join_absorbs_left (x :: a) b
    have h3 := join_absorbs_left a b
    rw [join_cons]
    by_cases hxy : lt x y = true
    · rw [if_pos hxy, join_cons, if_neg (by simp [lt_irrefl]), if_neg (by simp [lt_irrefl]), h1]
    · rw [if_neg hxy]
      by_cases hyx : lt y x = true
      · rw [if_pos hyx, join_cons, if_pos hyx, h2]
      · rw [if_neg hyx, join_cons, if_neg (by simp [lt_irrefl]), if_neg (by simp [lt_irrefl]), h3]

theorem join_length : ∀ a b : List ByteArray, (join a b).length ≤ a.length + b.length
  | [], b => by simp [join_nil]
  | x :: a, [] => by simp [join_cons_nil]
  | x :: a, y :: b => by
    have h1 := join_length a (y :: b)
    have h2 := join_length (x :: a) b
    have h3 := join_length a b
    rw [join_cons]
    split
    · simp at *; omega
    · split <;> (simp at *; omega)

end Go.Proofs.Qxb6603225a
