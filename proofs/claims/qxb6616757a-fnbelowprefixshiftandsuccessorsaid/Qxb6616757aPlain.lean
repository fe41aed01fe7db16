import Derived.Lib.BytesEntry
namespace Go.Proofs.Qxb6616757a

/-- One prefix before both changes nothing. -/
theorem compare_prefix : ∀ (p x y : List UInt8), Lib.compareBytes (p ++ x) (p ++ y) = Lib.compareBytes x y
  | [], _, _ => rfl
  | c :: p, x, y => by
    have hlt : ¬ c < c := UInt8.lt_irrefl c
    rw [List.cons_append, List.cons_append, Lib.compareBytes, if_neg hlt, if_neg hlt]
    exact compare_prefix p x y

theorem compare_self : ∀ (x : List UInt8), Lib.compareBytes x x = 0
  | [] => rfl
  | c :: x => by
    have hlt : ¬ c < c := UInt8.lt_irrefl c
    rw [Lib.compareBytes, if_neg hlt, if_neg hlt]
    exact compare_self x

theorem compare_succ (x : List UInt8) (c : UInt8) : Lib.compareBytes x (x ++ [c]) = -1 := by
  have := compare_prefix x [] [c]
  rw [List.append_nil] at this
  exact this

theorem compare_pred (x : List UInt8) (c : UInt8) : Lib.compareBytes (x ++ [c]) x = 1 := by
  have := compare_prefix x [c] []
  rw [List.append_nil] at this
  exact this

theorem bytesOf_append (x y : List Int) : Lib.bytesOf (x ++ y) = Lib.bytesOf x ++ Lib.bytesOf y := by simp [Lib.bytesOf]

/-- 'below', of the upper end's being nil and of the two lists of bytes. -/
def belowB (hi : Option Addr) (xs ys : List Int) : Bool := hi.isNone || decide (Lib.compareBytes (Lib.bytesOf xs) (Lib.bytesOf ys) < 0)

theorem below_nil (xs ys : List Int) : belowB none xs ys = true := rfl
theorem below_some (a : Addr) (xs ys : List Int) : belowB (some a) xs ys = decide (Lib.compareBytes (Lib.bytesOf xs) (Lib.bytesOf ys) < 0) := rfl
theorem below_succ (a : Addr) (xs : List Int) (z : Int) : belowB (some a) xs (xs ++ [z]) = true := by
  rw [below_some, bytesOf_append]
  show decide (Lib.compareBytes _ (_ ++ [_]) < 0) = true
  rw [compare_succ]
  rfl
theorem below_pred (a : Addr) (xs : List Int) (z : Int) : belowB (some a) (xs ++ [z]) xs = false := by
  rw [below_some, bytesOf_append]
  show decide (Lib.compareBytes (_ ++ [_]) _ < 0) = false
  rw [compare_pred]
  rfl
theorem below_self (a : Addr) (xs : List Int) : belowB (some a) xs xs = false := by
  rw [below_some, compare_self]
  rfl
theorem below_shift (a b : Addr) (p xs ys : List Int) : belowB (some a) (p ++ xs) (p ++ ys) = belowB (some b) xs ys := by
  rw [below_some, below_some, bytesOf_append, bytesOf_append, compare_prefix]

theorem below_shift_nil (a b : Addr) (p ys : List Int) : belowB (some a) p (p ++ ys) = belowB (some b) [] ys := by
  have := below_shift a b p [] ys
  rw [List.append_nil] at this
  exact this

end Go.Proofs.Qxb6616757a
