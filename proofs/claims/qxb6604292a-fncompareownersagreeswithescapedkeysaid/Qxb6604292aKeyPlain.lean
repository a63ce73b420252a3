/-
  Seat b6604292a: the escaped key of an owner, and its order. No Go in sight.
-/
import Derived.Test.Qxb6604292aPlain
namespace Go.Proofs.Qxb6604292a
open Go

def esc : List UInt8 → List UInt8
  | [] => []
  | c :: r => 1 :: c :: esc r

theorem esc_length : ∀ l : List UInt8, (esc l).length = 2 * l.length
  | [] => rfl
  | _ :: r => by rw [esc, List.length_cons, List.length_cons, esc_length r, List.length_cons]; omega
theorem esc_append : ∀ a b : List UInt8, esc (a ++ b) = esc a ++ esc b
  | [], _ => rfl
  | c :: a, b => by show esc (c :: (a ++ b)) = _; rw [esc, esc_append a b]; rfl

def key (m n : List UInt8) : List UInt8 := esc m ++ 0 :: (esc n ++ [0])
theorem key_length (m n : List UInt8) : (key m n).length = 2 * m.length + 2 * n.length + 2 := by
  simp [key, esc_length]; omega

theorem cb_cons_lt {x y : UInt8} (h : x < y) (a b : List UInt8) : cb (x :: a) (y :: b) = -1 := by
  show Lib.compareBytes _ _ = _; rw [Lib.compareBytes, if_pos h]
theorem cb_cons_gt {x y : UInt8} (h : y < x) (a b : List UInt8) : cb (x :: a) (y :: b) = 1 := by
  show Lib.compareBytes _ _ = _; rw [Lib.compareBytes, if_neg (u8_lt_asymm h), if_pos h]
theorem cb_cons_eq (x : UInt8) (a b : List UInt8) : cb (x :: a) (x :: b) = cb a b := by
  show Lib.compareBytes _ _ = _; rw [Lib.compareBytes, if_neg (UInt8.lt_irrefl x), if_neg (UInt8.lt_irrefl x)]

theorem cb_esc (r s : List UInt8) : ∀ a b : List UInt8, cb (esc a ++ 0 :: r) (esc b ++ 0 :: s) = if cb a b = 0 then cb r s else cb a b
  | [], [] => by
    show cb (0 :: r) (0 :: s) = _
    rw [cb_cons_eq, if_pos (cb_self [])]
  | [], y :: b => by
    show cb (0 :: r) (1 :: y :: (esc b ++ 0 :: s)) = _
    have e : cb [] (y :: b) = -1 := rfl
    rw [cb_cons_lt (by decide), e, if_neg (by decide)]
  | x :: a, [] => by
    show cb (1 :: x :: (esc a ++ 0 :: r)) (0 :: s) = _
    have e : cb (x :: a) [] = 1 := rfl
    rw [cb_cons_gt (by decide), e, if_neg (by decide)]
  | x :: a, y :: b => by
    show cb (1 :: x :: (esc a ++ 0 :: r)) (1 :: y :: (esc b ++ 0 :: s)) = _
    rw [cb_cons_eq]
    by_cases h : x < y
    · rw [cb_cons_lt h, cb_cons_lt h, if_neg (by decide)]
    · by_cases k : y < x
      · rw [cb_cons_gt k, cb_cons_gt k, if_neg (by decide)]
      · have e := u8_eq h k
        subst e
        rw [cb_cons_eq, cb_cons_eq]
        exact cb_esc r s a b

/-- THE LAW: the order of owners is the byte order of their keys. -/
theorem co_key (a1 a2 b1 b2 : List UInt8) : co a1 a2 b1 b2 = cb (key a1 a2) (key b1 b2) := by
  unfold key co
  rw [cb_esc]
  have e : cb (esc a2 ++ [0]) (esc b2 ++ [0]) = cb a2 b2 := by
    rw [cb_esc [] [] a2 b2]
    by_cases h : cb a2 b2 = 0
    · rw [if_pos h, h]; rfl
    · rw [if_neg h]
  rw [e]

/-! ### the comparison, from place k on -/
theorem cb_drop {xs ys : List UInt8} {k : Nat} (hx : k < xs.length) (hy : k < ys.length) :
    cb (xs.drop k) (ys.drop k) = if xs[k] < ys[k] then -1 else if ys[k] < xs[k] then 1 else cb (xs.drop (k + 1)) (ys.drop (k + 1)) := by
  rw [List.drop_eq_getElem_cons hx, List.drop_eq_getElem_cons hy]
  show Lib.compareBytes _ _ = _
  rw [Lib.compareBytes]
theorem cb_end_lt {xs ys : List UInt8} {k : Nat} (hx : xs.length ≤ k) (hy : k < ys.length) : cb (xs.drop k) (ys.drop k) = -1 := by
  rw [List.drop_eq_nil_of_le hx, List.drop_eq_getElem_cons hy]; rfl
theorem cb_end_gt {xs ys : List UInt8} {k : Nat} (hx : k < xs.length) (hy : ys.length ≤ k) : cb (xs.drop k) (ys.drop k) = 1 := by
  rw [List.drop_eq_nil_of_le hy, List.drop_eq_getElem_cons hx]; rfl
theorem cb_end_eq {xs ys : List UInt8} {k : Nat} (hx : xs.length ≤ k) (hy : ys.length ≤ k) : cb (xs.drop k) (ys.drop k) = 0 := by
  rw [List.drop_eq_nil_of_le hx, List.drop_eq_nil_of_le hy]; rfl

end Go.Proofs.Qxb6604292a
