/-
  Seat b6604292a: the plain laws on the comparison of byte lists and of owners.
-/
import Derived.Lib.Bytealg
namespace Go.Proofs.Qxb6604292a
open Go

abbrev cb := Lib.compareBytes

theorem cb_self : ∀ a : List UInt8, cb a a = 0
  | [] => rfl
  | x :: a => by
    have h : ¬ x < x := UInt8.lt_irrefl x
    show Lib.compareBytes (x :: a) (x :: a) = 0
    rw [Lib.compareBytes, if_neg h, if_neg h]; exact cb_self a

theorem cb_range : ∀ a b : List UInt8, cb a b = -1 ∨ cb a b = 0 ∨ cb a b = 1
  | [], [] => by simp [cb, Lib.compareBytes]
  | [], _ :: _ => by simp [cb, Lib.compareBytes]
  | _ :: _, [] => by simp [cb, Lib.compareBytes]
  | x :: a, y :: b => by
    have ih := cb_range a b
    unfold cb at *
    rw [Lib.compareBytes]
    split
    · exact Or.inl rfl
    · split
      · exact Or.inr (Or.inr rfl)
      · exact ih

theorem u8_lt_asymm {x y : UInt8} (h : x < y) : ¬ y < x := by
  rw [UInt8.lt_iff_toNat_lt] at *; omega
theorem u8_eq {x y : UInt8} (h : ¬ x < y) (k : ¬ y < x) : x = y := by
  rw [UInt8.lt_iff_toNat_lt] at *; exact UInt8.toNat_inj.1 (by omega)

theorem cb_swap : ∀ a b : List UInt8, cb b a = - cb a b
  | [], [] => by simp [cb, Lib.compareBytes]
  | [], _ :: _ => by simp [cb, Lib.compareBytes]
  | _ :: _, [] => by simp [cb, Lib.compareBytes]
  | x :: a, y :: b => by
    have ih := cb_swap a b
    unfold cb at *
    rw [Lib.compareBytes, Lib.compareBytes]
    by_cases h : x < y
    · rw [if_pos h, if_neg (u8_lt_asymm h), if_pos h]; rfl
    · by_cases k : y < x
      · rw [if_pos k, if_neg h, if_pos k]
      · rw [if_neg k, if_neg h, if_neg h, if_neg k]; exact ih

theorem cb_zero : ∀ a b : List UInt8, cb a b = 0 → a = b
  | [], [], _ => rfl
  | [], _ :: _, h => by simp [cb, Lib.compareBytes] at h
  | _ :: _, [], h => by simp [cb, Lib.compareBytes] at h
  | x :: a, y :: b, h => by
    have ih := cb_zero a b
    unfold cb at *
    rw [Lib.compareBytes] at h
    by_cases h1 : x < y
    · rw [if_pos h1] at h; simp at h
    · by_cases k : y < x
      · rw [if_neg h1, if_pos k] at h; simp at h
      · rw [if_neg h1, if_neg k] at h
        rw [u8_eq h1 k, ih h]

/-- the order of owners -/
def co (a1 a2 b1 b2 : List UInt8) : Int := if cb a1 b1 = 0 then cb a2 b2 else cb a1 b1

theorem co_range (a1 a2 b1 b2 : List UInt8) : co a1 a2 b1 b2 = -1 ∨ co a1 a2 b1 b2 = 0 ∨ co a1 a2 b1 b2 = 1 := by
  unfold co; split
  · exact cb_range _ _
  · exact cb_range _ _
theorem co_swap (a1 a2 b1 b2 : List UInt8) : co b1 b2 a1 a2 = - co a1 a2 b1 b2 := by
  unfold co
  rw [cb_swap a1 b1, cb_swap a2 b2]
  by_cases h : cb a1 b1 = 0
  · rw [if_pos h, if_pos (by omega)]
  · rw [if_neg h, if_neg (by omega)]
theorem co_zero (a1 a2 b1 b2 : List UInt8) : co a1 a2 b1 b2 = 0 ↔ a1 = b1 ∧ a2 = b2 := by
  constructor
  · intro h
    unfold co at h
    by_cases k : cb a1 b1 = 0
    · rw [if_pos k] at h; exact ⟨cb_zero _ _ k, cb_zero _ _ h⟩
    · rw [if_neg k] at h; exact absurd h k
  · rintro ⟨rfl, rfl⟩
    unfold co; rw [if_pos (cb_self _)]; exact cb_self _

end Go.Proofs.Qxb6604292a
