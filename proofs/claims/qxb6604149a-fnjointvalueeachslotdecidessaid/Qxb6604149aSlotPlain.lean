/-
  Seat b6604149a: the plain laws of 'each slot decides'. No Go in sight.
-/
import Derived.Test.Qxb6604149aPlain
namespace Go.Proofs.Qxb6604149a

/-! ### one slot turned -/
def put (Z : Nat → Nat → Nat) (n : Nat) (x : Nat → Nat) : Nat → Nat → Nat := fun i k => if i = n then x k else Z i k

theorem put_lt {Z : Nat → Nat → Nat} {x : Nat → Nat} (hZ : ∀ i k, Z i k < 256) (hx : ∀ k, x k < 256) (n : Nat) : ∀ i k, put Z n x i k < 256 := fun i k => by
  unfold put; split
  · exact hx k
  · exact hZ i k
theorem put_same (Z : Nat → Nat → Nat) (n : Nat) (x : Nat → Nat) : put Z n x n = x := by funext k; simp [put]
theorem put_other (Z : Nat → Nat → Nat) {n i : Nat} (x : Nat → Nat) (h : i ≠ n) : put Z n x i = Z i := by funext k; simp [put, h]
theorem put_put (Z : Nat → Nat → Nat) (n : Nat) (x y : Nat → Nat) : put (put Z n x) n y = put Z n y := by
  funext i k; unfold put; by_cases h : i = n <;> simp [h]

theorem xor_cancel (a b : Nat) : a ^^^ (a ^^^ b) = b := by rw [← Nat.xor_assoc, Nat.xor_self, Nat.zero_xor]

theorem J_put (Z : Nat → Nat → Nat) (n : Nat) (x : Nat → Nat) (k : Nat) : ∀ len, n < len → J (put Z n x) len k = J Z len k ^^^ (Z n k ^^^ x k)
  | 0, h => by omega
  | len + 1, h => by
    by_cases e : n = len
    · subst e
      rw [J, J, put_same, J_congr n k (fun i hi => by rw [put_other Z x (by omega)])]
      rw [Nat.xor_assoc, xor_cancel]
    · rw [J, J, put_other Z x (show len ≠ n by omega), J_put Z n x k len (by omega)]
      rw [Nat.xor_assoc, Nat.xor_comm (Z n k ^^^ x k), ← Nat.xor_assoc]

theorem J_put_eq {Z : Nat → Nat → Nat} {n len : Nat} {x : Nat → Nat} (h : n < len) (k : Nat) : J (put Z n x) len k = J Z len k ↔ x k = Z n k := by
  rw [J_put Z n x k len h]
  constructor
  · intro e
    have h1 : J Z len k ^^^ (J Z len k ^^^ (Z n k ^^^ x k)) = J Z len k ^^^ J Z len k := by rw [e]
    rw [xor_cancel, Nat.xor_self] at h1
    have h2 : Z n k ^^^ (Z n k ^^^ x k) = Z n k ^^^ 0 := by rw [h1]
    rwa [xor_cancel, Nat.xor_zero] at h2
  · intro e
    rw [e, Nat.xor_self, Nat.xor_zero]

/-- the joint value put into the slot gives the slot's value back -/
theorem J_back (Z : Nat → Nat → Nat) (n len : Nat) (x : Nat → Nat) (h : n < len) (k : Nat) : J (put Z n (J (put Z n x) len)) len k = x k := by
  rw [J_put Z n _ k len h, J_put Z n x k len h]
  have e : Z n k ^^^ (J Z len k ^^^ (Z n k ^^^ x k)) = J Z len k ^^^ x k := by
    rw [← Nat.xor_assoc, Nat.xor_comm (Z n k) (J Z len k), Nat.xor_assoc, xor_cancel]
  rw [e, xor_cancel]

/-- the list with its own joint value behind it -/
theorem J_zero (Z : Nat → Nat → Nat) (len k : Nat) : J (put Z len (J Z len)) (len + 1) k = 0 := by
  rw [J, put_same, J_congr len k (fun i hi => by rw [put_other Z _ (show i ≠ len by omega)]), Nat.xor_self]

end Go.Proofs.Qxb6604149a
