/-
  Seat b6604292a: the contracts of strings.Compare, compareOwners, ZZcompareOwners and the two guards on lengths.
-/
import Derived.Test.Qxb6604292aRows
import Derived.Test.Qxb6604292aPlain
import Derived.WalkKit
import Derived.WalkSpells
import Derived.WalkLawsBesides
namespace Go.Proofs.Qxb6604292a
open Go.RowKit

set_option maxRecDepth 100000 in
theorem compareString_any (a b : ByteArray) (w : World) :
    Calls Try.prog 12 #[.string a, .string b] w fun e w' => e = .returned (.int .i64 (cb a.data.toList b.data.toList)) ∧ w' = w := by
  go_enter Try.func12, Try.ntmps12
  go_wp2
  rw [run_callFunc_extern Try.func13 (by kernel_rfl) (by kernel_rfl) (by kernel_rfl) (e := Extern.BytealgCompare.compare) (by kernel_rfl), Lib.run_compareString]
  simp only [Result.andThen]
  rw [Oper.upon_value]
  go_wp2
  go_ret
  exact ⟨rfl, rfl⟩

theorem compare_any (a b : ByteArray) (w : World) :
    Calls Try.prog 11 #[.string a, .string b] w fun e w' => e = .returned (.int .i64 (cb a.data.toList b.data.toList)) ∧ w' = w := by
  go_enter Try.func11, Try.ntmps11
  go_wp2_with (go_at_call 12; refine (compareString_any _ _ _).mono ?_; rintro e w' ⟨rfl, rfl⟩)
  go_ret
  exact ⟨rfl, rfl⟩

theorem owners_any (a1 a2 b1 b2 : ByteArray) (w : World) :
    Calls Try.prog 10 #[.agg #[.string a1, .string a2], .agg #[.string b1, .string b2]] w fun e w' => e = .returned (.int .i64 (co a1.data.toList a2.data.toList b1.data.toList b2.data.toList)) ∧ Grown w w' := by
  by_cases h : cb a1.data.toList b1.data.toList = 0
  · have hd : (cb a1.data.toList b1.data.toList != 0) = false := by simp [h]
    have HC : Hid (co a1.data.toList a2.data.toList b1.data.toList b2.data.toList = cb a2.data.toList b2.data.toList) := by unfold Hid co; rw [if_pos h]
    clear h
    go_enter Try.func10, Try.ntmps10
    go_wp2_with (go_at_call 11; refine (compare_any _ _ _).mono ?_; rintro e w' ⟨rfl, rfl⟩)
    go_ret
    exact ⟨by rw [HC.out]; rfl, by repeat (first | exact Grown.refl _ | apply Grown.drew | apply Grown.alloc)⟩
  · have hd : (cb a1.data.toList b1.data.toList != 0) = true := by simp [h]
    have HC : Hid (co a1.data.toList a2.data.toList b1.data.toList b2.data.toList = cb a1.data.toList b1.data.toList) := by unfold Hid co; rw [if_neg h]
    clear h
    go_enter Try.func10, Try.ntmps10
    go_wp2_with (go_at_call 11; refine (compare_any _ _ _).mono ?_; rintro e w' ⟨rfl, rfl⟩)
    go_ret
    exact ⟨by rw [HC.out]; rfl, by repeat (first | exact Grown.refl _ | apply Grown.drew | apply Grown.alloc)⟩

theorem zz_any (a1 a2 b1 b2 : ByteArray) (w : World) :
    Calls Try.prog 6 #[.string a1, .string a2, .string b1, .string b2] w fun e w' => e = .returned (.int .i64 (co a1.data.toList a2.data.toList b1.data.toList b2.data.toList)) ∧ Grown w w' := by
  go_enter Try.func6, Try.ntmps6
  go_wp2_with (go_at_call 10; refine (owners_any _ _ _ _ _).mono ?_; rintro e w' ⟨rfl, hg⟩)
  go_ret
  exact ⟨rfl, hg⟩

def OkB (n : Nat) (w : World) (e : Ending) (w' : World) : Prop := ∃ r, e = .returned (.bool r) ∧ (r = true → n ≤ 1048576) ∧ w' = w
theorem okB_false (n : Nat) (w : World) : OkB n w (.returned (.bool false)) w := ⟨false, rfl, by simp, rfl⟩
theorem okB_true (n : Nat) (w : World) (h : n ≤ 1048576) : OkB n w (.returned (.bool true)) w := ⟨true, rfl, fun _ => h, rfl⟩

theorem bytes9 (a b c d : ByteArray) (wa : a.size ≤ maxLen) (wb : b.size ≤ maxLen) (wc : c.size ≤ maxLen) (wd : d.size ≤ maxLen) (w : World) :
    Calls Try.prog 9 #[.string a, .string b, .string c, .string d] w fun e w' => OkB (a.size + b.size + c.size + d.size) w e w' := by
  unfold maxLen at wa wb wc wd
  go_enter Try.func9, Try.ntmps9
  go_wp2
  all_goals go_ret
  all_goals first | exact okB_false _ _ | exact okB_true _ _ (by omega)
theorem bytes5 (a b c d : ByteArray) (wa : a.size ≤ maxLen) (wb : b.size ≤ maxLen) (wc : c.size ≤ maxLen) (wd : d.size ≤ maxLen) (w : World) :
    Calls Try.prog 5 #[.string a, .string b, .string c, .string d] w fun e w' => OkB (a.size + b.size + c.size + d.size) w e w' := by
  unfold maxLen at wa wb wc wd
  go_enter Try.func5, Try.ntmps5
  go_wp2
  all_goals go_ret
  all_goals first | exact okB_false _ _ | exact okB_true _ _ (by omega)
end Go.Proofs.Qxb6604292a
