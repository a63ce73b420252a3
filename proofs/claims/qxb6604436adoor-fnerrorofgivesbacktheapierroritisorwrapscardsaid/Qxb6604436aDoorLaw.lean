/-
  Seat b6604436aD: the law's walk.
-/
import Derived.Test.Qxb6604436aDoorErrorOf
import Derived.LaidEqlPtr
namespace Go.Proofs.Qxb6604436aDoor
open Go.RowKit

def OkB (n : Nat) (w : World) (e : Ending) (w' : World) : Prop := ∃ r, e = .returned (.bool r) ∧ (r = true → n ≤ 1048576) ∧ w' = w
theorem okB_false (n : Nat) (w : World) : OkB n w (.returned (.bool false)) w := ⟨false, rfl, by simp, rfl⟩
theorem okB_true (n : Nat) (w : World) (h : n ≤ 1048576) : OkB n w (.returned (.bool true)) w := ⟨true, rfl, fun _ => h, rfl⟩

theorem bytes4 (a b c : ByteArray) (wa : a.size ≤ maxLen) (wb : b.size ≤ maxLen) (wc : c.size ≤ maxLen) (w : World) :
    Calls Tryd.prog 4 #[.string a, .string b, .string c] w fun e w' => OkB (a.size + b.size + c.size) w e w' := by
  unfold maxLen at wa wb wc
  go_enter Tryd.func4, Tryd.ntmps4
  go_wp2
  all_goals go_ret
  all_goals first | exact okB_false _ _ | exact okB_true _ _ (by omega)

theorem info27 : (Tryd.prog.info? 27).isSome = true := by kernel_rfl

set_option maxHeartbeats 1000000 in
theorem law_walk (a0 a1 a2 : ByteArray) (w0 : a0.size ≤ maxLen) (w1 : a1.size ≤ maxLen) (w2 : a2.size ≤ maxLen) (w : World) (hg : w.cell? ⟨0, 0, none⟩ = some (.iface 54 (.agg #[.pointer (some ⟨1, 31, none⟩)]))) :
    Calls Tryd.prog 3 #[.string a0, .string a1, .string a2] w fun e w' => e = .returned (.bool true) ∧ Below w.heap.size w w' := by
  go_enter Tryd.func3, Tryd.ntmps3
  go_wp2_with fail
  refine (bytes4 a0 a1 a2 w0 w1 w2 w).mono ?_
  rintro e w' ⟨r, rfl, hr, rfl⟩
  cases r with
  | false =>
    go_wp2
    go_ret
    exact ⟨rfl, Below.refl _ _⟩
  | true =>
    have hs := hr rfl
    clear hr w0 w1 w2
    have d0 : decide ((1048576 : Int) < (a0.size : Int)) = false := by simp; omega
    have d1 : decide ((1048576 : Int) < (a1.size : Int)) = false := by simp; omega
    have d2 : decide ((1048576 : Int) < (a2.size : Int)) = false := by simp; omega
    go_wp2_with fail
    refine (zz_error ⟨w'.heap.size, 0, none⟩ _ (errorType_alloc hg _)).mono ?_
    rintro e v1 ⟨rfl, hb1⟩
    have hg1 : v1.cell? ⟨0, 0, none⟩ = some (.iface 54 (.agg #[.pointer (some ⟨1, 31, none⟩)])) := by
      rw [hb1.cell (p := ⟨0, 0, none⟩) (by simp)]; exact errorType_alloc hg _
    have c0 : v1.cell? ⟨w'.heap.size, 0, none⟩ = some (.string a0) := by rw [hb1.cell (by simp), World.cell?_alloc_at _ _ _ _ rfl]; rfl
    have c1 : v1.cell? ⟨w'.heap.size, 1, none⟩ = some (.string a1) := by rw [hb1.cell (by simp), World.cell?_alloc_at _ _ _ _ rfl]; rfl
    have c2 : v1.cell? ⟨w'.heap.size, 2, none⟩ = some (.string a2) := by rw [hb1.cell (by simp), World.cell?_alloc_at _ _ _ _ rfl]; rfl
    have hB1 : Below w'.heap.size w' v1 := ((Below.refl _ _).alloc (Nat.le_refl _) _).trans (hb1.mono (by simp))
    have hz1 : w'.heap.size < v1.heap.size := World.block_lt_of_cell? v1 _ c0
    clear hb1 hg d0 d1 d2 hs
    go_wp2_with fail
    refine (zz_joined ⟨w'.heap.size, 0, none⟩ v1 hg1).mono ?_
    rintro e v2 ⟨rfl, hb2⟩
    have e0 : v2.cell? ⟨w'.heap.size, 0, none⟩ = some (.string a0) := by rw [hb2.cell hz1]; exact c0
    have e1 : v2.cell? ⟨w'.heap.size, 1, none⟩ = some (.string a1) := by rw [hb2.cell hz1]; exact c1
    have e2 : v2.cell? ⟨w'.heap.size, 2, none⟩ = some (.string a2) := by rw [hb2.cell hz1]; exact c2
    have hB2 : Below w'.heap.size w' v2 := hB1.trans (hb2.mono hB1.size)
    clear hg1 c0 c1 c2 hB1 hz1 hb2
    obtain ⟨i27, hi27⟩ := Option.isSome_iff_exists.1 info27
    have hpe : ∀ W : World, (binOp .eql 23 (.pointer (some ⟨w'.heap.size, 0, none⟩)) (.pointer (some ⟨w'.heap.size, 0, none⟩))).run Tryd.prog W = .ok (.bool true) W := fun W => run_eql_ptr_same W ⟨w'.heap.size, 0, none⟩ Tryd.underlying23 hi27
    clear hi27
    go_wp2
    go_ret
    exact ⟨rfl, hB2⟩
end Go.Proofs.Qxb6604436aDoor
