/-
  Seat b6604559aF: the law's walk.
-/
import Derived.Test.Qxb6604559aFmtNotFound
import Derived.LaidEqlPtr
import Derived.Deep.QuietTactic
import Derived.BigQuiet
namespace Go.Proofs.Qxb6604559aFmt
open Go.RowKit Go.Extern.Stop Go.Stop Go.Extern

theorem zz_all (F : Interp) (id T : ByteArray) (w : World) (hF : F.answers w.tape) (hT : FmtStop.textOf (F "fmt.Sprintf" (reading id.data.toList) 0) = T) :
    Calls Tryf.prog 8 #[.string id] w fun e w' => e = .returned (.pointer (some ⟨w.heap.size + 1, 0, none⟩)) ∧
      w'.heap[w.heap.size + 1]? = some (.cells #[.int .i64 2, .string T] 27 (0, 0)) ∧ w'.heap.size = w.heap.size + 2 ∧ w'.tape = w.tape ∧ Below w.heap.size w w' := by
  subst hT
  go_enter Tryf.func8, Tryf.ntmps8
  go_wp2_with (go_at_call 10; refine (notFound_all F id w hF).mono ?_; rintro e w' ⟨rfl, rfl⟩)
  go_ret
  refine ⟨rfl, ?_, by simp, rfl, ((((Below.refl _ _).alloc (Nat.le_refl _) _).alloc (by simp) _)).drew⟩
  have := heap_alloc2_new w (.cells #[.iface 9 (.string id)] 20) (.cells #[.int .i64 2, .string (FmtStop.textOf (F "fmt.Sprintf" (reading id.data.toList) 0))] 27)
  exact this

def OkB (n : Nat) (w : World) (e : Ending) (w' : World) : Prop := ∃ r, e = .returned (.bool r) ∧ (r = true → n ≤ 1048576) ∧ w' = w
theorem okB_false (n : Nat) (w : World) : OkB n w (.returned (.bool false)) w := ⟨false, rfl, by simp, rfl⟩
theorem okB_true (n : Nat) (w : World) (h : n ≤ 1048576) : OkB n w (.returned (.bool true)) w := ⟨true, rfl, fun _ => h, rfl⟩
theorem bytes7 (a : ByteArray) (wa : a.size ≤ maxLen) (w : World) :
    Calls Tryf.prog 7 #[.string a] w fun e w' => OkB a.size w e w' := by
  unfold maxLen at wa
  go_enter Tryf.func7, Tryf.ntmps7
  go_wp2
  all_goals go_ret
  all_goals first | exact okB_false _ _ | exact okB_true _ _ (by omega)

theorem info27 : (Tryf.prog.info? 27).map (·.size) = some 2 := by kernel_rfl

set_option maxHeartbeats 1000000 in
theorem law_walk (F : Interp) (id T : ByteArray) (wi : id.size ≤ maxLen) (w : World) (hF : F.answers w.tape) (hT : FmtStop.textOf (F "fmt.Sprintf" (reading id.data.toList) 0) = T) (hsz : T.size ≤ 36028797018963968) :
    Calls Tryf.prog 4 #[.string id] w fun e w' => e = .returned (.bool true) ∧ Below w.heap.size w w' := by
  go_enter Tryf.func4, Tryf.ntmps4
  go_wp2_with fail
  refine (bytes7 id wi w).mono ?_
  rintro e w' ⟨r, rfl, hr, rfl⟩
  cases r with
  | false =>
    go_wp2
    go_ret
    exact ⟨rfl, Below.refl _ _⟩
  | true =>
    have hs := hr rfl
    clear hr wi
    have d0 : decide ((1048576 : Int) < (id.size : Int)) = false := by simp; omega
    go_wp2_with fail
    refine (zz_all F id T w' hF hT).mono ?_
    rintro e v1 ⟨rfl, hk1, hz1, ht1, hb1⟩
    go_wp2_with fail
    refine (zz_all F id T v1 (by rw [ht1]; exact hF) hT).mono ?_
    rintro e v2 ⟨rfl, hk2, hz2, ht2, hb2⟩
    have hB : Below w'.heap.size w' v2 := hb1.trans (hb2.mono hb1.size)
    have hk1' : v2.heap[w'.heap.size + 1]? = some (.cells #[.int .i64 2, .string T] 27 (0, 0)) := (hb2.block _ (by omega)).trans hk1
    rw [hz1] at hk2 ⊢
    clear hk1 ht1 ht2 hb1 hb2 hF hT d0 hs
    have hne : (⟨w'.heap.size + 1, 0, none⟩ : Addr) ≠ ⟨w'.heap.size + 2 + 1, 0, none⟩ := by simp
    obtain ⟨i27, hi27, hs27⟩ := Option.map_eq_some_iff.1 info27
    have hpe : (binOp .eql 24 (.pointer (some ⟨w'.heap.size + 1, 0, none⟩)) (.pointer (some ⟨w'.heap.size + 2 + 1, 0, none⟩))).run Tryf.prog v2 = .ok (.bool false) v2 := run_eql_ptr_other v2 Tryf.underlying24 hi27 (by omega) hne hk1' hk2
    have c10 : v2.cell? ⟨w'.heap.size + 1, 0, none⟩ = some (.int .i64 2) := by rw [cell_of_row v2 _ 0 _ 27 (0, 0) hk1']; rfl
    have c11 : v2.cell? ⟨w'.heap.size + 1, 1, none⟩ = some (.string T) := by rw [cell_of_row v2 _ 1 _ 27 (0, 0) hk1']; rfl
    have c20 : v2.cell? ⟨w'.heap.size + 2 + 1, 0, none⟩ = some (.int .i64 2) := by rw [cell_of_row v2 _ 0 _ 27 (0, 0) hk2]; rfl
    have c21 : v2.cell? ⟨w'.heap.size + 2 + 1, 1, none⟩ = some (.string T) := by rw [cell_of_row v2 _ 1 _ 27 (0, 0) hk2]; rfl
    have f10 : v2.frozen? ⟨w'.heap.size + 1, 0, none⟩ = false := frozen_of_row v2 _ 0 _ 27 hk1'
    have f11 : v2.frozen? ⟨w'.heap.size + 1, 1, none⟩ = false := frozen_of_row v2 _ 1 _ 27 hk1'
    clear hk1' hk2 hne hi27 hs27 hz1 hz2
    go_wp2
    clear hpe
    go_quiet (fail)
    go_wp2
    go_ret
    exact ⟨rfl, ((below_drewN hB nq).setCell (by simp) _).setCell (by simp) _⟩
end Go.Proofs.Qxb6604559aFmt
