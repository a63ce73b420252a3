import Derived.Test.Qxb6604149aJoint
namespace Go.Proofs.Qxb6604149a
open Go.RowKit

set_option maxHeartbeats 400000 in
theorem joint_nil (ao : Option Addr) (cap : Nat) (w : World) (Z : Nat → Nat → Nat) :
    Calls Try.prog 7 #[.slice ao 0 cap] w fun e w' => e = .returned (.agg (row (J Z 0)).toArray) ∧ Below w.heap.size w w' := by
  have hR := (Blk.new w (fun _ => 0)).alloc (.cells (row fun _ => 0).toArray 25)
  have hJ := Blk.new (w.alloc (.cells (row fun _ => 0).toArray 25)) (fun _ => 0)
  simp only [World.size_alloc] at hJ
  have hJ2 : Blk ((w.alloc (Obj.cells (row fun _ => 0).toArray 25)).alloc (Obj.cells (row fun _ => 0).toArray 25)) (w.heap.size + 1) (J Z 0) := hJ.congr (fun _ _ => rfl)
  have hB : Below w.heap.size w ((w.alloc (Obj.cells (row fun _ => 0).toArray 25)).alloc (Obj.cells (row fun _ => 0).toArray 25)) := ((Below.refl _ _).alloc (Nat.le_refl _) _).alloc (by simp) _
  go_enter Try.func7, Try.ntmps7
  go_wp2
  rw [row_zero]
  go_loopw [9] (fun i wr => i = .int .i64 0 ∧ Blk wr w.heap.size (fun _ => 0) ∧ Blk wr (w.heap.size + 1) (J Z 0) ∧ Below w.heap.size w wr) (fun _ _ => 0)
  case atStart => exact ⟨rfl, hR, hJ2, hB⟩
  case round =>
    clear hR hJ hJ2 hB
    obtain ⟨rfl, hR, hJ, hB⟩ := hrel
    go_wp2_with (first | (refine wl_load rfl (.tmp 3) rfl (w.heap.size + 1) _ rfl (J Z 0) hJ.range ?_) | (refine wl_store_blk rfl (.tmp 2) (.tmp 26) rfl w.heap.size (J Z 0) (fun _ => 0) rfl rfl hR ?_))
    have hfin := hR.setRow (J Z 0)
    exact bodyPost_ret (v := .agg (row (J Z 0)).toArray) (results_cell_row (fn := Try.f7) rfl _ _ w.heap.size 25 _ (0, 0) _ rfl hfin Try.underlying25 rfl (info25'' _)) rfl ⟨rfl, hB.setRow (Nat.le_refl _) _⟩

/-- what the guard on lengths leaves: if it says true there are at most 31775 arrays -/
def Ok5 (len : Nat) (w : World) (e : Ending) (w' : World) : Prop := ∃ r, e = .returned (.bool r) ∧ (r = true → len ≤ 31775) ∧ Below w.heap.size w w'

theorem ok5_false (len : Nat) (w w' : World) (h : Below w.heap.size w w') : Ok5 len w (.returned (.bool false)) w' := ⟨false, rfl, by simp, h⟩
theorem ok5_true (len : Nat) (w w' : World) (hl : len ≤ 31775) (h : Below w.heap.size w w') : Ok5 len w (.returned (.bool true)) w' := ⟨true, rfl, fun _ => hl, h⟩

theorem bytes5 (ao : Option Addr) (len cap : Nat) (w : World) (hl : len ≤ 9223372036854775807) :
    Calls Try.prog 5 #[.slice ao len cap] w fun e w' => Ok5 len w e w' := by
  have HB : Hid (Below w.heap.size w w) := Below.refl _ _
  by_cases h1 : len ≤ 1048576
  · have h1' : decide ((1048576 : Int) < (len : Int)) = false := by simp; omega
    go_enter Try.func5, Try.ntmps5
    go_wp2
    go_loop [3, 4] (fun z i => ∃ (n : Nat) (m : Int), n ≤ len ∧ i = .int .i64 n ∧ z = .int .i64 m ∧ 0 ≤ m ∧ m ≤ 1048576 ∧ Hid (m = (len : Int) + 32 * (n : Int))) (fun _ i => len - (intOf i).toNat)
    case atStart => exact ⟨0, len, Nat.zero_le _, rfl, rfl, by omega, by omega, by unfold Hid; omega⟩
    case round =>
      clear h1'
      obtain ⟨n, m, hn, rfl, rfl, hm0, hm1, HM⟩ := hrel
      by_cases hlt : n < len
      · go_wp2
        · go_ret
          exact ok5_false _ _ _ HB.out
        · go_round
          case rel => exact ⟨n + 1, m + 32, by omega, by go_num, rfl, by omega, by omega, by have := HM.out; unfold Hid; omega⟩
          case measure => simp [intOf]; omega
      · go_wp2
        go_ret
        exact ok5_true _ _ _ (by have := HM.out; omega) HB.out
  · go_enter Try.func5, Try.ntmps5
    go_wp2
    go_ret
    exact ok5_false _ _ _ HB.out

theorem bytes8 (ao : Option Addr) (len cap : Nat) (i : Int) (f : Nat → Nat) (w : World) (hl : len ≤ 9223372036854775807) :
    Calls Try.prog 8 #[.slice ao len cap, .int .i64 i, .agg (row f).toArray] w fun e w' => Ok5 len w e w' := by
  have HB : Hid (Below w.heap.size w (w.alloc (.cells (row f).toArray 25))) := (Below.refl _ _).alloc (Nat.le_refl _) _
  by_cases h1 : len ≤ 1048576
  · have h1' : decide ((1048576 : Int) < (len : Int)) = false := by simp; omega
    go_enter Try.func8, Try.ntmps8
    go_wp2
    go_loop [7, 8] (fun z i => ∃ (n : Nat) (m : Int), n ≤ len ∧ i = .int .i64 n ∧ z = .int .i64 m ∧ 0 ≤ m ∧ m ≤ 1048576 ∧ Hid (m = (len : Int) + 32 * (n : Int))) (fun _ i => len - (intOf i).toNat)
    case atStart => exact ⟨0, len, Nat.zero_le _, rfl, rfl, by omega, by omega, by unfold Hid; omega⟩
    case round =>
      clear h1'
      obtain ⟨n, m, hn, rfl, rfl, hm0, hm1, HM⟩ := hrel
      by_cases hlt : n < len
      · go_wp2
        · go_ret
          exact ok5_false _ _ _ HB.out
        · go_round
          case rel => exact ⟨n + 1, m + 32, by omega, by go_num, rfl, by omega, by omega, by have := HM.out; unfold Hid; omega⟩
          case measure => simp [intOf]; omega
      · go_wp2
        go_ret
        exact ok5_true _ _ _ (by have := HM.out; omega) HB.out
  · go_enter Try.func8, Try.ntmps8
    go_wp2
    go_ret
    exact ok5_false _ _ _ HB.out

end Go.Proofs.Qxb6604149a
