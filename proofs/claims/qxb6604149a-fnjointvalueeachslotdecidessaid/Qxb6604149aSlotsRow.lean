/-
  Seat b6604149a: 'FnJointValueEachSlotDecides': the row, proved.
-/
import Derived.Test.Qxb6604149aSlots
import Derived.Test.Qxb6604149aOpen
namespace Go.Proofs.Qxb6604149a
open Go.ChangeShapes Go.WideShapes Go.ChangeAt Go.RowKit

theorem own4 : ownKnob Try.prog.godebug = none := by kernel_rfl
theorem laidOut4 : laidOutB Try.prog = true := by kernel_rfl

set_option maxRecDepth 100000 in
theorem slots_lifted (os : Os) (started : os.Started) (H : Type) (enc : TypeId × Value → H) :
    ReturnsInHanded {} Try.checked os 4 .any (Rows.fnJointValueEachSlotDecidesSpec.pre6 enc Try.prog Try.f4 Rows.fnJointValueEachSlotDecidesRow.domain false) (Rows.fnJointValueEachSlotDecidesSpec.post enc Try.prog Try.f4 false true false false) := by
  refine returnsInHanded_of_change (C := Try.checked) own4 started (by kernel_rfl) Try.func4
    (ChangeSpec.witness6 (enc := enc) (C := Try.checked) false ⟨#[], #[.slice none 0 0, .int .i64 0, .agg (row fun _ => 0).toArray], []⟩ 8 (by kernel_rfl) (by kernel_rfl) (by kernel_rfl) (by kernel_rfl)) ?_
  intro W base args ds gs before hval0 hW hcnd _
  have hval : ∀ (j : Nat) t v, Try.f4.params[j]? = some t → args[j]? = some v → Value.okWide Try.prog W .any base t v := hval0
  have hW' := hW
  obtain ⟨p, q, hA0, hV, rfl, hfz, hnd⟩ := hW
  have hA : DataW.TrodAll enc Try.prog W 0 (fun _ => true) true Try.f4.params.toList args.toList ds p := hA0
  rw [Try.params4] at hA hval
  obtain ⟨v0, vs0, d0, ds0, p0, q0, hargs, rfl, rfl, h0, r0⟩ := trodAll_cons hA
  obtain ⟨v1, vs1, d1, ds1, p1, q1, rfl, rfl, rfl, h1, r1⟩ := trodAll_cons r0
  obtain ⟨v2, vs2, d2, ds2, p2, q2, rfl, rfl, rfl, h2, r2⟩ := trodAll_cons r1
  obtain ⟨rfl, rfl, rfl⟩ := trodAll_nil r2
  obtain rfl : args = #[v0, v1, v2] := by cases args; simp_all
  obtain ⟨rfl, rfl⟩ := trodVars_none hV
  have h0k := h0
  have h1k := h1
  have h2k := h2
  obtain ⟨ao, len, cap, Z, rfl, hlen, hZ, hVals⟩ := open_vals h0 (hval 0 22 v0 rfl rfl)
  obtain ⟨i, rfl, _, _, _⟩ := open_int Try.underlying3 (hval 1 3 v1 rfl rfl) h1
  obtain ⟨x, rfl, hx⟩ := open_arr h2 (hval 2 25 v2 rfl rfl)
  clear hA0 hval0
  simp only [List.append_nil] at hW'
  refine (slot_walk ao len cap i x W (by unfold maxLen at hlen; omega) Z hZ hx hVals).mono fun e W' ⟨he, hb⟩ => ?_
  subst he
  have hlt : ∀ y ∈ p0 ++ (p1 ++ p2), y.block < W.heap.size := fun y hy => by simpa using hW'.lt y hy
  refine ⟨_, rfl, _, _, _, [], p0 ++ (p1 ++ p2), [], hW', ?_, ?_, rfl, hb.frame _, fun h => by cases h⟩
  · exact trodAll_mk1 (shut_bool Try.underlying4 _)
  · refine trodAll_cons_mk (Below.trod laidOut4 (by kernel_rfl) (of_decide_eq_true (by kernel_rfl)) h0k hb (fun y hy => hlt y (by simp [hy]))) ?_
    refine trodAll_cons_mk (Below.trod laidOut4 (by kernel_rfl) (of_decide_eq_true (by kernel_rfl)) h1k hb (fun y hy => hlt y (by simp [hy]))) ?_
    have h3 := trodAll_cons_mk (Below.trod laidOut4 (by kernel_rfl) (of_decide_eq_true (by kernel_rfl)) h2k hb (fun y hy => hlt y (by simp [hy]))) trodAll_mk0
    rwa [List.append_nil] at h3

/-- ████ THE STATEMENT ████ -/
theorem slots_proved : Rows.FnJointValueEachSlotDecidesSaid :=
  OpenClaim.holds_of_wide 4 Try.f4 rfl rfl rfl rfl rfl rfl rfl ⟨rfl, rfl, rfl, rfl, rfl⟩ rfl rfl rfl rfl rfl (by kernel_rfl) Try.func4 (by kernel_rfl)
    (of_decide_eq_true (by kernel_rfl)) (by unfold Func.isWrapper; first | (rw [if_pos (by decide +kernel)]; kernel_rfl) | (rw [if_neg (by decide +kernel)]; exact ⟨rfl, rfl⟩))
    (fun os started H enc _ => slots_lifted os started H enc)

end Go.Proofs.Qxb6604149a
