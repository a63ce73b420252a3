/-
  Seat b6604292a: 'FnCompareOwnersAntisymmetricAndZeroIffEqual': the walk and the row (the frame: the guide's template at this function's number and types).
-/
import Derived.Test.Qxb6604292aOwners
import Derived.WalkKit
import Derived.ProofKit
import Derived.OpenShut
import Derived.ShutString
namespace Go.Proofs.Qxb6604292a.fnCompareOwnersAntisymmetricAndZeroIffEqual
open Go.ChangeShapes Go.WideShapes Go.ChangeAt Go.RowKit
open Go.ChangeMaps (open_string shut_string)
set_option linter.unusedVariables false      -- a walk need not use every 'w<i>' (that an integer argument fits its kind)

theorem own : ownKnob Try.prog.godebug = none := by kernel_rfl

theorem grown_trans {a b c : World} (h : Grown a b) (k : Grown b c) : Grown a c := ⟨World.keptBut_trans h.1 k.1, fun x => (k.2.1 x).trans (h.2.1 x), Nat.le_trans h.2.2 k.2.2⟩

structure Keep (p : Prop) : Prop where
  out : p

set_option maxHeartbeats 800000 in
theorem walk (a0 : ByteArray) (a1 : ByteArray) (a2 : ByteArray) (a3 : ByteArray) (w0 : a0.size ≤ maxLen) (w1 : a1.size ≤ maxLen) (w2 : a2.size ≤ maxLen) (w3 : a3.size ≤ maxLen) (w : World) :
    Calls Try.prog 4 #[.string a0, .string a1, .string a2, .string a3] w fun e w' => e = .returned (.bool true) ∧ Grown w w' := by
  go_enter Try.func4, Try.ntmps4
  go_wp2_with fail
  refine (bytes9 a0 a1 a2 a3 w0 w1 w2 w3 w).mono ?_
  rintro e w' ⟨r, rfl, hr, rfl⟩
  cases r with
  | false =>
    go_wp2
    go_ret
    exact ⟨rfl, Grown.refl _⟩
  | true =>
    have hs := hr rfl
    clear hr w0 w1 w2 w3
    have d0 : decide ((1048576 : Int) < (a0.size : Int)) = false := by simp; omega
    have d1 : decide ((1048576 : Int) < (a1.size : Int)) = false := by simp; omega
    have d2 : decide ((1048576 : Int) < (a2.size : Int)) = false := by simp; omega
    have d3 : decide ((1048576 : Int) < (a3.size : Int)) = false := by simp; omega
    go_wp2_with fail
    refine (zz_any a0 a1 a2 a3 _).mono ?_
    rintro e v1 ⟨rfl, hg1⟩
    have hz := co_zero a0.data.toList a1.data.toList a2.data.toList a3.data.toList
    have hrg := co_range a0.data.toList a1.data.toList a2.data.toList a3.data.toList
    have HSW : Keep (co a2.data.toList a3.data.toList a0.data.toList a1.data.toList = - co a0.data.toList a1.data.toList a2.data.toList a3.data.toList) := ⟨co_swap _ _ _ _⟩
    generalize co a0.data.toList a1.data.toList a2.data.toList a3.data.toList = c at *
    have hc1 : -1 ≤ c := by omega
    have hc2 : c ≤ 1 := by omega
    have HZ : Keep (c = 0 ↔ a0.data.toList = a2.data.toList ∧ a1.data.toList = a3.data.toList) := ⟨hz⟩
    clear hz hrg
    go_wp2_with fail
    refine (zz_any a2 a3 a0 a1 _).mono ?_
    rintro e v2 ⟨rfl, hg2⟩
    rw [HSW.out]
    clear HSW d0 d1 d2 d3 hs
    have hgg := grown_trans hg1 hg2
    clear hg1 hg2
    by_cases hp : a0.data.toList = a2.data.toList
    · have hp' : (a0.toList == a2.toList) = true := by rw [ByteArray.toList_eq, ByteArray.toList_eq, hp]; simp
      by_cases hq : a1.data.toList = a3.data.toList
      · have hq' : (a1.toList == a3.toList) = true := by rw [ByteArray.toList_eq, ByteArray.toList_eq, hq]; simp
        have h0 : c = 0 := HZ.out.2 ⟨hp, hq⟩
        subst h0
        clear hp hq HZ
        go_wp2
        go_ret
        exact ⟨rfl, hgg⟩
      · have hq' : (a1.toList == a3.toList) = false := by rw [ByteArray.toList_eq, ByteArray.toList_eq]; exact beq_eq_false_iff_ne.2 hq
        have h0 : (c == 0) = false := by
          have : c ≠ 0 := fun h => hq (HZ.out.1 h).2
          simp [this]
        clear hp hq HZ
        go_wp2
        go_ret
        exact ⟨rfl, hgg⟩
    · have hp' : (a0.toList == a2.toList) = false := by rw [ByteArray.toList_eq, ByteArray.toList_eq]; exact beq_eq_false_iff_ne.2 hp
      have h0 : (c == 0) = false := by
        have : c ≠ 0 := fun h => hp (HZ.out.1 h).1
        simp [this]
      clear hp HZ
      go_wp2
      go_ret
      exact ⟨rfl, hgg⟩

/-! ### THE ROW's STEP: WRITTEN OUT: LEAVE IT -/
set_option maxRecDepth 100000 in
theorem lifted (os : Os) (started : os.Started) (H : Type) (enc : TypeId × Value → H) :
    ReturnsInHanded {} Try.checked os 4 .any (Rows.fnCompareOwnersAntisymmetricAndZeroIffEqualSpec.pre6 enc Try.prog Try.f4 Rows.fnCompareOwnersAntisymmetricAndZeroIffEqualRow.domain false) (Rows.fnCompareOwnersAntisymmetricAndZeroIffEqualSpec.post enc Try.prog Try.f4 false true false false) := by
  refine returnsInHanded_of_change (C := Try.checked) own started (by kernel_rfl) Try.func4
    (ChangeSpec.witness6 (enc := enc) (C := Try.checked) false ⟨#[], #[.string ByteArray.empty, .string ByteArray.empty, .string ByteArray.empty, .string ByteArray.empty], []⟩ 8 (by kernel_rfl) (by kernel_rfl) (by kernel_rfl) (by kernel_rfl)) ?_
  intro W base args ds gs before hval0 hW hcnd _
  have hval : ∀ (j : Nat) t v, Try.f4.params[j]? = some t → args[j]? = some v → Value.okWide Try.prog W .any base t v := hval0
  have hW' := hW
  obtain ⟨p, q, hA0, hV, rfl, hfz, hnd⟩ := hW
  have hA : DataW.TrodAll enc Try.prog W 0 (fun _ => true) true Try.f4.params.toList args.toList ds p := hA0
  rw [Try.params4] at hA hval
  obtain ⟨v0, vs0, d0, ds0, p0, q0, hargs, rfl, rfl, h0, r0⟩ := trodAll_cons hA
  obtain ⟨v1, vs1, d1, ds1, p1, q1, rfl, rfl, rfl, h1, r1⟩ := trodAll_cons r0
  obtain ⟨v2, vs2, d2, ds2, p2, q2, rfl, rfl, rfl, h2, r2⟩ := trodAll_cons r1
  obtain ⟨v3, vs3, d3, ds3, p3, q3, rfl, rfl, rfl, h3, r3⟩ := trodAll_cons r2
  obtain ⟨rfl, rfl, rfl⟩ := trodAll_nil r3
  obtain rfl : args = #[v0, v1, v2, v3] := by cases args; simp_all
  obtain ⟨rfl, rfl⟩ := trodVars_none hV
  obtain ⟨a0, rfl, rfl, rfl, w0⟩ := open_string Try.underlying9 (hval 0 9 v0 rfl rfl) h0
  obtain ⟨a1, rfl, rfl, rfl, w1⟩ := open_string Try.underlying9 (hval 1 9 v1 rfl rfl) h1
  obtain ⟨a2, rfl, rfl, rfl, w2⟩ := open_string Try.underlying9 (hval 2 9 v2 rfl rfl) h2
  obtain ⟨a3, rfl, rfl, rfl, w3⟩ := open_string Try.underlying9 (hval 3 9 v3 rfl rfl) h3
  clear hA0 hval0
  simp only [List.append_nil] at hW'
  refine (walk a0 a1 a2 a3 w0 w1 w2 w3 W).mono fun e W' ⟨he, hg⟩ => ?_
  subst he
  exact ⟨_, rfl, post_of_same (pa := []) (pv := []) hW' (fun _ _ _ => (trodAll_cons_mk (shut_bool Try.underlying4 _) trodAll_mk0)) (fun sp _ => (trodAll_cons_mk (shut_string Try.underlying9 w0) (trodAll_cons_mk (shut_string Try.underlying9 w1) (trodAll_cons_mk (shut_string Try.underlying9 w2) (trodAll_cons_mk (shut_string Try.underlying9 w3) trodAll_mk0))))) (fun _ _ => rfl) rfl
    (hg.frame _) hg.2.1 (ok_one (by kernel_rfl) rfl (okWide_bool_mk Try.underlying4 _))⟩

theorem over : Rows.fnCompareOwnersAntisymmetricAndZeroIffEqualRow.holds Try.pinned (OpenSpec.ofChange Rows.fnCompareOwnersAntisymmetricAndZeroIffEqualSpec) :=
  OpenClaim.holds_of_wide 4 Try.f4 rfl rfl rfl rfl rfl rfl rfl ⟨rfl, rfl, rfl, rfl, rfl⟩ rfl rfl rfl rfl rfl (by kernel_rfl) Try.func4 (by kernel_rfl)
    (of_decide_eq_true (by kernel_rfl)) (by unfold Func.isWrapper; first | (rw [if_pos (by decide +kernel)]; kernel_rfl) | (rw [if_neg (by decide +kernel)]; exact ⟨rfl, rfl⟩))
    (fun os started H enc _ => lifted os started H enc)

/-- ████ THE STATEMENT ████ -/
theorem proved : Rows.FnCompareOwnersAntisymmetricAndZeroIffEqualSaid :=
  over
end Go.Proofs.Qxb6604292a.fnCompareOwnersAntisymmetricAndZeroIffEqual
