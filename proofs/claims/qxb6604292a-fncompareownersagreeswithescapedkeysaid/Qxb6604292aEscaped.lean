/-
  Seat b6604292a: 'FnCompareOwnersAgreesWithEscapedKey': the walk and the row (the frame: the guide's template at this function's number and types).
-/
import Derived.Test.Qxb6604292aKey
import Derived.WalkKit
import Derived.ProofKit
import Derived.OpenShut
import Derived.ShutString
namespace Go.Proofs.Qxb6604292a.fnCompareOwnersAgreesWithEscapedKey
open Go.ChangeShapes Go.WideShapes Go.ChangeAt Go.RowKit
open Go.ChangeMaps (open_string shut_string)
set_option linter.unusedVariables false      -- a walk need not use every 'w<i>' (that an integer argument fits its kind)

theorem own : ownKnob Try.prog.godebug = none := by kernel_rfl

theorem owners_below (a1 a2 b1 b2 : ByteArray) (w : World) :
    Calls Try.prog 10 #[.agg #[.string a1, .string a2], .agg #[.string b1, .string b2]] w fun e w' => e = .returned (.int .i64 (co a1.data.toList a2.data.toList b1.data.toList b2.data.toList)) ∧ Below w.heap.size w w' := by
  by_cases h : cb a1.data.toList b1.data.toList = 0
  · have hd : (cb a1.data.toList b1.data.toList != 0) = false := by simp [h]
    have HC : Hid (co a1.data.toList a2.data.toList b1.data.toList b2.data.toList = cb a2.data.toList b2.data.toList) := by unfold Hid co; rw [if_pos h]
    clear h
    go_enter Try.func10, Try.ntmps10
    go_wp2_with (go_at_call 11; refine (compare_any _ _ _).mono ?_; rintro e w' ⟨rfl, rfl⟩)
    go_ret
    exact ⟨by rw [HC.out]; rfl, ((Below.refl _ _).alloc (Nat.le_refl _) _).alloc (by simp) _⟩
  · have hd : (cb a1.data.toList b1.data.toList != 0) = true := by simp [h]
    have HC : Hid (co a1.data.toList a2.data.toList b1.data.toList b2.data.toList = cb a1.data.toList b1.data.toList) := by unfold Hid co; rw [if_neg h]
    clear h
    go_enter Try.func10, Try.ntmps10
    go_wp2_with (go_at_call 11; refine (compare_any _ _ _).mono ?_; rintro e w' ⟨rfl, rfl⟩)
    go_ret
    exact ⟨by rw [HC.out]; rfl, ((Below.refl _ _).alloc (Nat.le_refl _) _).alloc (by simp) _⟩

theorem zz_below (a1 a2 b1 b2 : ByteArray) (w : World) :
    Calls Try.prog 6 #[.string a1, .string a2, .string b1, .string b2] w fun e w' => e = .returned (.int .i64 (co a1.data.toList a2.data.toList b1.data.toList b2.data.toList)) ∧ Below w.heap.size w w' := by
  go_enter Try.func6, Try.ntmps6
  go_wp2_with (go_at_call 10; refine (owners_below _ _ _ _ _).mono ?_; rintro e w' ⟨rfl, hg⟩)
  go_ret
  exact ⟨rfl, hg⟩

theorem lies_of {w : World} {g c : Nat} {xs : List UInt8} {base : Nat} (h : w.ownsRow base 5 1 (.slice (some ⟨g, 0, none⟩) xs.length c) xs.length (cells xs)) : Lies w g xs := fun j hj => by
  rw [h.cellAt j (by omega)]
  simp [cells, hj]
theorem lies_below {w w' : World} {g : Nat} {xs : List UInt8} {B : Nat} (h : Lies w g xs) (hb : Below B w w') (hg : g < B) : Lies w' g xs := fun j hj => by
  rw [hb.cell (p := ⟨g, j, none⟩) hg]; exact h j hj

set_option maxHeartbeats 800000 in
theorem walk (a0 : ByteArray) (a1 : ByteArray) (a2 : ByteArray) (a3 : ByteArray) (w0 : a0.size ≤ maxLen) (w1 : a1.size ≤ maxLen) (w2 : a2.size ≤ maxLen) (w3 : a3.size ≤ maxLen) (w : World) :
    Calls Try.prog 3 #[.string a0, .string a1, .string a2, .string a3] w fun e w' => e = .returned (.bool true) ∧ Below w.heap.size w w' := by
  go_enter Try.func3, Try.ntmps3
  go_wp2_with fail
  refine (bytes5 a0 a1 a2 a3 w0 w1 w2 w3 w).mono ?_
  rintro e w' ⟨r, rfl, hr, rfl⟩
  cases r with
  | false =>
    go_wp2
    go_ret
    exact ⟨rfl, Below.refl _ _⟩
  | true =>
    have hs := hr rfl
    clear hr w0 w1 w2 w3
    have d0 : decide ((1048576 : Int) < (a0.size : Int)) = false := by simp; omega
    have d1 : decide ((1048576 : Int) < (a1.size : Int)) = false := by simp; omega
    have d2 : decide ((1048576 : Int) < (a2.size : Int)) = false := by simp; omega
    have d3 : decide ((1048576 : Int) < (a3.size : Int)) = false := by simp; omega
    go_wp2_with fail
    refine (zz_below a0 a1 a2 a3 _).mono ?_
    rintro e v1 ⟨rfl, hb1⟩
    rw [co_key]
    have HL1 : Keep ((key a0.data.toList a1.data.toList).length ≤ 9223372036854775807) := ⟨by rw [key_length]; simp; omega⟩
    have HL2 : Keep ((key a2.data.toList a3.data.toList).length ≤ 9223372036854775807) := ⟨by rw [key_length]; simp; omega⟩
    have HS1 : Keep (a0.size + a1.size ≤ 1048576) := ⟨by omega⟩
    have HS2 : Keep (a2.size + a3.size ≤ 1048576) := ⟨by omega⟩
    clear d0 d1 d2 d3 hs
    go_wp2_with fail
    refine (key_any a0 a1 v1 HS1.out).mono ?_
    rintro e v2 ⟨c1, rfl, ho1, hb2⟩
    have hl1 := lies_of ho1
    have hz1 : v1.heap.size < v2.heap.size := by
      have h0 := hl1 0 (by rw [key_length]; omega)
      exact block_lt_of_cell h0
    clear ho1
    go_wp2_with fail
    refine (key_any a2 a3 v2 HS2.out).mono ?_
    rintro e v3 ⟨c2, rfl, ho2, hb3⟩
    have hl2 := lies_of ho2
    have hl1' := lies_below hl1 hb3 hz1
    have hB : Below w'.heap.size w' v3 := (hb1.trans (hb2.mono hb1.size)).trans (hb3.mono (Nat.le_trans hb1.size hb2.size))
    clear ho2 hl1 hb1 hb2 hb3
    generalize key a0.data.toList a1.data.toList = ka at *
    generalize key a2.data.toList a3.data.toList = kb at *
    go_wp2_with fail
    refine (cmp_any _ _ c1 c2 ka kb v3 hl1' hl2 HL1.out HL2.out).mono ?_
    rintro e v4 ⟨rfl, nq, rfl⟩
    clear hl1' hl2
    go_wp2
    go_ret
    exact ⟨rfl, below_drewN hB nq⟩

/-! ### THE ROW's STEP: WRITTEN OUT: LEAVE IT -/
set_option maxRecDepth 100000 in
theorem lifted (os : Os) (started : os.Started) (H : Type) (enc : TypeId × Value → H) :
    ReturnsInHanded {} Try.checked os 3 .any (Rows.fnCompareOwnersAgreesWithEscapedKeySpec.pre6 enc Try.prog Try.f3 Rows.fnCompareOwnersAgreesWithEscapedKeyRow.domain false) (Rows.fnCompareOwnersAgreesWithEscapedKeySpec.post enc Try.prog Try.f3 false true false false) := by
  refine returnsInHanded_of_change (C := Try.checked) own started (by kernel_rfl) Try.func3
    (ChangeSpec.witness6 (enc := enc) (C := Try.checked) false ⟨#[], #[.string ByteArray.empty, .string ByteArray.empty, .string ByteArray.empty, .string ByteArray.empty], []⟩ 8 (by kernel_rfl) (by kernel_rfl) (by kernel_rfl) (by kernel_rfl)) ?_
  intro W base args ds gs before hval0 hW hcnd _
  have hval : ∀ (j : Nat) t v, Try.f3.params[j]? = some t → args[j]? = some v → Value.okWide Try.prog W .any base t v := hval0
  have hW' := hW
  obtain ⟨p, q, hA0, hV, rfl, hfz, hnd⟩ := hW
  have hA : DataW.TrodAll enc Try.prog W 0 (fun _ => true) true Try.f3.params.toList args.toList ds p := hA0
  rw [Try.params3] at hA hval
  obtain ⟨v0, vs0, d0, ds0, p0, q0, hargs, rfl, rfl, h0, r0⟩ := trodAll_cons hA
  obtain ⟨v1, vs1, d1, ds1, p1, q1, rfl, rfl, rfl, h1, r1⟩ := trodAll_cons r0
  obtain ⟨v2, vs2, d2, ds2, p2, q2, rfl, rfl, rfl, h2, r2⟩ := trodAll_cons r1
  obtain ⟨v3, vs3, d3, ds3, p3, q3, rfl, rfl, rfl, h3, r3⟩ := trodAll_cons r2
  obtain ⟨rfl, rfl, rfl⟩ := trodAll_nil r3
  obtain rfl : args = #[v0, v1, v2, v3] := by cases args; simp_all
  obtain ⟨rfl, rfl⟩ := trodVars_none hV
  obtain ⟨a0, rfl, rfl, rfl, w0⟩ := open_string Try.underlying9 (hval 0 9 v0 rfl rfl) h0
  obtain ⟨a1, rfl, rfl, rfl, w1⟩ := open_string Try.underlying9 (hval 1 9 v1 rfl rfl) h1
  obtain ⟨a2, rfl, rfl, rfl, w2⟩ := open_string Try.underlying9 (hval 2 9 v2 rfl rfl) h2
  obtain ⟨a3, rfl, rfl, rfl, w3⟩ := open_string Try.underlying9 (hval 3 9 v3 rfl rfl) h3
  clear hA0 hval0
  simp only [List.append_nil] at hW'
  refine (walk a0 a1 a2 a3 w0 w1 w2 w3 W).mono fun e W' ⟨he, hg⟩ => ?_
  subst he
  refine ⟨_, rfl, _, _, _, [], [], [], hW', ?_, ?_, rfl, hg.frame _, fun h => by cases h⟩
  · exact (trodAll_cons_mk (shut_bool Try.underlying4 _) trodAll_mk0)
  · exact (trodAll_cons_mk (shut_string Try.underlying9 w0) (trodAll_cons_mk (shut_string Try.underlying9 w1) (trodAll_cons_mk (shut_string Try.underlying9 w2) (trodAll_cons_mk (shut_string Try.underlying9 w3) trodAll_mk0))))

theorem over : Rows.fnCompareOwnersAgreesWithEscapedKeyRow.holds Try.pinned (OpenSpec.ofChange Rows.fnCompareOwnersAgreesWithEscapedKeySpec) :=
  OpenClaim.holds_of_wide 3 Try.f3 rfl rfl rfl rfl rfl rfl rfl ⟨rfl, rfl, rfl, rfl, rfl⟩ rfl rfl rfl rfl rfl (by kernel_rfl) Try.func3 (by kernel_rfl)
    (of_decide_eq_true (by kernel_rfl)) (by unfold Func.isWrapper; first | (rw [if_pos (by decide +kernel)]; kernel_rfl) | (rw [if_neg (by decide +kernel)]; exact ⟨rfl, rfl⟩))
    (fun os started H enc _ => lifted os started H enc)

/-- ████ THE STATEMENT ████ -/
theorem proved : Rows.FnCompareOwnersAgreesWithEscapedKeySaid :=
  over
end Go.Proofs.Qxb6604292a.fnCompareOwnersAgreesWithEscapedKey
