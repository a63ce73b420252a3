/-
  Seat b6604436aD: the row proved; the tied card.
-/
import Derived.Test.Qxb6604436aDoorLaw
import Derived.Test.Qxb6604436aDoorTie
import Derived.Test.Qxb6604436aDoorCards
import Derived.ProofKit
import Derived.OpenShut
import Derived.ShutString
import Derived.LaidLaws
import Derived.LaidHandle
import Derived.Stop.Joined
import Derived.SevenTiedAt
namespace Go.Proofs.Qxb6604436aDoor
open Go.ChangeShapes Go.WideShapes Go.ChangeAt Go.RowKit
open Go.ChangeMaps (open_string shut_string)

theorem own : ownKnob Tryd.prog.godebug = none := by kernel_rfl
theorem glob : Tryd.prog.globalNamed "errors.errorType" = some 0 := by kernel_rfl
/-- the dynamic type's name in a datum of an interface type -/
def dynName : DataW Unit → String
  | .iface s _ => s
  | _ => ""
theorem rt : (Tryd.prog.cutTypes.find? (·.1 == dynName Rows.laid_errors_errorType)).map (·.2) = some 54 := by kernel_rfl
theorem oneRow : ((List.range 96).filter fun t => Tryd.prog.rowNamed t [101, 114, 114, 111, 114]) = [31] := by kernel_rfl
theorem size : Tryd.prog.types.size = 96 := by kernel_rfl

/-- WHAT THE CONDITION GIVES A WALK: the variable's one cell. -/
theorem handle_of_laid {W : World} (h : laidMetH Tryd.prog [("errors.errorType", Rows.laid_errors_errorType)] W) : W.cell? ⟨0, 0, none⟩ = some (.iface 54 (.agg #[.pointer (some ⟨1, 31, none⟩)])) := by
  have h' : laidMet Tryd.prog [] W ∧ handlesMet Tryd.prog [("errors.errorType", Rows.laid_errors_errorType)] W := h
  obtain ⟨name, u, ty, e1, e2, e3, e4, e5⟩ := h'.2 _ (List.mem_singleton.2 rfl)
  have en : name = [101, 114, 114, 111, 114] := (Option.some.inj e1).symm
  subst en
  obtain rfl := Option.some.inj (rt.symm.trans e2)
  have hm : ty ∈ (List.range 96).filter fun t => Tryd.prog.rowNamed t [101, 114, 114, 111, 114] := List.mem_filter.2 ⟨List.mem_range.2 (by rw [← size]; exact e3), e4⟩
  rw [oneRow] at hm
  obtain rfl := List.mem_singleton.1 hm
  have hh : typeHandle Tryd.prog 31 = .pointer (some ⟨1, 31, none⟩) := by kernel_rfl
  rw [hh] at e5
  simpa using World.var?_cell glob e5 0

theorem laidWorld_met (os : Os) (args : Array Value) : laidMetH Tryd.prog [("errors.errorType", Rows.laid_errors_errorType)] (World.forCall ({ World.holding Tryd.prog os ⟨#[], #[], []⟩ with heap := (World.holding Tryd.prog os ⟨#[], #[], []⟩).heap.modify 0 fun
      | .cells _ t frozen => .cells #[.iface 54 (.agg #[.pointer (some ⟨1, 31, none⟩)])] t frozen
      | o => o } : World) (fun _ _ => 0) ⟨#[], args, []⟩).memory :=
  laidMetH_of_parts (laidMet_nil _ _) (by kernel_rfl)

set_option maxRecDepth 100000 in
theorem law_lifted (os : Os) (started : os.Started) (H : Type) (enc : TypeId × Value → H) :
    ReturnsInHanded {} Tryd.checked os 3 .any (fun w args => (Rows.fnErrorOfGivesBackTheAPIErrorItIsOrWrapsSpec.pre enc Tryd.prog Tryd.f3 [] false w args ∧ laidMetH Tryd.prog [("errors.errorType", Rows.laid_errors_errorType)] w) ∧ sizedMet enc Tryd.prog Tryd.f3 (OpenSpec.ofChange Rows.fnErrorOfGivesBackTheAPIErrorItIsOrWrapsSpec) false w args)
      (Rows.fnErrorOfGivesBackTheAPIErrorItIsOrWrapsSpec.post enc Tryd.prog Tryd.f3 false true false false) := by
  refine returnsInHanded_of_change_and (C := Tryd.checked) (X := fun w _ => laidMetH Tryd.prog [("errors.errorType", Rows.laid_errors_errorType)] w) (fun _ _ _ hh h => h.of_heap hh) own started (by kernel_rfl) Tryd.func3
    (ChangeSpec.witness_at (enc := enc) (C := Tryd.checked) (os := os) (X := fun w _ => laidMetH Tryd.prog [("errors.errorType", Rows.laid_errors_errorType)] w) false ({ World.holding Tryd.prog os ⟨#[], #[], []⟩ with heap := (World.holding Tryd.prog os ⟨#[], #[], []⟩).heap.modify 0 fun
      | .cells _ t frozen => .cells #[.iface 54 (.agg #[.pointer (some ⟨1, 31, none⟩)])] t frozen
      | o => o } : World) #[.string ByteArray.empty, .string ByteArray.empty, .string ByteArray.empty] 8 rfl (by kernel_rfl) (by kernel_rfl) (by kernel_rfl) (by kernel_rfl) (by kernel_rfl) (laidWorld_met os _)) ?_
  intro W base args ds gs before hval0 hW _ _ hL _
  have hval : ∀ (j : Nat) t v, Tryd.f3.params[j]? = some t → args[j]? = some v → Value.okWide Tryd.prog W .any base t v := hval0
  have hW' := hW
  obtain ⟨p, q, hA0, hV, rfl, hfz, hnd⟩ := hW
  have hA : DataW.TrodAll enc Tryd.prog W 0 (fun _ => true) true Tryd.f3.params.toList args.toList ds p := hA0
  rw [Tryd.params3] at hA hval
  obtain ⟨v0, vs0, d0, ds0, p0, q0, hargs, rfl, rfl, h0, r0⟩ := trodAll_cons hA
  obtain ⟨v1, vs1, d1, ds1, p1, q1, rfl, rfl, rfl, h1, r1⟩ := trodAll_cons r0
  obtain ⟨v2, vs2, d2, ds2, p2, q2, rfl, rfl, rfl, h2, r2⟩ := trodAll_cons r1
  obtain ⟨rfl, rfl, rfl⟩ := trodAll_nil r2
  obtain rfl : args = #[v0, v1, v2] := by cases args; simp_all
  obtain ⟨rfl, rfl⟩ := trodVars_none hV
  obtain ⟨a0, rfl, rfl, rfl, w0⟩ := open_string Tryd.underlying9 (hval 0 9 v0 rfl rfl) h0
  obtain ⟨a1, rfl, rfl, rfl, w1⟩ := open_string Tryd.underlying9 (hval 1 9 v1 rfl rfl) h1
  obtain ⟨a2, rfl, rfl, rfl, w2⟩ := open_string Tryd.underlying9 (hval 2 9 v2 rfl rfl) h2
  clear hA0 hval0
  simp only [List.append_nil] at hW'
  have hg := handle_of_laid hL
  refine (law_walk a0 a1 a2 w0 w1 w2 W hg).mono fun e W' ⟨he, hb⟩ => ?_
  subst he
  refine ⟨_, rfl, _, _, _, [], [], [], hW', ?_, ?_, rfl, hb.frame _, fun h => by cases h⟩
  · exact (trodAll_cons_mk (shut_bool Tryd.underlying4 _) trodAll_mk0)
  · exact (trodAll_cons_mk (shut_string Tryd.underlying9 w0) (trodAll_cons_mk (shut_string Tryd.underlying9 w1) (trodAll_cons_mk (shut_string Tryd.underlying9 w2) trodAll_mk0)))

theorem row_holds : Rows.FnErrorOfGivesBackTheAPIErrorItIsOrWrapsSaid :=
  OpenClaim.holds_of_wide 3 Tryd.f3 rfl rfl rfl rfl rfl rfl rfl ⟨rfl, rfl, rfl, rfl, rfl⟩ rfl rfl rfl rfl rfl (by kernel_rfl) Tryd.func3 (by kernel_rfl)
    (of_decide_eq_true (by kernel_rfl)) (by unfold Func.isWrapper; first | (rw [if_pos (by decide +kernel)]; kernel_rfl) | (rw [if_neg (by decide +kernel)]; exact ⟨rfl, rfl⟩))
    (fun os started H enc _ => law_lifted os started H enc)

/-- ████ THE STATEMENT: THE TIED CARD ████ -/
theorem card_proved : Rows.FnErrorOfGivesBackTheAPIErrorItIsOrWrapsCardSaid :=
  Claim7.holds_tied_plain_at .later [] [.handle] true (true, "e1654a773157e5e6083ffaeaba3fbf114912f6873856d8d6deef45401d54352d") true
    row_holds (fun _ h => by cases h) (by kernel_rfl) (fun _ h => by cases h) fnErrorOfGivesBackTheAPIErrorItIsOrWraps_row_tie rfl ⟨rfl, rfl⟩ (by kernel_rfl) rfl
    (fun f fn hf hfn => by
      obtain rfl : f = 3 := Option.some.inj ((show Tryd.prog.funcNamed Tryd.f3.name = some 3 by kernel_rfl).symm.trans hf) |>.symm
      obtain rfl : fn = Tryd.f3 := (Option.some.inj (Tryd.func3.symm.trans hfn)).symm
      exact ⟨by kernel_rfl, fun j t ht => by
        rw [Tryd.params3] at ht
        have h9 : t = 9 := by
          rcases j with _ | _ | _ | j
          · simpa using ht.symm
          · simpa using ht.symm
          · simpa using ht.symm
          · simp at ht
        subst h9
        exact (show Tryd.prog.wantsStandIn 9 = false by kernel_rfl)⟩)
    (by kernel_rfl)

end Go.Proofs.Qxb6604436aDoor
