/-
  Seat b6604559aF: the told row and its card.
-/
import Derived.Test.Qxb6604559aFmtLaw
import Derived.Test.Qxb6604559aFmtCards
import Derived.ProofKit
import Derived.ShutString
import Derived.Stop.JoinedAt
import Derived.Stop.Texts
import Derived.Stop.JoinedTold
import Derived.Stop.FmtQuoteTie
import Derived.Stop.FmtTextKit
import Derived.SizedLaws
import Derived.SevenToldRow
namespace Go.Proofs.Qxb6604559aFmt
open Go.ChangeShapes Go.WideShapes Go.ChangeAt Go.RowKit Go.Kit
open Go.ChangeMaps (open_string shut_string)
open Go.Extern.Stop Go.Stop Go.Extern

theorem own : ownKnob Tryf.prog.godebug = none := by kernel_rfl

theorem t_parse : (FmtText.parse fmtBytes).map FmtText.glue = some [.lit [110, 111, 32, 97, 99, 99, 101, 115, 115, 32, 114, 101, 113, 117, 101, 115, 116, 32], .verb {} 113] := by rfl

/-- THE TEXT: the literal words, then the string as strconv.Quote writes it. -/
def tText (id : List UInt8) : List UInt8 := [110, 111, 32, 97, 99, 99, 101, 115, 115, 32, 114, 101, 113, 117, 101, 115, 116, 32] ++ FmtText.quote false id

theorem t_text (id : List UInt8) (hs : id.length < 2 ^ 64) : FmtText.text "fmt.Sprintf" (reading id) = some (tText id) := by
  have hn := FmtText.operand_str_at (sh := shape9) rfl rfl id hs
  rw [reading, FmtText.text_sprintf_glued t_parse (FmtText.operands_cons hn FmtText.operands_nil)]
  simp [FmtText.render, FmtText.printArg_q_str, tText]

set_option maxRecDepth 100000 in
theorem t_lifted (os : Os) (started : os.Started) (H : Type) (enc : TypeId × Value → H) :
    ReturnsInTold none {} Tryf.checked os 4 .any Input.okWide ((OpenSpec.ofChange Rows.fnNotFoundFreshSpec).preRow enc Tryf.prog Tryf.f4 [] false []) (fun F => ((OpenSpec.ofChange Rows.fnNotFoundFreshSpec).at F).post enc Tryf.prog Tryf.f4 false true false false) (aloneAtReturn Tryf.prog) nothingAlways := by
  refine returnsInTold_of_row (C := Tryf.checked) (s := OpenSpec.ofChange Rows.fnNotFoundFreshSpec) (by kernel_rfl) own started (by kernel_rfl) Tryf.func4
    (OpenSpec.witness_stopped (enc := enc) (C := Tryf.checked) false ⟨#[], #[.string ⟨#[]⟩], []⟩ 8 (by kernel_rfl) (by kernel_rfl) (by kernel_rfl) (by kernel_rfl)) ?_
  intro F W base args ds gs before _ hF hval0 hW _ _ hsz _ _
  have hval : ∀ (j : Nat) t v, Tryf.f4.params[j]? = some t → args[j]? = some v → Value.okWide Tryf.prog W .any base t v := hval0
  have hW' := hW
  obtain ⟨p, q, hA0, hV, rfl, hfz, hnd⟩ := hW
  have hA : DataW.TrodAll enc Tryf.prog W 0 (fun _ => true) true Tryf.f4.params.toList args.toList ds p := hA0
  rw [Tryf.params4] at hA hval
  obtain ⟨v0, d0, hargs, rfl, h0⟩ := trodAll_one hA
  obtain rfl : args = #[v0] := by cases args; simp_all
  obtain ⟨rfl, rfl⟩ := trodVars_none hV
  obtain ⟨id, rfl, rfl, rfl, wi⟩ := open_string Tryf.underlying9 (hval 0 9 v0 rfl rfl) h0
  clear hA0 hval0
  have hlen : id.data.toList.length ≤ reachBytes := sized_string hsz (j := 0) (t := 9) rfl rfl
  have hr47 := reachBytes_lt
  have l3 := FmtText.quote_length_le id.data.toList
  have ht := told_string F (t_text id.data.toList (by omega)) (by simp [tText]; omega)
  have hTL : (FmtStop.textOf (F.told "fmt.Sprintf" (reading id.data.toList) 0)).size ≤ 36028797018963968 := by
    have h1 : (FmtStop.textOf (F.told "fmt.Sprintf" (reading id.data.toList) 0)).data.toList.length ≤ 36028797018963968 := by
      rw [textOf_list, ht]; simp [tText]; omega
    simpa using h1
  refine (law_walk F.told id _ wi W hF rfl hTL).mono fun e W' ⟨he, hb⟩ => ?_
  subst he
  refine ⟨_, rfl, _, _, _, [], [], [], hW', ?_, ?_, rfl, hb.frame _, fun h => by cases h⟩
  · exact trodAll_mk1 (shut_bool Tryf.underlying4 _)
  · exact trodAll_mk1 (shut_string Tryf.underlying9 wi)

theorem laidOut : laidOutB Tryf.pinned.checked.prog = true := by kernel_rfl
theorem stopKnobs : Tryf.pinned.checked.prog.stopKnobs = [] := by kernel_rfl
theorem quiet (os : Os) : Stop.quiet Tryf.pinned.checked.prog os := by
  intro k hk
  rw [stopKnobs] at hk
  cases hk

/-- ████ THE STATEMENT: THE TOLD CARD ████ -/
theorem told_proved : Rows.FnNotFoundFreshToldSaid :=
  Claim7.holds_of_told_any (p := Tryf.pinned) (s := OpenSpec.ofChange Rows.fnNotFoundFreshSpec) (c := Rows.fnNotFoundFreshRow) 4 Tryf.f4 _ _ [] _ _ _ (by kernel_rfl) rfl rfl rfl laidOut (by kernel_rfl) rfl ⟨rfl, rfl, rfl, rfl, rfl, rfl, rfl⟩ rfl rfl (by kernel_rfl) (by kernel_rfl) Tryf.func4 (by kernel_rfl)
    (of_decide_eq_true (by kernel_rfl)) (by unfold Func.isWrapper; first | (rw [if_pos (by decide +kernel)]; kernel_rfl) | (rw [if_neg (by decide +kernel)]; exact ⟨rfl, rfl⟩)) (by kernel_rfl) rfl stopKnobs.symm (by kernel_rfl)
    (by kernel_rfl) (by kernel_rfl) (by kernel_rfl) (by kernel_rfl) (by kernel_rfl) (by kernel_rfl) (by kernel_rfl) (by kernel_rfl) (by kernel_rfl) rfl (by kernel_rfl) rfl rfl
    rfl rfl
    rfl (by kernel_rfl) (by kernel_rfl) (by kernel_rfl) (by decide) (by kernel_rfl)
    (OpenClaim.moreEntering_of (by kernel_rfl) (by kernel_rfl) (by kernel_rfl) (by kernel_rfl) (by kernel_rfl) (by kernel_rfl) (by kernel_rfl) (by kernel_rfl) (by kernel_rfl) (by kernel_rfl))
    ⟨_, WideRow.started_initial, quiet _⟩
    (fun os started _ H enc _ => t_lifted os started H enc)

end Go.Proofs.Qxb6604559aFmt
