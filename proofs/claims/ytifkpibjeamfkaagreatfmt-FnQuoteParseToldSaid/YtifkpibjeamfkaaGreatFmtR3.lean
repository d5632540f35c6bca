/-
The statement FnQuoteParse: what AutoQuote writes of a text of printed signs, Parse reads back, in a module line.
Conditions: none of ours; the row lists unicode.properties, tied to the program's text (given); fmt's texts are told by the kit's own Lean function (the run of this law asks fmt nothing).
-/
import Derived.Test.YtifkpibjeamfkaaGreatFmtR0
import Derived.Test.YtifkpibjeamfkaaGreatFmtQ8
import Derived.Test.YtifkpibjeamfkaaGreatFmtCards
import Derived.Test.YtifkpibjeamfkaaGreatFmtTie
set_option linter.unusedVariables false
namespace Go.Proofs.YtifkpibjeamfkaaGreatFmt
open Go.ChangeShapes Go.WideShapes Go.ChangeAt Go.RowKit Go.Kit
open Go.ChangeMaps (open_string shut_string)
open Go.Extern.Stop Go.Stop Go.Extern

set_option maxRecDepth 100000 in
set_option maxHeartbeats 4000000 in
theorem lifted_quote (os : Os) (started : os.Started) (H : Type) (enc : TypeId × Value → H) :
    ReturnsInTold none {} Tryz.checked os 6 .any Input.okWide ((OpenSpec.ofChange Rows.fnQuoteParseSpec).preRow enc Tryz.prog Tryz.f6 Rows.fnQuoteParseRow.domain false Rows.fnQuoteParseRow.laid)
      (fun F => ((OpenSpec.ofChange Rows.fnQuoteParseSpec).at F).post enc Tryz.prog Tryz.f6 false true false false) (aloneAtReturn Tryz.prog) nothingAlways := by
  refine returnsInTold_of_row (C := Tryz.checked) (s := OpenSpec.ofChange Rows.fnQuoteParseSpec) (by kernel_rfl) Tryz.own started (by kernel_rfl) Tryz.func6
    (OpenSpec.witness_stopped_at (enc := enc) (C := Tryz.checked) false (laidWorld os) #[.string ⟨#[]⟩] rfl (by kernel_rfl) (by kernel_rfl) (by kernel_rfl)
      (OpenSpec.preRow_of_B rfl 8 (by kernel_rfl) (by kernel_rfl) (laid_met os _))) ?_
  intro F W base args ds gs before _ hF hval0 hW _ _ _ hL _
  have hval : ∀ (j : Nat) t v, Tryz.f6.params[j]? = some t → args[j]? = some v → Value.okWide Tryz.prog W .any base t v := hval0
  have hW' := hW
  obtain ⟨p, q, hA0, hV0, rfl, hfz, hnd⟩ := hW
  have hA : DataW.TrodAll enc Tryz.prog W 0 (fun _ => true) true Tryz.f6.params.toList args.toList ds p := hA0
  rw [Tryz.params6] at hA hval
  obtain ⟨v0, d0, rfl, rfl, h0⟩ := trodAll_one hA
  obtain ⟨rfl, rfl⟩ := trodVars_none hV0
  obtain ⟨s0, rfl, rfl, rfl, w0⟩ := open_string Tryz.underlying9 (hval 0 9 v0 rfl rfl) h0
  clear hA0 hV0 hval0
  obtain ⟨hpr, hP⟩ := prTab_of_laid (W := W) hL
  refine (law_quote s0 W hpr hP).mono fun e W' ⟨he, bel⟩ => ?_
  subst he
  exact ⟨_, rfl, _, _, _, [], _, [], hW', trodAll_mk1 (shut_bool Tryz.underlying4 _), trodAll_mk1 (shut_string Tryz.underlying9 w0), rfl, bel.frame _, fun h => by cases h⟩

theorem quoteParse_holds : Rows.FnQuoteParseToldSaid :=
  Claim7.holds_of_told_tied_any_at .later 6 Tryz.f6 "fmt.errorf" [] [] _ _ _ _ _ (by kernel_rfl) rfl rfl rfl Tryz.laidOut (by kernel_rfl) rfl ⟨rfl, rfl, rfl, rfl, rfl, rfl, rfl⟩ rfl rfl (by kernel_rfl) (by kernel_rfl) Tryz.func6 (by kernel_rfl)
    (of_decide_eq_true (by kernel_rfl)) (by unfold Func.isWrapper; first | (rw [if_pos (by decide +kernel)]; kernel_rfl) | (rw [if_neg (by decide +kernel)]; exact ⟨rfl, rfl⟩)) Tryz.stops.symm rfl Tryz.stopKnobs.symm (by kernel_rfl)
    (by kernel_rfl) (by kernel_rfl) (by kernel_rfl) (by kernel_rfl) (by kernel_rfl) (by kernel_rfl) (by kernel_rfl) (by kernel_rfl) (by kernel_rfl) rfl (by kernel_rfl) rfl rfl
    rfl rfl
    rfl (by kernel_rfl) (by kernel_rfl) (by kernel_rfl) (by decide) (by kernel_rfl) fnQuoteParse_row_tie
    (OpenClaim.moreEntering_of (by kernel_rfl) (by kernel_rfl) (by kernel_rfl) (by kernel_rfl) (by kernel_rfl) (by kernel_rfl) (by kernel_rfl) (by kernel_rfl) (by kernel_rfl) (by kernel_rfl))
    ⟨_, WideRow.started_initial, Tryz.quiet _⟩
    (fun os started _ H enc _ => lifted_quote os started H enc)

#print axioms quoteParse_holds
end Go.Proofs.YtifkpibjeamfkaaGreatFmt
