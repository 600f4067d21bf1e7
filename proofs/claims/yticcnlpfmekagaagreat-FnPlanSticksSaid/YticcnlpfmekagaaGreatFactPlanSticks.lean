/- The closed facts of the row of the law FnPlanSticks, one a declaration. -/
import Derived.Test.YticcnlpfmekagaaGreatRows
import Derived.JoinedOf
import Derived.JoinedTies
import Derived.KernelRfl
namespace Go.Proofs.YticcnlpfmekagaaGreat.fnPlanSticks
set_option maxRecDepth 100000
set_option linter.unusedVariables false
set_option linter.unusedSimpArgs false
theorem fact_wf : (Rows.fnPlanSticksRow.wf (OpenSpec.ofChange Rows.fnPlanSticksSpec)) = true := by kernel_rfl
theorem fact_laidOut : (laidOutB Tryz.prog) = true := by kernel_rfl
theorem fact_rowed : (mapsRowed Tryz.prog) = true := by kernel_rfl
theorem fact_params : (Tryz.f5.params.all (Tryz.prog.readableRec ·)) = true := by kernel_rfl
theorem fact_namedTie : (namedTie Tryz.prog Rows.fnPlanSticksRow.named Rows.fnPlanSticksSpec.vars) = true := by kernel_rfl
theorem fact_stops : (Rows.fnPlanSticksRow.stops == []) = true := by kernel_rfl
theorem fact_pstops : (Tryz.prog.stops == []) = true := by kernel_rfl
theorem fact_knobs : (Rows.fnPlanSticksRow.knobs == []) = true := by kernel_rfl
theorem fact_pknobs : (Tryz.prog.stopKnobs == []) = true := by kernel_rfl
theorem fact_inPlace : (Rows.fnPlanSticksRow.inPlace == Tryz.prog.inPlace 5) = true := by kernel_rfl
theorem fact_unfollowed : (Rows.fnPlanSticksRow.unfollowed == Tryz.prog.unfollowed 5) = true := by kernel_rfl
theorem fact_recurses : (Rows.fnPlanSticksRow.recurses == Tryz.prog.recurses 5) = true := by kernel_rfl
theorem fact_named : (Rows.fnPlanSticksRow.named == Tryz.prog.varsNamed 5) = true := by kernel_rfl
theorem fact_maps : (Rows.fnPlanSticksRow.maps == (Tryz.f5.params.toList ++ Rows.fnPlanSticksSpec.plain.varTypes Tryz.prog).any (Tryz.prog.mapsRec ·)) = true := by kernel_rfl
theorem fact_ifaces : (Rows.fnPlanSticksRow.ifaces == (Tryz.f5.params.toList ++ Rows.fnPlanSticksSpec.plain.varTypes Tryz.prog).any (Tryz.prog.ifacesRec ·)) = true := by kernel_rfl
theorem fact_mapsOut : (Rows.fnPlanSticksRow.mapsOut == Tryz.prog.mapsAmong Tryz.f5.resultTypes.toList) = true := by kernel_rfl
theorem fact_loops : (Rows.fnPlanSticksRow.loops == (Tryz.f5.params.toList ++ Rows.fnPlanSticksSpec.plain.varTypes Tryz.prog).any (Tryz.prog.loopsFrom ·)) = true := by kernel_rfl
theorem fact_wideKeys : (Rows.fnPlanSticksRow.wideKeys == (Tryz.f5.params.toList ++ Rows.fnPlanSticksSpec.plain.varTypes Tryz.prog ++ Tryz.f5.resultTypes.toList).any (Tryz.prog.wideKeysFrom ·)) = true := by kernel_rfl
theorem fact_vars : (Rows.fnPlanSticksSpec.vars.all (Tryz.prog.varReadable ·)) = true := by kernel_rfl
theorem fact_results : (Tryz.f5.resultTypes.all (fun t => Tryz.prog.readableRec t && decide (t < Tryz.prog.types.size))) = true := by kernel_rfl
theorem fact_ifacesOut : (Rows.fnPlanSticksRow.ifacesOut == Tryz.f5.resultTypes.toList.any (Tryz.prog.ifacesRec ·)) = true := by kernel_rfl
theorem fact_loopsOut : (Rows.fnPlanSticksRow.loopsOut == Tryz.f5.resultTypes.toList.any (Tryz.prog.loopsFrom ·)) = true := by kernel_rfl
theorem fact_plainKeys : (Rows.fnPlanSticksRow.plainKeys == Tryz.prog.plainKeys) = true := by kernel_rfl
theorem fact_shortTexts : (Rows.fnPlanSticksRow.shortTexts.isNone) = true := by kernel_rfl
theorem fact_stopsHeard : (Tryz.prog.stopsHeard) = true := by kernel_rfl
theorem fact_mayEnter : (Tryz.prog.mayEnter) = true := by kernel_rfl
theorem fact_lifts : (Rows.fnPlanSticksRow.lifted == Tryz.prog.liftsFinal) = true := by kernel_rfl
theorem fact_make : (Tryz.prog.make == some Rows.fnPlanSticksRow.make) = true := by kernel_rfl
theorem fact_kinds : (Rows.fnPlanSticksRow.kinds == (if Rows.fnPlanSticksRow.domain.isEmpty then [] else Tryz.f5.params.toList.map fun t => match Tryz.prog.underlying t with | some (.int k) => some k | _ => none)) = true := by kernel_rfl
theorem fact_pinned : (Rows.fnPlanSticksRow.pinned == Rows.fnPlanSticksRow.pinnedBy) = true := by kernel_rfl
theorem fact_veiled : (Rows.fnPlanSticksRow.veiled == (Tryz.f5.params.toList ++ Rows.fnPlanSticksSpec.plain.varTypes Tryz.prog ++ Tryz.f5.resultTypes.toList).any (Tryz.prog.veiledRec ·)) = true := by kernel_rfl
theorem fact_veiledFits : (Rows.fnPlanSticksRow.veiledFits Tryz.prog Tryz.f5.params.toList (Tryz.f5.params.toList ++ Rows.fnPlanSticksSpec.plain.varTypes Tryz.prog ++ Tryz.f5.resultTypes.toList)) = true := by kernel_rfl
theorem fact_name : Tryz.pinned.checked.prog.funcNamed Rows.fnPlanSticksRow.func = some 5 := by kernel_rfl
theorem closed : joinedFacts Tryz.pinned.checked.prog 5 Tryz.f5 Rows.fnPlanSticksSpec Rows.fnPlanSticksRow = true := by
  show joinedFacts Tryz.prog _ _ _ _ = true
  simp only [joinedFacts, Bool.and_eq_true]
  exact ⟨⟨⟨⟨⟨⟨⟨⟨⟨⟨⟨⟨⟨⟨⟨⟨⟨⟨⟨⟨⟨⟨⟨⟨⟨⟨⟨⟨⟨⟨⟨fact_wf, fact_laidOut⟩, fact_rowed⟩, fact_params⟩, fact_namedTie⟩, fact_stops⟩, fact_pstops⟩, fact_knobs⟩, fact_pknobs⟩, fact_inPlace⟩, fact_unfollowed⟩, fact_recurses⟩, fact_named⟩, fact_maps⟩, fact_ifaces⟩, fact_mapsOut⟩, fact_loops⟩, fact_wideKeys⟩, fact_vars⟩, fact_results⟩, fact_ifacesOut⟩, fact_loopsOut⟩, fact_plainKeys⟩, fact_shortTexts⟩, fact_stopsHeard⟩, fact_mayEnter⟩, fact_lifts⟩, fact_make⟩, fact_kinds⟩, fact_pinned⟩, fact_veiled⟩, fact_veiledFits⟩
end Go.Proofs.YticcnlpfmekagaaGreat.fnPlanSticks
