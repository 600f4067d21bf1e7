/- The closed facts of the row of the law FnStickyLeaves, one a declaration. -/
import Derived.Test.YticcnlpfmekagaaGreatRows
import Derived.JoinedOf
import Derived.JoinedTies
import Derived.KernelRfl
namespace Go.Proofs.YticcnlpfmekagaaGreat.fnStickyLeaves
set_option maxRecDepth 100000
set_option linter.unusedVariables false
set_option linter.unusedSimpArgs false
theorem fact_wf : (Rows.fnStickyLeavesRow.wf (OpenSpec.ofChange Rows.fnStickyLeavesSpec)) = true := by kernel_rfl
theorem fact_laidOut : (laidOutB Tryz.prog) = true := by kernel_rfl
theorem fact_rowed : (mapsRowed Tryz.prog) = true := by kernel_rfl
theorem fact_params : (Tryz.f8.params.all (Tryz.prog.readableRec ·)) = true := by kernel_rfl
theorem fact_namedTie : (namedTie Tryz.prog Rows.fnStickyLeavesRow.named Rows.fnStickyLeavesSpec.vars) = true := by kernel_rfl
theorem fact_stops : (Rows.fnStickyLeavesRow.stops == []) = true := by kernel_rfl
theorem fact_pstops : (Tryz.prog.stops == []) = true := by kernel_rfl
theorem fact_knobs : (Rows.fnStickyLeavesRow.knobs == []) = true := by kernel_rfl
theorem fact_pknobs : (Tryz.prog.stopKnobs == []) = true := by kernel_rfl
theorem fact_inPlace : (Rows.fnStickyLeavesRow.inPlace == Tryz.prog.inPlace 8) = true := by kernel_rfl
theorem fact_unfollowed : (Rows.fnStickyLeavesRow.unfollowed == Tryz.prog.unfollowed 8) = true := by kernel_rfl
theorem fact_recurses : (Rows.fnStickyLeavesRow.recurses == Tryz.prog.recurses 8) = true := by kernel_rfl
theorem fact_named : (Rows.fnStickyLeavesRow.named == Tryz.prog.varsNamed 8) = true := by kernel_rfl
theorem fact_maps : (Rows.fnStickyLeavesRow.maps == (Tryz.f8.params.toList ++ Rows.fnStickyLeavesSpec.plain.varTypes Tryz.prog).any (Tryz.prog.mapsRec ·)) = true := by kernel_rfl
theorem fact_ifaces : (Rows.fnStickyLeavesRow.ifaces == (Tryz.f8.params.toList ++ Rows.fnStickyLeavesSpec.plain.varTypes Tryz.prog).any (Tryz.prog.ifacesRec ·)) = true := by kernel_rfl
theorem fact_mapsOut : (Rows.fnStickyLeavesRow.mapsOut == Tryz.prog.mapsAmong Tryz.f8.resultTypes.toList) = true := by kernel_rfl
theorem fact_loops : (Rows.fnStickyLeavesRow.loops == (Tryz.f8.params.toList ++ Rows.fnStickyLeavesSpec.plain.varTypes Tryz.prog).any (Tryz.prog.loopsFrom ·)) = true := by kernel_rfl
theorem fact_wideKeys : (Rows.fnStickyLeavesRow.wideKeys == (Tryz.f8.params.toList ++ Rows.fnStickyLeavesSpec.plain.varTypes Tryz.prog ++ Tryz.f8.resultTypes.toList).any (Tryz.prog.wideKeysFrom ·)) = true := by kernel_rfl
theorem fact_vars : (Rows.fnStickyLeavesSpec.vars.all (Tryz.prog.varReadable ·)) = true := by kernel_rfl
theorem fact_results : (Tryz.f8.resultTypes.all (fun t => Tryz.prog.readableRec t && decide (t < Tryz.prog.types.size))) = true := by kernel_rfl
theorem fact_ifacesOut : (Rows.fnStickyLeavesRow.ifacesOut == Tryz.f8.resultTypes.toList.any (Tryz.prog.ifacesRec ·)) = true := by kernel_rfl
theorem fact_loopsOut : (Rows.fnStickyLeavesRow.loopsOut == Tryz.f8.resultTypes.toList.any (Tryz.prog.loopsFrom ·)) = true := by kernel_rfl
theorem fact_plainKeys : (Rows.fnStickyLeavesRow.plainKeys == Tryz.prog.plainKeys) = true := by kernel_rfl
theorem fact_shortTexts : (Rows.fnStickyLeavesRow.shortTexts.isNone) = true := by kernel_rfl
theorem fact_stopsHeard : (Tryz.prog.stopsHeard) = true := by kernel_rfl
theorem fact_mayEnter : (Tryz.prog.mayEnter) = true := by kernel_rfl
theorem fact_lifts : (Rows.fnStickyLeavesRow.lifted == Tryz.prog.liftsFinal) = true := by kernel_rfl
theorem fact_make : (Tryz.prog.make == some Rows.fnStickyLeavesRow.make) = true := by kernel_rfl
theorem fact_kinds : (Rows.fnStickyLeavesRow.kinds == (if Rows.fnStickyLeavesRow.domain.isEmpty then [] else Tryz.f8.params.toList.map fun t => match Tryz.prog.underlying t with | some (.int k) => some k | _ => none)) = true := by kernel_rfl
theorem fact_pinned : (Rows.fnStickyLeavesRow.pinned == Rows.fnStickyLeavesRow.pinnedBy) = true := by kernel_rfl
theorem fact_veiled : (Rows.fnStickyLeavesRow.veiled == (Tryz.f8.params.toList ++ Rows.fnStickyLeavesSpec.plain.varTypes Tryz.prog ++ Tryz.f8.resultTypes.toList).any (Tryz.prog.veiledRec ·)) = true := by kernel_rfl
theorem fact_veiledFits : (Rows.fnStickyLeavesRow.veiledFits Tryz.prog Tryz.f8.params.toList (Tryz.f8.params.toList ++ Rows.fnStickyLeavesSpec.plain.varTypes Tryz.prog ++ Tryz.f8.resultTypes.toList)) = true := by kernel_rfl
theorem fact_name : Tryz.pinned.checked.prog.funcNamed Rows.fnStickyLeavesRow.func = some 8 := by kernel_rfl
theorem closed : joinedFacts Tryz.pinned.checked.prog 8 Tryz.f8 Rows.fnStickyLeavesSpec Rows.fnStickyLeavesRow = true := by
  show joinedFacts Tryz.prog _ _ _ _ = true
  simp only [joinedFacts, Bool.and_eq_true]
  exact ⟨⟨⟨⟨⟨⟨⟨⟨⟨⟨⟨⟨⟨⟨⟨⟨⟨⟨⟨⟨⟨⟨⟨⟨⟨⟨⟨⟨⟨⟨⟨fact_wf, fact_laidOut⟩, fact_rowed⟩, fact_params⟩, fact_namedTie⟩, fact_stops⟩, fact_pstops⟩, fact_knobs⟩, fact_pknobs⟩, fact_inPlace⟩, fact_unfollowed⟩, fact_recurses⟩, fact_named⟩, fact_maps⟩, fact_ifaces⟩, fact_mapsOut⟩, fact_loops⟩, fact_wideKeys⟩, fact_vars⟩, fact_results⟩, fact_ifacesOut⟩, fact_loopsOut⟩, fact_plainKeys⟩, fact_shortTexts⟩, fact_stopsHeard⟩, fact_mayEnter⟩, fact_lifts⟩, fact_make⟩, fact_kinds⟩, fact_pinned⟩, fact_veiled⟩, fact_veiledFits⟩
end Go.Proofs.YticcnlpfmekagaaGreat.fnStickyLeaves
