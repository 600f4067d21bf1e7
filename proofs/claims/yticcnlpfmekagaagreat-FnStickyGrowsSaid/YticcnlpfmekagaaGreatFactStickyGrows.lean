/- The closed facts of the row of the law FnStickyGrows, one a declaration. -/
import Derived.Test.YticcnlpfmekagaaGreatRows
import Derived.JoinedOf
import Derived.JoinedTies
import Derived.KernelRfl
namespace Go.Proofs.YticcnlpfmekagaaGreat.fnStickyGrows
set_option maxRecDepth 100000
set_option linter.unusedVariables false
set_option linter.unusedSimpArgs false
theorem fact_wf : (Rows.fnStickyGrowsRow.wf (OpenSpec.ofChange Rows.fnStickyGrowsSpec)) = true := by kernel_rfl
theorem fact_laidOut : (laidOutB Tryz.prog) = true := by kernel_rfl
theorem fact_rowed : (mapsRowed Tryz.prog) = true := by kernel_rfl
theorem fact_params : (Tryz.f6.params.all (Tryz.prog.readableRec ·)) = true := by kernel_rfl
theorem fact_namedTie : (namedTie Tryz.prog Rows.fnStickyGrowsRow.named Rows.fnStickyGrowsSpec.vars) = true := by kernel_rfl
theorem fact_stops : (Rows.fnStickyGrowsRow.stops == []) = true := by kernel_rfl
theorem fact_pstops : (Tryz.prog.stops == []) = true := by kernel_rfl
theorem fact_knobs : (Rows.fnStickyGrowsRow.knobs == []) = true := by kernel_rfl
theorem fact_pknobs : (Tryz.prog.stopKnobs == []) = true := by kernel_rfl
theorem fact_inPlace : (Rows.fnStickyGrowsRow.inPlace == Tryz.prog.inPlace 6) = true := by kernel_rfl
theorem fact_unfollowed : (Rows.fnStickyGrowsRow.unfollowed == Tryz.prog.unfollowed 6) = true := by kernel_rfl
theorem fact_recurses : (Rows.fnStickyGrowsRow.recurses == Tryz.prog.recurses 6) = true := by kernel_rfl
theorem fact_named : (Rows.fnStickyGrowsRow.named == Tryz.prog.varsNamed 6) = true := by kernel_rfl
theorem fact_maps : (Rows.fnStickyGrowsRow.maps == (Tryz.f6.params.toList ++ Rows.fnStickyGrowsSpec.plain.varTypes Tryz.prog).any (Tryz.prog.mapsRec ·)) = true := by kernel_rfl
theorem fact_ifaces : (Rows.fnStickyGrowsRow.ifaces == (Tryz.f6.params.toList ++ Rows.fnStickyGrowsSpec.plain.varTypes Tryz.prog).any (Tryz.prog.ifacesRec ·)) = true := by kernel_rfl
theorem fact_mapsOut : (Rows.fnStickyGrowsRow.mapsOut == Tryz.prog.mapsAmong Tryz.f6.resultTypes.toList) = true := by kernel_rfl
theorem fact_loops : (Rows.fnStickyGrowsRow.loops == (Tryz.f6.params.toList ++ Rows.fnStickyGrowsSpec.plain.varTypes Tryz.prog).any (Tryz.prog.loopsFrom ·)) = true := by kernel_rfl
theorem fact_wideKeys : (Rows.fnStickyGrowsRow.wideKeys == (Tryz.f6.params.toList ++ Rows.fnStickyGrowsSpec.plain.varTypes Tryz.prog ++ Tryz.f6.resultTypes.toList).any (Tryz.prog.wideKeysFrom ·)) = true := by kernel_rfl
theorem fact_vars : (Rows.fnStickyGrowsSpec.vars.all (Tryz.prog.varReadable ·)) = true := by kernel_rfl
theorem fact_results : (Tryz.f6.resultTypes.all (fun t => Tryz.prog.readableRec t && decide (t < Tryz.prog.types.size))) = true := by kernel_rfl
theorem fact_ifacesOut : (Rows.fnStickyGrowsRow.ifacesOut == Tryz.f6.resultTypes.toList.any (Tryz.prog.ifacesRec ·)) = true := by kernel_rfl
theorem fact_loopsOut : (Rows.fnStickyGrowsRow.loopsOut == Tryz.f6.resultTypes.toList.any (Tryz.prog.loopsFrom ·)) = true := by kernel_rfl
theorem fact_plainKeys : (Rows.fnStickyGrowsRow.plainKeys == Tryz.prog.plainKeys) = true := by kernel_rfl
theorem fact_shortTexts : (Rows.fnStickyGrowsRow.shortTexts.isNone) = true := by kernel_rfl
theorem fact_stopsHeard : (Tryz.prog.stopsHeard) = true := by kernel_rfl
theorem fact_mayEnter : (Tryz.prog.mayEnter) = true := by kernel_rfl
theorem fact_lifts : (Rows.fnStickyGrowsRow.lifted == Tryz.prog.liftsFinal) = true := by kernel_rfl
theorem fact_make : (Tryz.prog.make == some Rows.fnStickyGrowsRow.make) = true := by kernel_rfl
theorem fact_kinds : (Rows.fnStickyGrowsRow.kinds == (if Rows.fnStickyGrowsRow.domain.isEmpty then [] else Tryz.f6.params.toList.map fun t => match Tryz.prog.underlying t with | some (.int k) => some k | _ => none)) = true := by kernel_rfl
theorem fact_pinned : (Rows.fnStickyGrowsRow.pinned == Rows.fnStickyGrowsRow.pinnedBy) = true := by kernel_rfl
theorem fact_veiled : (Rows.fnStickyGrowsRow.veiled == (Tryz.f6.params.toList ++ Rows.fnStickyGrowsSpec.plain.varTypes Tryz.prog ++ Tryz.f6.resultTypes.toList).any (Tryz.prog.veiledRec ·)) = true := by kernel_rfl
theorem fact_veiledFits : (Rows.fnStickyGrowsRow.veiledFits Tryz.prog Tryz.f6.params.toList (Tryz.f6.params.toList ++ Rows.fnStickyGrowsSpec.plain.varTypes Tryz.prog ++ Tryz.f6.resultTypes.toList)) = true := by kernel_rfl
theorem fact_name : Tryz.pinned.checked.prog.funcNamed Rows.fnStickyGrowsRow.func = some 6 := by kernel_rfl
theorem closed : joinedFacts Tryz.pinned.checked.prog 6 Tryz.f6 Rows.fnStickyGrowsSpec Rows.fnStickyGrowsRow = true := by
  show joinedFacts Tryz.prog _ _ _ _ = true
  simp only [joinedFacts, Bool.and_eq_true]
  exact ⟨⟨⟨⟨⟨⟨⟨⟨⟨⟨⟨⟨⟨⟨⟨⟨⟨⟨⟨⟨⟨⟨⟨⟨⟨⟨⟨⟨⟨⟨⟨fact_wf, fact_laidOut⟩, fact_rowed⟩, fact_params⟩, fact_namedTie⟩, fact_stops⟩, fact_pstops⟩, fact_knobs⟩, fact_pknobs⟩, fact_inPlace⟩, fact_unfollowed⟩, fact_recurses⟩, fact_named⟩, fact_maps⟩, fact_ifaces⟩, fact_mapsOut⟩, fact_loops⟩, fact_wideKeys⟩, fact_vars⟩, fact_results⟩, fact_ifacesOut⟩, fact_loopsOut⟩, fact_plainKeys⟩, fact_shortTexts⟩, fact_stopsHeard⟩, fact_mayEnter⟩, fact_lifts⟩, fact_make⟩, fact_kinds⟩, fact_pinned⟩, fact_veiled⟩, fact_veiledFits⟩
end Go.Proofs.YticcnlpfmekagaaGreat.fnStickyGrows
