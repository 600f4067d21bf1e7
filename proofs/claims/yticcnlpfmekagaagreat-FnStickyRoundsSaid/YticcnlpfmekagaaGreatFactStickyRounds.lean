/- The closed facts of the row of the law FnStickyRounds, one a declaration. -/
import Derived.Test.YticcnlpfmekagaaGreatRows
import Derived.JoinedOf
import Derived.JoinedTies
import Derived.KernelRfl
namespace Go.Proofs.YticcnlpfmekagaaGreat.fnStickyRounds
set_option maxRecDepth 100000
set_option linter.unusedVariables false
set_option linter.unusedSimpArgs false
theorem fact_wf : (Rows.fnStickyRoundsRow.wf (OpenSpec.ofChange Rows.fnStickyRoundsSpec)) = true := by kernel_rfl
theorem fact_laidOut : (laidOutB Tryz.prog) = true := by kernel_rfl
theorem fact_rowed : (mapsRowed Tryz.prog) = true := by kernel_rfl
theorem fact_params : (Tryz.f9.params.all (Tryz.prog.readableRec ·)) = true := by kernel_rfl
theorem fact_namedTie : (namedTie Tryz.prog Rows.fnStickyRoundsRow.named Rows.fnStickyRoundsSpec.vars) = true := by kernel_rfl
theorem fact_stops : (Rows.fnStickyRoundsRow.stops == []) = true := by kernel_rfl
theorem fact_pstops : (Tryz.prog.stops == []) = true := by kernel_rfl
theorem fact_knobs : (Rows.fnStickyRoundsRow.knobs == []) = true := by kernel_rfl
theorem fact_pknobs : (Tryz.prog.stopKnobs == []) = true := by kernel_rfl
theorem fact_inPlace : (Rows.fnStickyRoundsRow.inPlace == Tryz.prog.inPlace 9) = true := by kernel_rfl
theorem fact_unfollowed : (Rows.fnStickyRoundsRow.unfollowed == Tryz.prog.unfollowed 9) = true := by kernel_rfl
theorem fact_recurses : (Rows.fnStickyRoundsRow.recurses == Tryz.prog.recurses 9) = true := by kernel_rfl
theorem fact_named : (Rows.fnStickyRoundsRow.named == Tryz.prog.varsNamed 9) = true := by kernel_rfl
theorem fact_maps : (Rows.fnStickyRoundsRow.maps == (Tryz.f9.params.toList ++ Rows.fnStickyRoundsSpec.plain.varTypes Tryz.prog).any (Tryz.prog.mapsRec ·)) = true := by kernel_rfl
theorem fact_ifaces : (Rows.fnStickyRoundsRow.ifaces == (Tryz.f9.params.toList ++ Rows.fnStickyRoundsSpec.plain.varTypes Tryz.prog).any (Tryz.prog.ifacesRec ·)) = true := by kernel_rfl
theorem fact_mapsOut : (Rows.fnStickyRoundsRow.mapsOut == Tryz.prog.mapsAmong Tryz.f9.resultTypes.toList) = true := by kernel_rfl
theorem fact_loops : (Rows.fnStickyRoundsRow.loops == (Tryz.f9.params.toList ++ Rows.fnStickyRoundsSpec.plain.varTypes Tryz.prog).any (Tryz.prog.loopsFrom ·)) = true := by kernel_rfl
theorem fact_wideKeys : (Rows.fnStickyRoundsRow.wideKeys == (Tryz.f9.params.toList ++ Rows.fnStickyRoundsSpec.plain.varTypes Tryz.prog ++ Tryz.f9.resultTypes.toList).any (Tryz.prog.wideKeysFrom ·)) = true := by kernel_rfl
theorem fact_vars : (Rows.fnStickyRoundsSpec.vars.all (Tryz.prog.varReadable ·)) = true := by kernel_rfl
theorem fact_results : (Tryz.f9.resultTypes.all (fun t => Tryz.prog.readableRec t && decide (t < Tryz.prog.types.size))) = true := by kernel_rfl
theorem fact_ifacesOut : (Rows.fnStickyRoundsRow.ifacesOut == Tryz.f9.resultTypes.toList.any (Tryz.prog.ifacesRec ·)) = true := by kernel_rfl
theorem fact_loopsOut : (Rows.fnStickyRoundsRow.loopsOut == Tryz.f9.resultTypes.toList.any (Tryz.prog.loopsFrom ·)) = true := by kernel_rfl
theorem fact_plainKeys : (Rows.fnStickyRoundsRow.plainKeys == Tryz.prog.plainKeys) = true := by kernel_rfl
theorem fact_shortTexts : (Rows.fnStickyRoundsRow.shortTexts.isNone) = true := by kernel_rfl
theorem fact_stopsHeard : (Tryz.prog.stopsHeard) = true := by kernel_rfl
theorem fact_mayEnter : (Tryz.prog.mayEnter) = true := by kernel_rfl
theorem fact_lifts : (Rows.fnStickyRoundsRow.lifted == Tryz.prog.liftsFinal) = true := by kernel_rfl
theorem fact_make : (Tryz.prog.make == some Rows.fnStickyRoundsRow.make) = true := by kernel_rfl
theorem fact_kinds : (Rows.fnStickyRoundsRow.kinds == (if Rows.fnStickyRoundsRow.domain.isEmpty then [] else Tryz.f9.params.toList.map fun t => match Tryz.prog.underlying t with | some (.int k) => some k | _ => none)) = true := by kernel_rfl
theorem fact_pinned : (Rows.fnStickyRoundsRow.pinned == Rows.fnStickyRoundsRow.pinnedBy) = true := by kernel_rfl
theorem fact_veiled : (Rows.fnStickyRoundsRow.veiled == (Tryz.f9.params.toList ++ Rows.fnStickyRoundsSpec.plain.varTypes Tryz.prog ++ Tryz.f9.resultTypes.toList).any (Tryz.prog.veiledRec ·)) = true := by kernel_rfl
theorem fact_veiledFits : (Rows.fnStickyRoundsRow.veiledFits Tryz.prog Tryz.f9.params.toList (Tryz.f9.params.toList ++ Rows.fnStickyRoundsSpec.plain.varTypes Tryz.prog ++ Tryz.f9.resultTypes.toList)) = true := by kernel_rfl
theorem fact_name : Tryz.pinned.checked.prog.funcNamed Rows.fnStickyRoundsRow.func = some 9 := by kernel_rfl
theorem closed : joinedFacts Tryz.pinned.checked.prog 9 Tryz.f9 Rows.fnStickyRoundsSpec Rows.fnStickyRoundsRow = true := by
  show joinedFacts Tryz.prog _ _ _ _ = true
  simp only [joinedFacts, Bool.and_eq_true]
  exact ⟨⟨⟨⟨⟨⟨⟨⟨⟨⟨⟨⟨⟨⟨⟨⟨⟨⟨⟨⟨⟨⟨⟨⟨⟨⟨⟨⟨⟨⟨⟨fact_wf, fact_laidOut⟩, fact_rowed⟩, fact_params⟩, fact_namedTie⟩, fact_stops⟩, fact_pstops⟩, fact_knobs⟩, fact_pknobs⟩, fact_inPlace⟩, fact_unfollowed⟩, fact_recurses⟩, fact_named⟩, fact_maps⟩, fact_ifaces⟩, fact_mapsOut⟩, fact_loops⟩, fact_wideKeys⟩, fact_vars⟩, fact_results⟩, fact_ifacesOut⟩, fact_loopsOut⟩, fact_plainKeys⟩, fact_shortTexts⟩, fact_stopsHeard⟩, fact_mayEnter⟩, fact_lifts⟩, fact_make⟩, fact_kinds⟩, fact_pinned⟩, fact_veiled⟩, fact_veiledFits⟩
end Go.Proofs.YticcnlpfmekagaaGreat.fnStickyRounds
