/- The closed facts of the row of the law FnStickyJoins, one a declaration. -/
import Derived.Test.YticcnlpfmekagaaGreatRows
import Derived.JoinedOf
import Derived.JoinedTies
import Derived.KernelRfl
namespace Go.Proofs.YticcnlpfmekagaaGreat.fnStickyJoins
set_option maxRecDepth 100000
set_option linter.unusedVariables false
set_option linter.unusedSimpArgs false
theorem fact_wf : (Rows.fnStickyJoinsRow.wf (OpenSpec.ofChange Rows.fnStickyJoinsSpec)) = true := by kernel_rfl
theorem fact_laidOut : (laidOutB Tryz.prog) = true := by kernel_rfl
theorem fact_rowed : (mapsRowed Tryz.prog) = true := by kernel_rfl
theorem fact_params : (Tryz.f7.params.all (Tryz.prog.readableRec ·)) = true := by kernel_rfl
theorem fact_namedTie : (namedTie Tryz.prog Rows.fnStickyJoinsRow.named Rows.fnStickyJoinsSpec.vars) = true := by kernel_rfl
theorem fact_stops : (Rows.fnStickyJoinsRow.stops == []) = true := by kernel_rfl
theorem fact_pstops : (Tryz.prog.stops == []) = true := by kernel_rfl
theorem fact_knobs : (Rows.fnStickyJoinsRow.knobs == []) = true := by kernel_rfl
theorem fact_pknobs : (Tryz.prog.stopKnobs == []) = true := by kernel_rfl
theorem fact_inPlace : (Rows.fnStickyJoinsRow.inPlace == Tryz.prog.inPlace 7) = true := by kernel_rfl
theorem fact_unfollowed : (Rows.fnStickyJoinsRow.unfollowed == Tryz.prog.unfollowed 7) = true := by kernel_rfl
theorem fact_recurses : (Rows.fnStickyJoinsRow.recurses == Tryz.prog.recurses 7) = true := by kernel_rfl
theorem fact_named : (Rows.fnStickyJoinsRow.named == Tryz.prog.varsNamed 7) = true := by kernel_rfl
theorem fact_maps : (Rows.fnStickyJoinsRow.maps == (Tryz.f7.params.toList ++ Rows.fnStickyJoinsSpec.plain.varTypes Tryz.prog).any (Tryz.prog.mapsRec ·)) = true := by kernel_rfl
theorem fact_ifaces : (Rows.fnStickyJoinsRow.ifaces == (Tryz.f7.params.toList ++ Rows.fnStickyJoinsSpec.plain.varTypes Tryz.prog).any (Tryz.prog.ifacesRec ·)) = true := by kernel_rfl
theorem fact_mapsOut : (Rows.fnStickyJoinsRow.mapsOut == Tryz.prog.mapsAmong Tryz.f7.resultTypes.toList) = true := by kernel_rfl
theorem fact_loops : (Rows.fnStickyJoinsRow.loops == (Tryz.f7.params.toList ++ Rows.fnStickyJoinsSpec.plain.varTypes Tryz.prog).any (Tryz.prog.loopsFrom ·)) = true := by kernel_rfl
theorem fact_wideKeys : (Rows.fnStickyJoinsRow.wideKeys == (Tryz.f7.params.toList ++ Rows.fnStickyJoinsSpec.plain.varTypes Tryz.prog ++ Tryz.f7.resultTypes.toList).any (Tryz.prog.wideKeysFrom ·)) = true := by kernel_rfl
theorem fact_vars : (Rows.fnStickyJoinsSpec.vars.all (Tryz.prog.varReadable ·)) = true := by kernel_rfl
theorem fact_results : (Tryz.f7.resultTypes.all (fun t => Tryz.prog.readableRec t && decide (t < Tryz.prog.types.size))) = true := by kernel_rfl
theorem fact_ifacesOut : (Rows.fnStickyJoinsRow.ifacesOut == Tryz.f7.resultTypes.toList.any (Tryz.prog.ifacesRec ·)) = true := by kernel_rfl
theorem fact_loopsOut : (Rows.fnStickyJoinsRow.loopsOut == Tryz.f7.resultTypes.toList.any (Tryz.prog.loopsFrom ·)) = true := by kernel_rfl
theorem fact_plainKeys : (Rows.fnStickyJoinsRow.plainKeys == Tryz.prog.plainKeys) = true := by kernel_rfl
theorem fact_shortTexts : (Rows.fnStickyJoinsRow.shortTexts.isNone) = true := by kernel_rfl
theorem fact_stopsHeard : (Tryz.prog.stopsHeard) = true := by kernel_rfl
theorem fact_mayEnter : (Tryz.prog.mayEnter) = true := by kernel_rfl
theorem fact_lifts : (Rows.fnStickyJoinsRow.lifted == Tryz.prog.liftsFinal) = true := by kernel_rfl
theorem fact_make : (Tryz.prog.make == some Rows.fnStickyJoinsRow.make) = true := by kernel_rfl
theorem fact_kinds : (Rows.fnStickyJoinsRow.kinds == (if Rows.fnStickyJoinsRow.domain.isEmpty then [] else Tryz.f7.params.toList.map fun t => match Tryz.prog.underlying t with | some (.int k) => some k | _ => none)) = true := by kernel_rfl
theorem fact_pinned : (Rows.fnStickyJoinsRow.pinned == Rows.fnStickyJoinsRow.pinnedBy) = true := by kernel_rfl
theorem fact_veiled : (Rows.fnStickyJoinsRow.veiled == (Tryz.f7.params.toList ++ Rows.fnStickyJoinsSpec.plain.varTypes Tryz.prog ++ Tryz.f7.resultTypes.toList).any (Tryz.prog.veiledRec ·)) = true := by kernel_rfl
theorem fact_veiledFits : (Rows.fnStickyJoinsRow.veiledFits Tryz.prog Tryz.f7.params.toList (Tryz.f7.params.toList ++ Rows.fnStickyJoinsSpec.plain.varTypes Tryz.prog ++ Tryz.f7.resultTypes.toList)) = true := by kernel_rfl
theorem fact_name : Tryz.pinned.checked.prog.funcNamed Rows.fnStickyJoinsRow.func = some 7 := by kernel_rfl
theorem closed : joinedFacts Tryz.pinned.checked.prog 7 Tryz.f7 Rows.fnStickyJoinsSpec Rows.fnStickyJoinsRow = true := by
  show joinedFacts Tryz.prog _ _ _ _ = true
  simp only [joinedFacts, Bool.and_eq_true]
  exact ⟨⟨⟨⟨⟨⟨⟨⟨⟨⟨⟨⟨⟨⟨⟨⟨⟨⟨⟨⟨⟨⟨⟨⟨⟨⟨⟨⟨⟨⟨⟨fact_wf, fact_laidOut⟩, fact_rowed⟩, fact_params⟩, fact_namedTie⟩, fact_stops⟩, fact_pstops⟩, fact_knobs⟩, fact_pknobs⟩, fact_inPlace⟩, fact_unfollowed⟩, fact_recurses⟩, fact_named⟩, fact_maps⟩, fact_ifaces⟩, fact_mapsOut⟩, fact_loops⟩, fact_wideKeys⟩, fact_vars⟩, fact_results⟩, fact_ifacesOut⟩, fact_loopsOut⟩, fact_plainKeys⟩, fact_shortTexts⟩, fact_stopsHeard⟩, fact_mayEnter⟩, fact_lifts⟩, fact_make⟩, fact_kinds⟩, fact_pinned⟩, fact_veiled⟩, fact_veiledFits⟩
end Go.Proofs.YticcnlpfmekagaaGreat.fnStickyJoins
