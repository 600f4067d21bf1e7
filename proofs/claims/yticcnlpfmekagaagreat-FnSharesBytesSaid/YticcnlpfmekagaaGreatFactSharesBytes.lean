/- The closed facts of the row of the law FnSharesBytes, one a declaration. -/
import Derived.Test.YticcnlpfmekagaaGreatRows
import Derived.JoinedOf
import Derived.JoinedTies
import Derived.KernelRfl
namespace Go.Proofs.YticcnlpfmekagaaGreat.fnSharesBytes
set_option maxRecDepth 100000
set_option linter.unusedVariables false
set_option linter.unusedSimpArgs false
theorem fact_wf : (Rows.fnSharesBytesRow.wf (OpenSpec.ofChange Rows.fnSharesBytesSpec)) = true := by kernel_rfl
theorem fact_laidOut : (laidOutB Tryz.prog) = true := by kernel_rfl
theorem fact_rowed : (mapsRowed Tryz.prog) = true := by kernel_rfl
theorem fact_params : (Tryz.f11.params.all (Tryz.prog.readableRec ·)) = true := by kernel_rfl
theorem fact_namedTie : (namedTie Tryz.prog Rows.fnSharesBytesRow.named Rows.fnSharesBytesSpec.vars) = true := by kernel_rfl
theorem fact_stops : (Rows.fnSharesBytesRow.stops == []) = true := by kernel_rfl
theorem fact_pstops : (Tryz.prog.stops == []) = true := by kernel_rfl
theorem fact_knobs : (Rows.fnSharesBytesRow.knobs == []) = true := by kernel_rfl
theorem fact_pknobs : (Tryz.prog.stopKnobs == []) = true := by kernel_rfl
theorem fact_inPlace : (Rows.fnSharesBytesRow.inPlace == Tryz.prog.inPlace 11) = true := by kernel_rfl
theorem fact_unfollowed : (Rows.fnSharesBytesRow.unfollowed == Tryz.prog.unfollowed 11) = true := by kernel_rfl
theorem fact_recurses : (Rows.fnSharesBytesRow.recurses == Tryz.prog.recurses 11) = true := by kernel_rfl
theorem fact_named : (Rows.fnSharesBytesRow.named == Tryz.prog.varsNamed 11) = true := by kernel_rfl
theorem fact_maps : (Rows.fnSharesBytesRow.maps == (Tryz.f11.params.toList ++ Rows.fnSharesBytesSpec.plain.varTypes Tryz.prog).any (Tryz.prog.mapsRec ·)) = true := by kernel_rfl
theorem fact_ifaces : (Rows.fnSharesBytesRow.ifaces == (Tryz.f11.params.toList ++ Rows.fnSharesBytesSpec.plain.varTypes Tryz.prog).any (Tryz.prog.ifacesRec ·)) = true := by kernel_rfl
theorem fact_mapsOut : (Rows.fnSharesBytesRow.mapsOut == Tryz.prog.mapsAmong Tryz.f11.resultTypes.toList) = true := by kernel_rfl
theorem fact_loops : (Rows.fnSharesBytesRow.loops == (Tryz.f11.params.toList ++ Rows.fnSharesBytesSpec.plain.varTypes Tryz.prog).any (Tryz.prog.loopsFrom ·)) = true := by kernel_rfl
theorem fact_wideKeys : (Rows.fnSharesBytesRow.wideKeys == (Tryz.f11.params.toList ++ Rows.fnSharesBytesSpec.plain.varTypes Tryz.prog ++ Tryz.f11.resultTypes.toList).any (Tryz.prog.wideKeysFrom ·)) = true := by kernel_rfl
theorem fact_vars : (Rows.fnSharesBytesSpec.vars.all (Tryz.prog.varReadable ·)) = true := by kernel_rfl
theorem fact_results : (Tryz.f11.resultTypes.all (fun t => Tryz.prog.readableRec t && decide (t < Tryz.prog.types.size))) = true := by kernel_rfl
theorem fact_ifacesOut : (Rows.fnSharesBytesRow.ifacesOut == Tryz.f11.resultTypes.toList.any (Tryz.prog.ifacesRec ·)) = true := by kernel_rfl
theorem fact_loopsOut : (Rows.fnSharesBytesRow.loopsOut == Tryz.f11.resultTypes.toList.any (Tryz.prog.loopsFrom ·)) = true := by kernel_rfl
theorem fact_plainKeys : (Rows.fnSharesBytesRow.plainKeys == Tryz.prog.plainKeys) = true := by kernel_rfl
theorem fact_shortTexts : (Rows.fnSharesBytesRow.shortTexts.isNone) = true := by kernel_rfl
theorem fact_stopsHeard : (Tryz.prog.stopsHeard) = true := by kernel_rfl
theorem fact_mayEnter : (Tryz.prog.mayEnter) = true := by kernel_rfl
theorem fact_lifts : (Rows.fnSharesBytesRow.lifted == Tryz.prog.liftsFinal) = true := by kernel_rfl
theorem fact_make : (Tryz.prog.make == some Rows.fnSharesBytesRow.make) = true := by kernel_rfl
theorem fact_kinds : (Rows.fnSharesBytesRow.kinds == (if Rows.fnSharesBytesRow.domain.isEmpty then [] else Tryz.f11.params.toList.map fun t => match Tryz.prog.underlying t with | some (.int k) => some k | _ => none)) = true := by kernel_rfl
theorem fact_pinned : (Rows.fnSharesBytesRow.pinned == Rows.fnSharesBytesRow.pinnedBy) = true := by kernel_rfl
theorem fact_veiled : (Rows.fnSharesBytesRow.veiled == (Tryz.f11.params.toList ++ Rows.fnSharesBytesSpec.plain.varTypes Tryz.prog ++ Tryz.f11.resultTypes.toList).any (Tryz.prog.veiledRec ·)) = true := by kernel_rfl
theorem fact_veiledFits : (Rows.fnSharesBytesRow.veiledFits Tryz.prog Tryz.f11.params.toList (Tryz.f11.params.toList ++ Rows.fnSharesBytesSpec.plain.varTypes Tryz.prog ++ Tryz.f11.resultTypes.toList)) = true := by kernel_rfl
theorem fact_name : Tryz.pinned.checked.prog.funcNamed Rows.fnSharesBytesRow.func = some 11 := by kernel_rfl
theorem closed : joinedFacts Tryz.pinned.checked.prog 11 Tryz.f11 Rows.fnSharesBytesSpec Rows.fnSharesBytesRow = true := by
  show joinedFacts Tryz.prog _ _ _ _ = true
  simp only [joinedFacts, Bool.and_eq_true]
  exact ⟨⟨⟨⟨⟨⟨⟨⟨⟨⟨⟨⟨⟨⟨⟨⟨⟨⟨⟨⟨⟨⟨⟨⟨⟨⟨⟨⟨⟨⟨⟨fact_wf, fact_laidOut⟩, fact_rowed⟩, fact_params⟩, fact_namedTie⟩, fact_stops⟩, fact_pstops⟩, fact_knobs⟩, fact_pknobs⟩, fact_inPlace⟩, fact_unfollowed⟩, fact_recurses⟩, fact_named⟩, fact_maps⟩, fact_ifaces⟩, fact_mapsOut⟩, fact_loops⟩, fact_wideKeys⟩, fact_vars⟩, fact_results⟩, fact_ifacesOut⟩, fact_loopsOut⟩, fact_plainKeys⟩, fact_shortTexts⟩, fact_stopsHeard⟩, fact_mayEnter⟩, fact_lifts⟩, fact_make⟩, fact_kinds⟩, fact_pinned⟩, fact_veiled⟩, fact_veiledFits⟩
end Go.Proofs.YticcnlpfmekagaaGreat.fnSharesBytes
