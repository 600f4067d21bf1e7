/- The closed facts of the row of the law FnMemberBytes, one a declaration. -/
import Derived.Test.YticcnlpfmekagaaGreatRows
import Derived.JoinedOf
import Derived.JoinedTies
import Derived.KernelRfl
namespace Go.Proofs.YticcnlpfmekagaaGreat.fnMemberBytes
set_option maxRecDepth 100000
set_option linter.unusedVariables false
set_option linter.unusedSimpArgs false
theorem fact_wf : (Rows.fnMemberBytesRow.wf (OpenSpec.ofChange Rows.fnMemberBytesSpec)) = true := by kernel_rfl
theorem fact_laidOut : (laidOutB Tryz.prog) = true := by kernel_rfl
theorem fact_rowed : (mapsRowed Tryz.prog) = true := by kernel_rfl
theorem fact_params : (Tryz.f10.params.all (Tryz.prog.readableRec ·)) = true := by kernel_rfl
theorem fact_namedTie : (namedTie Tryz.prog Rows.fnMemberBytesRow.named Rows.fnMemberBytesSpec.vars) = true := by kernel_rfl
theorem fact_stops : (Rows.fnMemberBytesRow.stops == []) = true := by kernel_rfl
theorem fact_pstops : (Tryz.prog.stops == []) = true := by kernel_rfl
theorem fact_knobs : (Rows.fnMemberBytesRow.knobs == []) = true := by kernel_rfl
theorem fact_pknobs : (Tryz.prog.stopKnobs == []) = true := by kernel_rfl
theorem fact_inPlace : (Rows.fnMemberBytesRow.inPlace == Tryz.prog.inPlace 10) = true := by kernel_rfl
theorem fact_unfollowed : (Rows.fnMemberBytesRow.unfollowed == Tryz.prog.unfollowed 10) = true := by kernel_rfl
theorem fact_recurses : (Rows.fnMemberBytesRow.recurses == Tryz.prog.recurses 10) = true := by kernel_rfl
theorem fact_named : (Rows.fnMemberBytesRow.named == Tryz.prog.varsNamed 10) = true := by kernel_rfl
theorem fact_maps : (Rows.fnMemberBytesRow.maps == (Tryz.f10.params.toList ++ Rows.fnMemberBytesSpec.plain.varTypes Tryz.prog).any (Tryz.prog.mapsRec ·)) = true := by kernel_rfl
theorem fact_ifaces : (Rows.fnMemberBytesRow.ifaces == (Tryz.f10.params.toList ++ Rows.fnMemberBytesSpec.plain.varTypes Tryz.prog).any (Tryz.prog.ifacesRec ·)) = true := by kernel_rfl
theorem fact_mapsOut : (Rows.fnMemberBytesRow.mapsOut == Tryz.prog.mapsAmong Tryz.f10.resultTypes.toList) = true := by kernel_rfl
theorem fact_loops : (Rows.fnMemberBytesRow.loops == (Tryz.f10.params.toList ++ Rows.fnMemberBytesSpec.plain.varTypes Tryz.prog).any (Tryz.prog.loopsFrom ·)) = true := by kernel_rfl
theorem fact_wideKeys : (Rows.fnMemberBytesRow.wideKeys == (Tryz.f10.params.toList ++ Rows.fnMemberBytesSpec.plain.varTypes Tryz.prog ++ Tryz.f10.resultTypes.toList).any (Tryz.prog.wideKeysFrom ·)) = true := by kernel_rfl
theorem fact_vars : (Rows.fnMemberBytesSpec.vars.all (Tryz.prog.varReadable ·)) = true := by kernel_rfl
theorem fact_results : (Tryz.f10.resultTypes.all (fun t => Tryz.prog.readableRec t && decide (t < Tryz.prog.types.size))) = true := by kernel_rfl
theorem fact_ifacesOut : (Rows.fnMemberBytesRow.ifacesOut == Tryz.f10.resultTypes.toList.any (Tryz.prog.ifacesRec ·)) = true := by kernel_rfl
theorem fact_loopsOut : (Rows.fnMemberBytesRow.loopsOut == Tryz.f10.resultTypes.toList.any (Tryz.prog.loopsFrom ·)) = true := by kernel_rfl
theorem fact_plainKeys : (Rows.fnMemberBytesRow.plainKeys == Tryz.prog.plainKeys) = true := by kernel_rfl
theorem fact_shortTexts : (Rows.fnMemberBytesRow.shortTexts.isNone) = true := by kernel_rfl
theorem fact_stopsHeard : (Tryz.prog.stopsHeard) = true := by kernel_rfl
theorem fact_mayEnter : (Tryz.prog.mayEnter) = true := by kernel_rfl
theorem fact_lifts : (Rows.fnMemberBytesRow.lifted == Tryz.prog.liftsFinal) = true := by kernel_rfl
theorem fact_make : (Tryz.prog.make == some Rows.fnMemberBytesRow.make) = true := by kernel_rfl
theorem fact_kinds : (Rows.fnMemberBytesRow.kinds == (if Rows.fnMemberBytesRow.domain.isEmpty then [] else Tryz.f10.params.toList.map fun t => match Tryz.prog.underlying t with | some (.int k) => some k | _ => none)) = true := by kernel_rfl
theorem fact_pinned : (Rows.fnMemberBytesRow.pinned == Rows.fnMemberBytesRow.pinnedBy) = true := by kernel_rfl
theorem fact_veiled : (Rows.fnMemberBytesRow.veiled == (Tryz.f10.params.toList ++ Rows.fnMemberBytesSpec.plain.varTypes Tryz.prog ++ Tryz.f10.resultTypes.toList).any (Tryz.prog.veiledRec ·)) = true := by kernel_rfl
theorem fact_veiledFits : (Rows.fnMemberBytesRow.veiledFits Tryz.prog Tryz.f10.params.toList (Tryz.f10.params.toList ++ Rows.fnMemberBytesSpec.plain.varTypes Tryz.prog ++ Tryz.f10.resultTypes.toList)) = true := by kernel_rfl
theorem fact_name : Tryz.pinned.checked.prog.funcNamed Rows.fnMemberBytesRow.func = some 10 := by kernel_rfl
theorem closed : joinedFacts Tryz.pinned.checked.prog 10 Tryz.f10 Rows.fnMemberBytesSpec Rows.fnMemberBytesRow = true := by
  show joinedFacts Tryz.prog _ _ _ _ = true
  simp only [joinedFacts, Bool.and_eq_true]
  exact ⟨⟨⟨⟨⟨⟨⟨⟨⟨⟨⟨⟨⟨⟨⟨⟨⟨⟨⟨⟨⟨⟨⟨⟨⟨⟨⟨⟨⟨⟨⟨fact_wf, fact_laidOut⟩, fact_rowed⟩, fact_params⟩, fact_namedTie⟩, fact_stops⟩, fact_pstops⟩, fact_knobs⟩, fact_pknobs⟩, fact_inPlace⟩, fact_unfollowed⟩, fact_recurses⟩, fact_named⟩, fact_maps⟩, fact_ifaces⟩, fact_mapsOut⟩, fact_loops⟩, fact_wideKeys⟩, fact_vars⟩, fact_results⟩, fact_ifacesOut⟩, fact_loopsOut⟩, fact_plainKeys⟩, fact_shortTexts⟩, fact_stopsHeard⟩, fact_mayEnter⟩, fact_lifts⟩, fact_make⟩, fact_kinds⟩, fact_pinned⟩, fact_veiled⟩, fact_veiledFits⟩
end Go.Proofs.YticcnlpfmekagaaGreat.fnMemberBytes
