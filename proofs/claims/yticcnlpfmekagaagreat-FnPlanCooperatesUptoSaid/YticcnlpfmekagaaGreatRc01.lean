/- Part 1 of the proof of the row: FactPlanCooperates. -/
import Derived.Test.YticcnlpfmekagaaGreatRc00
import Derived.Test.YticcnlpfmekagaaGreatRows
import Derived.JoinedOf
import Derived.JoinedTies
import Derived.KernelRfl
set_option linter.unusedVariables false
set_option linter.unusedSimpArgs false
set_option maxRecDepth 100000
set_option maxHeartbeats 8000000
namespace Go.Proofs.YticcnlpfmekagaaGreat
section
theorem fact_wf : (Rows.fnPlanCooperatesUptoRow.wf (OpenSpec.ofChange (Rows.OpenSpec.upto Rows.fnPlanCooperatesSpec).bare)) = true := by kernel_rfl
theorem fact_laidOut : (laidOutB Tryz.prog) = true := by kernel_rfl
theorem fact_rowed : (mapsRowed Tryz.prog) = true := by kernel_rfl
theorem fact_params : (Tryz.f3.params.all (Tryz.prog.readableRec ·)) = true := by kernel_rfl
theorem fact_namedTie : (namedTie Tryz.prog Rows.fnPlanCooperatesUptoRow.named (Rows.OpenSpec.upto Rows.fnPlanCooperatesSpec).bare.vars) = true := by kernel_rfl
theorem fact_stops : (Rows.fnPlanCooperatesUptoRow.stops == []) = true := by kernel_rfl
theorem fact_pstops : (Tryz.prog.stops == []) = true := by kernel_rfl
theorem fact_knobs : (Rows.fnPlanCooperatesUptoRow.knobs == []) = true := by kernel_rfl
theorem fact_pknobs : (Tryz.prog.stopKnobs == []) = true := by kernel_rfl
theorem fact_inPlace : (Rows.fnPlanCooperatesUptoRow.inPlace == Tryz.prog.inPlace 3) = true := by kernel_rfl
theorem fact_unfollowed : (Rows.fnPlanCooperatesUptoRow.unfollowed == Tryz.prog.unfollowed 3) = true := by kernel_rfl
theorem fact_recurses : (Rows.fnPlanCooperatesUptoRow.recurses == Tryz.prog.recurses 3) = true := by kernel_rfl
theorem fact_named : (Rows.fnPlanCooperatesUptoRow.named == Tryz.prog.varsNamed 3) = true := by kernel_rfl
theorem fact_maps : (Rows.fnPlanCooperatesUptoRow.maps == (Tryz.f3.params.toList ++ (Rows.OpenSpec.upto Rows.fnPlanCooperatesSpec).bare.plain.varTypes Tryz.prog).any (Tryz.prog.mapsRec ·)) = true := by kernel_rfl
theorem fact_ifaces : (Rows.fnPlanCooperatesUptoRow.ifaces == (Tryz.f3.params.toList ++ (Rows.OpenSpec.upto Rows.fnPlanCooperatesSpec).bare.plain.varTypes Tryz.prog).any (Tryz.prog.ifacesRec ·)) = true := by kernel_rfl
theorem fact_mapsOut : (Rows.fnPlanCooperatesUptoRow.mapsOut == Tryz.prog.mapsAmong Tryz.f3.resultTypes.toList) = true := by kernel_rfl
theorem fact_loops : (Rows.fnPlanCooperatesUptoRow.loops == (Tryz.f3.params.toList ++ (Rows.OpenSpec.upto Rows.fnPlanCooperatesSpec).bare.plain.varTypes Tryz.prog).any (Tryz.prog.loopsFrom ·)) = true := by kernel_rfl
theorem fact_wideKeys : (Rows.fnPlanCooperatesUptoRow.wideKeys == (Tryz.f3.params.toList ++ (Rows.OpenSpec.upto Rows.fnPlanCooperatesSpec).bare.plain.varTypes Tryz.prog ++ Tryz.f3.resultTypes.toList).any (Tryz.prog.wideKeysFrom ·)) = true := by kernel_rfl
theorem fact_vars : ((Rows.OpenSpec.upto Rows.fnPlanCooperatesSpec).bare.vars.all (Tryz.prog.varReadable ·)) = true := by kernel_rfl
theorem fact_results : (Tryz.f3.resultTypes.all (fun t => Tryz.prog.readableRec t && decide (t < Tryz.prog.types.size))) = true := by kernel_rfl
theorem fact_ifacesOut : (Rows.fnPlanCooperatesUptoRow.ifacesOut == Tryz.f3.resultTypes.toList.any (Tryz.prog.ifacesRec ·)) = true := by kernel_rfl
theorem fact_loopsOut : (Rows.fnPlanCooperatesUptoRow.loopsOut == Tryz.f3.resultTypes.toList.any (Tryz.prog.loopsFrom ·)) = true := by kernel_rfl
theorem fact_plainKeys : (Rows.fnPlanCooperatesUptoRow.plainKeys == Tryz.prog.plainKeys) = true := by kernel_rfl
theorem fact_shortTexts : (Rows.fnPlanCooperatesUptoRow.shortTexts.isNone) = true := by kernel_rfl
theorem fact_stopsHeard : (Tryz.prog.stopsHeard) = true := by kernel_rfl
theorem fact_mayEnter : (Tryz.prog.mayEnter) = true := by kernel_rfl
theorem fact_lifts : (Rows.fnPlanCooperatesUptoRow.lifted == Tryz.prog.liftsFinal) = true := by kernel_rfl
theorem fact_make : (Tryz.prog.make == some Rows.fnPlanCooperatesUptoRow.make) = true := by kernel_rfl
theorem fact_kinds : (Rows.fnPlanCooperatesUptoRow.kinds == (if Rows.fnPlanCooperatesUptoRow.domain.isEmpty then [] else Tryz.f3.params.toList.map fun t => match Tryz.prog.underlying t with | some (.int k) => some k | _ => none)) = true := by kernel_rfl
theorem fact_pinned : (Rows.fnPlanCooperatesUptoRow.pinned == Rows.fnPlanCooperatesUptoRow.pinnedBy) = true := by kernel_rfl
theorem fact_veiled : (Rows.fnPlanCooperatesUptoRow.veiled == (Tryz.f3.params.toList ++ (Rows.OpenSpec.upto Rows.fnPlanCooperatesSpec).bare.plain.varTypes Tryz.prog ++ Tryz.f3.resultTypes.toList).any (Tryz.prog.veiledRec ·)) = true := by kernel_rfl
theorem fact_veiledFits : (Rows.fnPlanCooperatesUptoRow.veiledFits Tryz.prog Tryz.f3.params.toList (Tryz.f3.params.toList ++ (Rows.OpenSpec.upto Rows.fnPlanCooperatesSpec).bare.plain.varTypes Tryz.prog ++ Tryz.f3.resultTypes.toList)) = true := by kernel_rfl
theorem fact_name : Tryz.pinned.checked.prog.funcNamed Rows.fnPlanCooperatesUptoRow.func = some 3 := by kernel_rfl
theorem closed : joinedFacts Tryz.pinned.checked.prog 3 Tryz.f3 (Rows.OpenSpec.upto Rows.fnPlanCooperatesSpec).bare Rows.fnPlanCooperatesUptoRow = true := by
 show joinedFacts Tryz.prog _ _ _ _ = true
 simp only [joinedFacts, Bool.and_eq_true]
 exact ⟨⟨⟨⟨⟨⟨⟨⟨⟨⟨⟨⟨⟨⟨⟨⟨⟨⟨⟨⟨⟨⟨⟨⟨⟨⟨⟨⟨⟨⟨⟨fact_wf, fact_laidOut⟩, fact_rowed⟩, fact_params⟩, fact_namedTie⟩, fact_stops⟩, fact_pstops⟩, fact_knobs⟩, fact_pknobs⟩, fact_inPlace⟩, fact_unfollowed⟩, fact_recurses⟩, fact_named⟩, fact_maps⟩, fact_ifaces⟩, fact_mapsOut⟩, fact_loops⟩, fact_wideKeys⟩, fact_vars⟩, fact_results⟩, fact_ifacesOut⟩, fact_loopsOut⟩, fact_plainKeys⟩, fact_shortTexts⟩, fact_stopsHeard⟩, fact_mayEnter⟩, fact_lifts⟩, fact_make⟩, fact_kinds⟩, fact_pinned⟩, fact_veiled⟩, fact_veiledFits⟩
end
end Go.Proofs.YticcnlpfmekagaaGreat
