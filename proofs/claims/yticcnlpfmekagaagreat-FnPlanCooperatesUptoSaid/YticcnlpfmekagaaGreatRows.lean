/-
  No cell of these rows narrows 'for every input' (looked for: loops, veiled, ifaces, maps, wideKeys, modest, calm, conditions, laid).
  DERIVED. THE GIVEN ROWS OF THIS SEAT. 9 by the template 'for every input the law returns true; each argument reads behind the call as it read before'; 0 by the template 'total and deterministic' (their statements: YticcnlpfmekagaaGreatTotals.lean).
  GIVEN WITH THE SEED: the statements are not yours to turn. If you find one false, say at which input.
  Laid BY PROGRAM, IN A SANDBOX (cutbox-rows.mjs): the forced cells as the released guide's own fill.sh prints them over the translation bc4f5074bd16076d… (all of the seat's roots in one cut). By AI agents, Wed Nov 11 2026. No macro, syntax, notation, axiom, sorry.
-/
import Derived.Test.YticcnlpfmekagaaGreatChecked
import GoSem.Claim
import GoSem.ClaimJoined
import GoSem.ClaimMapViews
import Derived.JoinedTies
import Derived.KernelRfl
namespace Go.Proofs.YticcnlpfmekagaaGreat
/- THE CELL 'sum', in the pinned program and in every row, IS THE sha256 OF THE DUMP (.gsa) THAT YticcnlpfmekagaaGreatProg.lean LOADS. Nothing in Lean hashes anything: it is a label: what it is worth is what the hold of that sum in a sandbox is worth. -/
noncomputable def Tryz.pinned : Pinned := { name := "yticcnlpfmekagaagreat", sum := "bc4f5074bd16076ded77f3bb7fac6b1b1351e71ee6d31cbf21111402d829ff67", checked := Tryz.checked }
namespace Rows
def none {H : Type} : Left H := { results := [], args := [] }

/-- 'laws.FnPlanCooperates': WHATEVER THE INPUT: true; the input reads as it did. -/
def fnPlanCooperatesSpec : ChangeSpec := { name := "fnPlanCooperates", fn := fun _ => fun
  | [d1, d2] => { results := [.lit (.bool true)], args := [d1, d2] }
  | _ => none }
def fnPlanCooperatesRow : OpenClaim := { program := "yticcnlpfmekagaagreat", sum := "bc4f5074bd16076ded77f3bb7fac6b1b1351e71ee6d31cbf21111402d829ff67", func := "pub-kestrel/laws.FnPlanCooperates", spec := "fnPlanCooperates", inPlace := ["math.archMin", "math.Float64bits", "math.Float64frombits"], unfollowed := true, recurses := true, plainKeys := false, apart := false }
def FnPlanCooperatesSaid : Prop := fnPlanCooperatesRow.holds Tryz.pinned (OpenSpec.ofChange fnPlanCooperatesSpec)

/-- ITS FALSE NEIGHBOUR: 'it returns false'. Refute it at one input. -/
def fnPlanCooperatesWrong : ChangeSpec := { name := "fnPlanCooperates", fn := fun _ => fun
  | [d1, d2] => { results := [.lit (.bool false)], args := [d1, d2] }
  | _ => none }
def FnPlanCooperatesWrongFalsely : Prop := fnPlanCooperatesRow.holds Tryz.pinned (OpenSpec.ofChange fnPlanCooperatesWrong)

/-- 'laws.FnGroupData': WHATEVER THE INPUT: true; the input reads as it did. -/
def fnGroupDataSpec : ChangeSpec := { name := "fnGroupData", fn := fun _ => fun
  | [d1, d2, d3, d4] => { results := [.lit (.bool true)], args := [d1, d2, d3, d4] }
  | _ => none }
def fnGroupDataRow : OpenClaim := { program := "yticcnlpfmekagaagreat", sum := "bc4f5074bd16076ded77f3bb7fac6b1b1351e71ee6d31cbf21111402d829ff67", func := "pub-kestrel/laws.FnGroupData", spec := "fnGroupData", inPlace := ["math.archMin", "math.Float64bits", "math.Float64frombits"], unfollowed := true, recurses := true, plainKeys := false, apart := false }
def FnGroupDataSaid : Prop := fnGroupDataRow.holds Tryz.pinned (OpenSpec.ofChange fnGroupDataSpec)

/-- ITS FALSE NEIGHBOUR: 'it returns false'. Refute it at one input. -/
def fnGroupDataWrong : ChangeSpec := { name := "fnGroupData", fn := fun _ => fun
  | [d1, d2, d3, d4] => { results := [.lit (.bool false)], args := [d1, d2, d3, d4] }
  | _ => none }
def FnGroupDataWrongFalsely : Prop := fnGroupDataRow.holds Tryz.pinned (OpenSpec.ofChange fnGroupDataWrong)

/-- 'laws.FnPlanSticks': WHATEVER THE INPUT: true; the input reads as it did. -/
def fnPlanSticksSpec : ChangeSpec := { name := "fnPlanSticks", fn := fun _ => fun
  | [d1, d2, d3] => { results := [.lit (.bool true)], args := [d1, d2, d3] }
  | _ => none }
def fnPlanSticksRow : OpenClaim := { program := "yticcnlpfmekagaagreat", sum := "bc4f5074bd16076ded77f3bb7fac6b1b1351e71ee6d31cbf21111402d829ff67", func := "pub-kestrel/laws.FnPlanSticks", spec := "fnPlanSticks", inPlace := ["math.archMin", "math.Float64bits", "math.Float64frombits"], unfollowed := true, recurses := true, plainKeys := false, apart := false }
def FnPlanSticksSaid : Prop := fnPlanSticksRow.holds Tryz.pinned (OpenSpec.ofChange fnPlanSticksSpec)

/-- ITS FALSE NEIGHBOUR: 'it returns false'. Refute it at one input. -/
def fnPlanSticksWrong : ChangeSpec := { name := "fnPlanSticks", fn := fun _ => fun
  | [d1, d2, d3] => { results := [.lit (.bool false)], args := [d1, d2, d3] }
  | _ => none }
def FnPlanSticksWrongFalsely : Prop := fnPlanSticksRow.holds Tryz.pinned (OpenSpec.ofChange fnPlanSticksWrong)

/-- 'laws.FnStickyGrows': WHATEVER THE INPUT: true; the input reads as it did. -/
def fnStickyGrowsSpec : ChangeSpec := { name := "fnStickyGrows", fn := fun _ => fun
  | [d1, d2, d3] => { results := [.lit (.bool true)], args := [d1, d2, d3] }
  | _ => none }
def fnStickyGrowsRow : OpenClaim := { program := "yticcnlpfmekagaagreat", sum := "bc4f5074bd16076ded77f3bb7fac6b1b1351e71ee6d31cbf21111402d829ff67", func := "pub-kestrel/laws.FnStickyGrows", spec := "fnStickyGrows", inPlace := ["math.archMin", "math.Float64bits", "math.Float64frombits"], unfollowed := true, recurses := true, plainKeys := false, apart := false }
def FnStickyGrowsSaid : Prop := fnStickyGrowsRow.holds Tryz.pinned (OpenSpec.ofChange fnStickyGrowsSpec)

/-- ITS FALSE NEIGHBOUR: 'it returns false'. Refute it at one input. -/
def fnStickyGrowsWrong : ChangeSpec := { name := "fnStickyGrows", fn := fun _ => fun
  | [d1, d2, d3] => { results := [.lit (.bool false)], args := [d1, d2, d3] }
  | _ => none }
def FnStickyGrowsWrongFalsely : Prop := fnStickyGrowsRow.holds Tryz.pinned (OpenSpec.ofChange fnStickyGrowsWrong)

/-- 'laws.FnStickyJoins': WHATEVER THE INPUT: true; the input reads as it did. -/
def fnStickyJoinsSpec : ChangeSpec := { name := "fnStickyJoins", fn := fun _ => fun
  | [d1, d2, d3] => { results := [.lit (.bool true)], args := [d1, d2, d3] }
  | _ => none }
def fnStickyJoinsRow : OpenClaim := { program := "yticcnlpfmekagaagreat", sum := "bc4f5074bd16076ded77f3bb7fac6b1b1351e71ee6d31cbf21111402d829ff67", func := "pub-kestrel/laws.FnStickyJoins", spec := "fnStickyJoins", inPlace := ["math.archMin", "math.Float64bits", "math.Float64frombits"], unfollowed := true, recurses := true, plainKeys := false, apart := false }
def FnStickyJoinsSaid : Prop := fnStickyJoinsRow.holds Tryz.pinned (OpenSpec.ofChange fnStickyJoinsSpec)

/-- ITS FALSE NEIGHBOUR: 'it returns false'. Refute it at one input. -/
def fnStickyJoinsWrong : ChangeSpec := { name := "fnStickyJoins", fn := fun _ => fun
  | [d1, d2, d3] => { results := [.lit (.bool false)], args := [d1, d2, d3] }
  | _ => none }
def FnStickyJoinsWrongFalsely : Prop := fnStickyJoinsRow.holds Tryz.pinned (OpenSpec.ofChange fnStickyJoinsWrong)

/-- 'laws.FnStickyLeaves': WHATEVER THE INPUT: true; the input reads as it did. -/
def fnStickyLeavesSpec : ChangeSpec := { name := "fnStickyLeaves", fn := fun _ => fun
  | [d1, d2, d3, d4] => { results := [.lit (.bool true)], args := [d1, d2, d3, d4] }
  | _ => none }
def fnStickyLeavesRow : OpenClaim := { program := "yticcnlpfmekagaagreat", sum := "bc4f5074bd16076ded77f3bb7fac6b1b1351e71ee6d31cbf21111402d829ff67", func := "pub-kestrel/laws.FnStickyLeaves", spec := "fnStickyLeaves", inPlace := ["math.archMin", "math.Float64bits", "math.Float64frombits"], unfollowed := true, recurses := true, plainKeys := false, apart := false }
def FnStickyLeavesSaid : Prop := fnStickyLeavesRow.holds Tryz.pinned (OpenSpec.ofChange fnStickyLeavesSpec)

/-- ITS FALSE NEIGHBOUR: 'it returns false'. Refute it at one input. -/
def fnStickyLeavesWrong : ChangeSpec := { name := "fnStickyLeaves", fn := fun _ => fun
  | [d1, d2, d3, d4] => { results := [.lit (.bool false)], args := [d1, d2, d3, d4] }
  | _ => none }
def FnStickyLeavesWrongFalsely : Prop := fnStickyLeavesRow.holds Tryz.pinned (OpenSpec.ofChange fnStickyLeavesWrong)

/-- 'laws.FnStickyRounds': WHATEVER THE INPUT: true; the input reads as it did. -/
def fnStickyRoundsSpec : ChangeSpec := { name := "fnStickyRounds", fn := fun _ => fun
  | [d1, d2, d3] => { results := [.lit (.bool true)], args := [d1, d2, d3] }
  | _ => none }
def fnStickyRoundsRow : OpenClaim := { program := "yticcnlpfmekagaagreat", sum := "bc4f5074bd16076ded77f3bb7fac6b1b1351e71ee6d31cbf21111402d829ff67", func := "pub-kestrel/laws.FnStickyRounds", spec := "fnStickyRounds", inPlace := ["math.archMin", "math.Float64bits", "math.Float64frombits"], unfollowed := true, recurses := true, plainKeys := false, apart := false }
def FnStickyRoundsSaid : Prop := fnStickyRoundsRow.holds Tryz.pinned (OpenSpec.ofChange fnStickyRoundsSpec)

/-- ITS FALSE NEIGHBOUR: 'it returns false'. Refute it at one input. -/
def fnStickyRoundsWrong : ChangeSpec := { name := "fnStickyRounds", fn := fun _ => fun
  | [d1, d2, d3] => { results := [.lit (.bool false)], args := [d1, d2, d3] }
  | _ => none }
def FnStickyRoundsWrongFalsely : Prop := fnStickyRoundsRow.holds Tryz.pinned (OpenSpec.ofChange fnStickyRoundsWrong)

/-- 'laws.FnMemberBytes': WHATEVER THE INPUT: true; the input reads as it did. -/
def fnMemberBytesSpec : ChangeSpec := { name := "fnMemberBytes", fn := fun _ => fun
  | [d] => { results := [.lit (.bool true)], args := [d] }
  | _ => none }
def fnMemberBytesRow : OpenClaim := { program := "yticcnlpfmekagaagreat", sum := "bc4f5074bd16076ded77f3bb7fac6b1b1351e71ee6d31cbf21111402d829ff67", func := "pub-kestrel/laws.FnMemberBytes", spec := "fnMemberBytes", inPlace := ["math.archMin", "math.Float64bits", "math.Float64frombits"], unfollowed := true, recurses := true, plainKeys := false, apart := false }
def FnMemberBytesSaid : Prop := fnMemberBytesRow.holds Tryz.pinned (OpenSpec.ofChange fnMemberBytesSpec)

/-- ITS FALSE NEIGHBOUR: 'it returns false'. Refute it at one input. -/
def fnMemberBytesWrong : ChangeSpec := { name := "fnMemberBytes", fn := fun _ => fun
  | [d] => { results := [.lit (.bool false)], args := [d] }
  | _ => none }
def FnMemberBytesWrongFalsely : Prop := fnMemberBytesRow.holds Tryz.pinned (OpenSpec.ofChange fnMemberBytesWrong)

/-- 'laws.FnSharesBytes': WHATEVER THE INPUT: true; the input reads as it did. -/
def fnSharesBytesSpec : ChangeSpec := { name := "fnSharesBytes", fn := fun _ => fun
  | [d1, d2, d3] => { results := [.lit (.bool true)], args := [d1, d2, d3] }
  | _ => none }
def fnSharesBytesRow : OpenClaim := { program := "yticcnlpfmekagaagreat", sum := "bc4f5074bd16076ded77f3bb7fac6b1b1351e71ee6d31cbf21111402d829ff67", func := "pub-kestrel/laws.FnSharesBytes", spec := "fnSharesBytes", inPlace := ["math.archMin", "math.Float64bits", "math.Float64frombits"], unfollowed := true, recurses := true, plainKeys := false, apart := false }
def FnSharesBytesSaid : Prop := fnSharesBytesRow.holds Tryz.pinned (OpenSpec.ofChange fnSharesBytesSpec)

/-- ITS FALSE NEIGHBOUR: 'it returns false'. Refute it at one input. -/
def fnSharesBytesWrong : ChangeSpec := { name := "fnSharesBytes", fn := fun _ => fun
  | [d1, d2, d3] => { results := [.lit (.bool false)], args := [d1, d2, d3] }
  | _ => none }
def FnSharesBytesWrongFalsely : Prop := fnSharesBytesRow.holds Tryz.pinned (OpenSpec.ofChange fnSharesBytesWrong)

/- THE SECOND FORM. 'bulk': how many values and letters a reading holds, each counted each time it is reached (what is shared counts as often as it is met; a slice's spare places count too). A statement '..UptoSaid' is the law's where the arguments, and the package variables that the reading takes, are together of bulk at most 1048576: NARROWER than '..Said'. Prove '..Said' where nothing that the law and all that it calls make is longer than what came in: it says more and counts as full. Else prove '..UptoSaid'. A law counts once. -/
mutual
def uptoBulk {H : Type} : DataW H → Nat
  | .lit (.string bytes) => bytes.length + 1
  | .lit _ => 1
  | .nil => 1
  | .ptr d => uptoBulk d + 1
  | .slice elems spare => uptoBulkAll elems + uptoBulkAll spare + 1
  | .agg parts => uptoBulkAll parts + 1
  | .iface _ d => uptoBulk d + 1
  | .map entries => uptoBulkEntries entries + 1
  | .held _ => 1
def uptoBulkAll {H : Type} : List (DataW H) → Nat
  | [] => 0
  | d :: r => uptoBulk d + uptoBulkAll r
def uptoBulkEntries {H : Type} : List (Lit × DataW H) → Nat
  | [] => 0
  | x :: r => uptoBulkEntry x + uptoBulkEntries r
def uptoBulkEntry {H : Type} : Lit × DataW H → Nat
  | (.string bytes, d) => bytes.length + uptoBulk d + 1
  | (_, d) => uptoBulk d + 1
 end
def uptoSmall : (H : Type) → List (DataW H) → Bool := fun _ ds => decide (uptoBulkAll ds ≤ 1048576)
def OpenSpec.upto (s : _root_.Go.ChangeSpec) : _root_.Go.OpenSpec := { _root_.Go.OpenSpec.ofChange s with cond := some uptoSmall }

/-- 'laws.FnPlanCooperates', WHERE WHAT IT READS IS OF BULK AT MOST 1048576: true; the input reads as it did. -/
def fnPlanCooperatesUptoRow : OpenClaim := { program := "yticcnlpfmekagaagreat", sum := "bc4f5074bd16076ded77f3bb7fac6b1b1351e71ee6d31cbf21111402d829ff67", func := "pub-kestrel/laws.FnPlanCooperates", spec := "fnPlanCooperates", inPlace := ["math.archMin", "math.Float64bits", "math.Float64frombits"], unfollowed := true, recurses := true, plainKeys := false, apart := false, narrowed := true }
def FnPlanCooperatesUptoSaid : Prop := fnPlanCooperatesUptoRow.holds Tryz.pinned (OpenSpec.upto fnPlanCooperatesSpec)

/-- 'laws.FnGroupData', WHERE WHAT IT READS IS OF BULK AT MOST 1048576: true; the input reads as it did. -/
def fnGroupDataUptoRow : OpenClaim := { program := "yticcnlpfmekagaagreat", sum := "bc4f5074bd16076ded77f3bb7fac6b1b1351e71ee6d31cbf21111402d829ff67", func := "pub-kestrel/laws.FnGroupData", spec := "fnGroupData", inPlace := ["math.archMin", "math.Float64bits", "math.Float64frombits"], unfollowed := true, recurses := true, plainKeys := false, apart := false, narrowed := true }
def FnGroupDataUptoSaid : Prop := fnGroupDataUptoRow.holds Tryz.pinned (OpenSpec.upto fnGroupDataSpec)

/-- 'laws.FnPlanSticks', WHERE WHAT IT READS IS OF BULK AT MOST 1048576: true; the input reads as it did. -/
def fnPlanSticksUptoRow : OpenClaim := { program := "yticcnlpfmekagaagreat", sum := "bc4f5074bd16076ded77f3bb7fac6b1b1351e71ee6d31cbf21111402d829ff67", func := "pub-kestrel/laws.FnPlanSticks", spec := "fnPlanSticks", inPlace := ["math.archMin", "math.Float64bits", "math.Float64frombits"], unfollowed := true, recurses := true, plainKeys := false, apart := false, narrowed := true }
def FnPlanSticksUptoSaid : Prop := fnPlanSticksUptoRow.holds Tryz.pinned (OpenSpec.upto fnPlanSticksSpec)

/-- 'laws.FnStickyGrows', WHERE WHAT IT READS IS OF BULK AT MOST 1048576: true; the input reads as it did. -/
def fnStickyGrowsUptoRow : OpenClaim := { program := "yticcnlpfmekagaagreat", sum := "bc4f5074bd16076ded77f3bb7fac6b1b1351e71ee6d31cbf21111402d829ff67", func := "pub-kestrel/laws.FnStickyGrows", spec := "fnStickyGrows", inPlace := ["math.archMin", "math.Float64bits", "math.Float64frombits"], unfollowed := true, recurses := true, plainKeys := false, apart := false, narrowed := true }
def FnStickyGrowsUptoSaid : Prop := fnStickyGrowsUptoRow.holds Tryz.pinned (OpenSpec.upto fnStickyGrowsSpec)

/-- 'laws.FnStickyJoins', WHERE WHAT IT READS IS OF BULK AT MOST 1048576: true; the input reads as it did. -/
def fnStickyJoinsUptoRow : OpenClaim := { program := "yticcnlpfmekagaagreat", sum := "bc4f5074bd16076ded77f3bb7fac6b1b1351e71ee6d31cbf21111402d829ff67", func := "pub-kestrel/laws.FnStickyJoins", spec := "fnStickyJoins", inPlace := ["math.archMin", "math.Float64bits", "math.Float64frombits"], unfollowed := true, recurses := true, plainKeys := false, apart := false, narrowed := true }
def FnStickyJoinsUptoSaid : Prop := fnStickyJoinsUptoRow.holds Tryz.pinned (OpenSpec.upto fnStickyJoinsSpec)

/-- 'laws.FnStickyLeaves', WHERE WHAT IT READS IS OF BULK AT MOST 1048576: true; the input reads as it did. -/
def fnStickyLeavesUptoRow : OpenClaim := { program := "yticcnlpfmekagaagreat", sum := "bc4f5074bd16076ded77f3bb7fac6b1b1351e71ee6d31cbf21111402d829ff67", func := "pub-kestrel/laws.FnStickyLeaves", spec := "fnStickyLeaves", inPlace := ["math.archMin", "math.Float64bits", "math.Float64frombits"], unfollowed := true, recurses := true, plainKeys := false, apart := false, narrowed := true }
def FnStickyLeavesUptoSaid : Prop := fnStickyLeavesUptoRow.holds Tryz.pinned (OpenSpec.upto fnStickyLeavesSpec)

/-- 'laws.FnStickyRounds', WHERE WHAT IT READS IS OF BULK AT MOST 1048576: true; the input reads as it did. -/
def fnStickyRoundsUptoRow : OpenClaim := { program := "yticcnlpfmekagaagreat", sum := "bc4f5074bd16076ded77f3bb7fac6b1b1351e71ee6d31cbf21111402d829ff67", func := "pub-kestrel/laws.FnStickyRounds", spec := "fnStickyRounds", inPlace := ["math.archMin", "math.Float64bits", "math.Float64frombits"], unfollowed := true, recurses := true, plainKeys := false, apart := false, narrowed := true }
def FnStickyRoundsUptoSaid : Prop := fnStickyRoundsUptoRow.holds Tryz.pinned (OpenSpec.upto fnStickyRoundsSpec)

/-- 'laws.FnMemberBytes', WHERE WHAT IT READS IS OF BULK AT MOST 1048576: true; the input reads as it did. -/
def fnMemberBytesUptoRow : OpenClaim := { program := "yticcnlpfmekagaagreat", sum := "bc4f5074bd16076ded77f3bb7fac6b1b1351e71ee6d31cbf21111402d829ff67", func := "pub-kestrel/laws.FnMemberBytes", spec := "fnMemberBytes", inPlace := ["math.archMin", "math.Float64bits", "math.Float64frombits"], unfollowed := true, recurses := true, plainKeys := false, apart := false, narrowed := true }
def FnMemberBytesUptoSaid : Prop := fnMemberBytesUptoRow.holds Tryz.pinned (OpenSpec.upto fnMemberBytesSpec)

/-- 'laws.FnSharesBytes', WHERE WHAT IT READS IS OF BULK AT MOST 1048576: true; the input reads as it did. -/
def fnSharesBytesUptoRow : OpenClaim := { program := "yticcnlpfmekagaagreat", sum := "bc4f5074bd16076ded77f3bb7fac6b1b1351e71ee6d31cbf21111402d829ff67", func := "pub-kestrel/laws.FnSharesBytes", spec := "fnSharesBytes", inPlace := ["math.archMin", "math.Float64bits", "math.Float64frombits"], unfollowed := true, recurses := true, plainKeys := false, apart := false, narrowed := true }
def FnSharesBytesUptoSaid : Prop := fnSharesBytesUptoRow.holds Tryz.pinned (OpenSpec.upto fnSharesBytesSpec)

end Rows
end Go.Proofs.YticcnlpfmekagaaGreat
