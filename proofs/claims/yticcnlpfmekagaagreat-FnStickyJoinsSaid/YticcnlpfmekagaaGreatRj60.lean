/- The row of the law FnStickyJoins: read the arguments, walk, and read them again. -/
import Derived.Test.YticcnlpfmekagaaGreatRows
import Derived.Test.YticcnlpfmekagaaGreatFactStickyJoins
import Derived.Test.YticcnlpfmekagaaGreatRj48
import Derived.Test.YticcnlpfmekagaaGreatRj39
import Derived.WalkKit
import Derived.ProofKit
import Derived.OpenShut
import Derived.ShutString
import Derived.ChangeOld
import Derived.Below
import Derived.SizedLaws
namespace Go.Proofs.YticcnlpfmekagaaGreat.fnStickyJoins
open Go.ChangeShapes Go.WideShapes Go.ChangeAt Go.RowKit
open Go.ChangeMaps (open_string shut_string)
set_option linter.unusedVariables false
theorem own : ownKnob Tryz.prog.godebug = none := by kernel_rfl
theorem laidOut : laidOutB Tryz.prog = true := fact_laidOut
set_option maxRecDepth 100000 in
theorem lifted (os : Os) (started : os.Started) (H : Type) (enc : TypeId × Value → H) :
    ReturnsInHanded {} Tryz.checked os 7 .any (Rows.fnStickyJoinsSpec.pre6 enc Tryz.prog Tryz.f7 Rows.fnStickyJoinsRow.domain false) (Rows.fnStickyJoinsSpec.post enc Tryz.prog Tryz.f7 false true false false) := by
  refine returnsInHanded_of_change_sized (C := Tryz.checked) own started (by kernel_rfl) Tryz.func7
    (ChangeSpec.witness6 (enc := enc) (C := Tryz.checked) false ⟨#[], #[.slice none 0 0, .slice none 0 0, .int .i32 0], []⟩ 8 (by kernel_rfl) (by kernel_rfl) (by kernel_rfl) (by kernel_rfl)) ?_
  intro W base args ds gs before hval0 hW hcnd hsz0 _
  have hval : ∀ (j : Nat) t v, Tryz.f7.params[j]? = some t → args[j]? = some v → Value.okWide Tryz.prog W .any base t v := hval0
  have hW' := hW
  obtain ⟨p, q, hA0, hV, rfl, hfz, hnd⟩ := hW
  have hA : DataW.TrodAll enc Tryz.prog W 0 (fun _ => true) true Tryz.f7.params.toList args.toList ds p := hA0
  rw [Tryz.params7] at hA hval
  obtain ⟨v0, vs0, d0, ds0, p0, q0, hargs, rfl, rfl, h0, r0⟩ := trodAll_cons hA
  obtain ⟨v1, vs1, d1, ds1, p1, q1, rfl, rfl, rfl, h1, r1⟩ := trodAll_cons r0
  obtain ⟨v2, vs2, d2, ds2, p2, q2, rfl, rfl, rfl, h2, r2⟩ := trodAll_cons r1
  obtain ⟨rfl, rfl, rfl⟩ := trodAll_nil r2
  obtain rfl : args = #[v0, v1, v2] := by cases args; simp_all
  obtain ⟨rfl, rfl⟩ := trodVars_none hV
  have k0 := h0
  have lt0 : ∀ x ∈ p0, x.block < W.heap.size := by obtain ⟨m, hm⟩ := k0; exact DataW.trod_lt m _ _ _ hm
  obtain ⟨a0, len0, cap0, rfl⟩ := okWide_slice Tryz.underlying22 (hval 0 22 v0 rfl rfl)
  obtain ⟨fuel0, hf0⟩ := h0
  rw [show (Value.slice a0 len0 cap0).cells.toList = [Value.slice a0 len0 cap0] from rfl] at hf0
  have cp0 := open_cap Tryz.underlying22 hf0
  obtain ⟨L0, w0, m0, z0⟩ := open_mems hf0
  obtain ⟨b0, c0, e0⟩ := w0.form
  obtain ⟨rfl, rfl, rfl⟩ : a0 = b0 ∧ len0 = L0.length ∧ cap0 = c0 := by simpa using e0
  have k1 := h1
  have lt1 : ∀ x ∈ p1, x.block < W.heap.size := by obtain ⟨m, hm⟩ := k1; exact DataW.trod_lt m _ _ _ hm
  obtain ⟨a1, len1, cap1, rfl⟩ := okWide_slice Tryz.underlying23 (hval 1 23 v1 rfl rfl)
  obtain ⟨fuel1, hf1⟩ := h1
  rw [show (Value.slice a1 len1 cap1).cells.toList = [Value.slice a1 len1 cap1] from rfl] at hf1
  obtain ⟨L1, w1, m1, z1⟩ := open_shrs hf1
  obtain ⟨b1, c1, e1⟩ := w1.form
  obtain ⟨rfl, rfl, rfl⟩ : a1 = b1 ∧ len1 = L1.length ∧ cap1 = c1 := by simpa using e1
  have k2 := h2
  have lt2 : ∀ x ∈ p2, x.block < W.heap.size := by obtain ⟨m, hm⟩ := k2; exact DataW.trod_lt m _ _ _ hm
  obtain ⟨a2, rfl, rfl, rfl, w2⟩ := open_int Tryz.underlying21 (hval 2 21 v2 rfl rfl) h2
  clear hA0 hval0 hsz0
  refine (law_joins_row a0 cap0 L0 a1 cap1 L1 a2 W w0 m0 z0 cp0 w1 m1 z1 w2).mono fun e W' ⟨he, hk⟩ => ?_
  have bel := hk.below
  subst he
  exact ⟨_, rfl, _, _, _, [], _, [], hW', trodAll_mk1 (shut_bool Tryz.underlying4 _), (trodAll_cons_mk (Below.trod laidOut (by kernel_rfl) (of_decide_eq_true (by kernel_rfl)) k0 bel lt0) (trodAll_cons_mk (Below.trod laidOut (by kernel_rfl) (of_decide_eq_true (by kernel_rfl)) k1 bel lt1) (trodAll_cons_mk (shut_int Tryz.underlying21 w2) trodAll_mk0))), rfl, bel.frame _, fun h => by cases h⟩
theorem over : Rows.fnStickyJoinsRow.holds Tryz.pinned (OpenSpec.ofChange Rows.fnStickyJoinsSpec) :=
  OpenClaim.holds_of_wide 7 Tryz.f7 rfl rfl rfl rfl rfl rfl rfl ⟨rfl, rfl, rfl, rfl, rfl⟩ rfl rfl rfl rfl rfl fact_name Tryz.func7 closed
    (of_decide_eq_true (by kernel_rfl)) (by unfold Func.isWrapper; first | (rw [if_pos (by decide +kernel)]; kernel_rfl) | (rw [if_neg (by decide +kernel)]; exact ⟨rfl, rfl⟩))
    (fun os started H enc _ => lifted os started H enc)
theorem proved : Rows.FnStickyJoinsSaid := over
#print axioms proved
end Go.Proofs.YticcnlpfmekagaaGreat.fnStickyJoins
namespace Go.Proofs.YticcnlpfmekagaaGreat
/-- The row, under a short name, for the claim. -/
theorem fnStickyJoins_holds : Rows.FnStickyJoinsSaid := fnStickyJoins.proved
end Go.Proofs.YticcnlpfmekagaaGreat
