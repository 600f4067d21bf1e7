/- The law FnPlanCooperates returns true at every input of bulk at most 1048576 (the statement of the second form, FnPlanCooperatesUptoSaid): its arguments are read, the code is walked, and the arguments are read again as they were. -/
import Derived.Test.YticcnlpfmekagaaGreatRows
import Derived.Test.YticcnlpfmekagaaGreatRc01
import Derived.Test.YticcnlpfmekagaaGreatRc51
import Derived.Test.YticcnlpfmekagaaGreatRc52
import Derived.WalkKit
import Derived.ProofKit
import Derived.OpenShut
import Derived.ShutString
import Derived.ChangeOld
import Derived.Below
import Derived.SizedLaws
import Derived.JoinedCond
import Derived.Deep.CondSized
namespace Go.Proofs.YticcnlpfmekagaaGreat
theorem bulk_mems {Ms : List Mem} {B : Nat} (h : (Ms.map memCost).sum ≤ B) : Ms.length ≤ B ∧ (ownL Ms).length ≤ B ∧ ∀ x ∈ ownL Ms, x.parts.length ≤ B := by
  refine ⟨Nat.le_trans (len_leB (fun m _ => by unfold memCost; omega)) h, ?_, fun x hx => ?_⟩
  · have h1 : (ownL Ms).length = (Ms.map fun m => m.owned.length).sum := by
      unfold ownL
      rw [List.length_flatMap]
      congr 1
      exact List.map_congr_left fun m _ => by simp [ownShr]
    have h2 := sum_leB (f := fun m : Mem => m.owned.length) (g := memCost) (l := Ms) (fun m _ => by
      have := len_leB (f := shrCost) (l := m.owned) (fun x _ => by unfold shrCost; omega)
      unfold memCost; omega)
    omega
  · obtain ⟨m, hm, hx⟩ := List.mem_flatMap.1 hx
    obtain ⟨y, hy, rfl⟩ := List.mem_map.1 hx
    have h1 := one_leB (f := memCost) hm
    have h2 := one_leB (f := shrCost) hy
    simp only [memCost, shrCost] at h1 h2 h ⊢
    omega
end Go.Proofs.YticcnlpfmekagaaGreat
namespace Go.Proofs.YticcnlpfmekagaaGreat.fnPlanCooperates
open Go.ChangeShapes Go.WideShapes Go.ChangeAt Go.RowKit
open Go.ChangeMaps (open_string shut_string)
set_option linter.unusedVariables false
theorem own : ownKnob Tryz.prog.godebug = none := by kernel_rfl
theorem laidOut : laidOutB Tryz.prog = true := fact_laidOut
set_option maxRecDepth 100000 in
theorem lifted (os : Os) (started : os.Started) (H : Type) (enc : TypeId × Value → H) (F0 : Stop.Interp) :
    ReturnsInHanded {} Tryz.checked os 3 .any ((Rows.OpenSpec.upto Rows.fnPlanCooperatesSpec).pre6 enc Tryz.prog Tryz.f3 Rows.fnPlanCooperatesUptoRow.domain false) (((Rows.OpenSpec.upto Rows.fnPlanCooperatesSpec).at F0).post enc Tryz.prog Tryz.f3 false true false false) := by
  refine returnsInHanded_of_cond_sized (C := Tryz.checked) (s := Rows.OpenSpec.upto Rows.fnPlanCooperatesSpec) (k := Rows.uptoSmall) rfl own started (by kernel_rfl) Tryz.func3
    (OpenSpec.witness (enc := enc) (C := Tryz.checked) (s := Rows.OpenSpec.upto Rows.fnPlanCooperatesSpec) (k := Rows.uptoSmall) rfl false ⟨#[], #[.slice none 0 0, .slice none 0 0], []⟩ 8 (by kernel_rfl) (by kernel_rfl) (by kernel_rfl)
      (x := ([.nil, .nil], [], [])) (by kernel_rfl) (by kernel_rfl) (by kernel_rfl)) ?_
  intro W base args ds gs before hval0 hW hcnd hkk hsz0 _
  have hval : ∀ (j : Nat) t v, Tryz.f3.params[j]? = some t → args[j]? = some v → Value.okWide Tryz.prog W .any base t v := hval0
  have hW' := hW
  obtain ⟨p, q, hA0, hV, rfl, hfz, hnd⟩ := hW
  have hA : DataW.TrodAll enc Tryz.prog W 0 (fun _ => true) true Tryz.f3.params.toList args.toList ds p := hA0
  rw [Tryz.params3] at hA hval
  obtain ⟨v0, vs0, d0, ds0, p0, q0, hargs, rfl, rfl, h0, r0⟩ := trodAll_cons hA
  obtain ⟨v1, vs1, d1, ds1, p1, q1, rfl, rfl, rfl, h1, r1⟩ := trodAll_cons r0
  obtain ⟨rfl, rfl, rfl⟩ := trodAll_nil r1
  obtain rfl : args = #[v0, v1] := by cases args; simp_all
  obtain ⟨rfl, rfl⟩ := trodVars_none hV
  have hsm := small_fst hkk
  have k0 := h0
  have lt0 : ∀ x ∈ p0, x.block < W.heap.size := by obtain ⟨m, hm⟩ := k0; exact DataW.trod_lt m _ _ _ hm
  obtain ⟨a0, len0, cap0, rfl⟩ := okWide_slice Tryz.underlying22 (hval 0 22 v0 rfl rfl)
  obtain ⟨fuel0, hf0⟩ := h0
  rw [show (Value.slice a0 len0 cap0).cells.toList = [Value.slice a0 len0 cap0] from rfl] at hf0
  obtain ⟨L0, w0, m0, z0, s0⟩ := open_memsB hf0
  obtain ⟨t0, t1, t2⟩ := bulk_mems (Nat.le_trans s0 hsm)
  obtain ⟨b0, c0, e0⟩ := w0.form
  obtain ⟨rfl, rfl, rfl⟩ : a0 = b0 ∧ len0 = L0.length ∧ cap0 = c0 := by simpa using e0
  have k1 := h1
  have lt1 : ∀ x ∈ p1, x.block < W.heap.size := by obtain ⟨m, hm⟩ := k1; exact DataW.trod_lt m _ _ _ hm
  obtain ⟨a1, len1, cap1, rfl⟩ := okWide_slice Tryz.underlying23 (hval 1 23 v1 rfl rfl)
  obtain ⟨fuel1, hf1⟩ := h1
  rw [show (Value.slice a1 len1 cap1).cells.toList = [Value.slice a1 len1 cap1] from rfl] at hf1
  obtain ⟨L1, w1, m1, z1⟩ := open_shrs hf1
  obtain ⟨b1, c1, e1⟩ := w1.form
  obtain ⟨rfl, rfl, rfl⟩ : a1 = b1 ∧ len1 = L1.length ∧ cap1 = c1 := by simpa using e1
  clear hA0 hval0 hsz0
  refine (law_coop_row a0 cap0 L0 a1 cap1 L1 W w0 z0 t0 t1 t2 w1 m1 z1).mono fun e W' ⟨he, hk⟩ => ?_
  have bel := hk.below
  subst he
  exact ⟨_, rfl, _, _, _, [], _, [], hW', trodAll_mk1 (shut_bool Tryz.underlying4 _), (trodAll_cons_mk (Below.trod laidOut (by kernel_rfl) (of_decide_eq_true (by kernel_rfl)) k0 bel lt0) (trodAll_cons_mk (Below.trod laidOut (by kernel_rfl) (of_decide_eq_true (by kernel_rfl)) k1 bel lt1) trodAll_mk0)), rfl, bel.frame _, fun h => by cases h⟩
theorem over : Rows.fnPlanCooperatesUptoRow.holds Tryz.pinned (Rows.OpenSpec.upto Rows.fnPlanCooperatesSpec) :=
  OpenClaim.holds_of_cond 3 Tryz.f3 rfl rfl rfl rfl rfl rfl rfl ⟨rfl, rfl, rfl, rfl, rfl⟩ rfl rfl rfl rfl rfl fact_name Tryz.func3 closed
    (of_decide_eq_true (by kernel_rfl)) (by unfold Func.isWrapper; first | (rw [if_pos (by decide +kernel)]; kernel_rfl) | (rw [if_neg (by decide +kernel)]; exact ⟨rfl, rfl⟩))
    (fun os started H enc _ F => lifted os started H enc F)
theorem proved : Rows.FnPlanCooperatesUptoSaid := over
#print axioms proved
end Go.Proofs.YticcnlpfmekagaaGreat.fnPlanCooperates
namespace Go.Proofs.YticcnlpfmekagaaGreat
/-- The row, under a short name, for the claim. -/
theorem fnPlanCooperatesUpto_holds : Rows.FnPlanCooperatesUptoSaid := fnPlanCooperates.proved
end Go.Proofs.YticcnlpfmekagaaGreat
