/- The row of the law FnGroupData: read the arguments, walk, and read them again. -/
import Derived.Test.YticcnlpfmekagaaGreatRows
import Derived.Test.YticcnlpfmekagaaGreatFactGroupData
import Derived.Test.YticcnlpfmekagaaGreatLawData
import Derived.Test.YticcnlpfmekagaaGreatOpen
import Derived.WalkKit
import Derived.ProofKit
import Derived.OpenShut
import Derived.ShutString
import Derived.ChangeOld
import Derived.Below
import Derived.SizedLaws
namespace Go.Proofs.YticcnlpfmekagaaGreat.fnGroupData
open Go.ChangeShapes Go.WideShapes Go.ChangeAt Go.RowKit
open Go.ChangeMaps (open_string shut_string)
set_option linter.unusedVariables false
set_option linter.unusedSimpArgs false
theorem own : ownKnob Tryz.prog.godebug = none := by kernel_rfl
theorem laidOut : laidOutB Tryz.prog = true := fact_laidOut
set_option maxRecDepth 100000 in
theorem lifted (os : Os) (started : os.Started) (H : Type) (enc : TypeId × Value → H) :
    ReturnsInHanded {} Tryz.checked os 4 .any (Rows.fnGroupDataSpec.pre6 enc Tryz.prog Tryz.f4 Rows.fnGroupDataRow.domain false) (Rows.fnGroupDataSpec.post enc Tryz.prog Tryz.f4 false true false false) := by
  refine returnsInHanded_of_change_sized (C := Tryz.checked) own started (by kernel_rfl) Tryz.func4
    (ChangeSpec.witness6 (enc := enc) (C := Tryz.checked) false ⟨#[], #[.int .u8 0, .string ByteArray.empty, .slice none 0 0, .int .i32 0], []⟩ 8 (by kernel_rfl) (by kernel_rfl) (by kernel_rfl) (by kernel_rfl)) ?_
  intro W base args ds gs before hval0 hW hcnd hsz0 _
  have hval : ∀ (j : Nat) t v, Tryz.f4.params[j]? = some t → args[j]? = some v → Value.okWide Tryz.prog W .any base t v := hval0
  have hW' := hW
  obtain ⟨p, q, hA0, hV, rfl, hfz, hnd⟩ := hW
  have hA : DataW.TrodAll enc Tryz.prog W 0 (fun _ => true) true Tryz.f4.params.toList args.toList ds p := hA0
  rw [Tryz.params4] at hA hval
  obtain ⟨v0, vs0, d0, ds0, p0, q0, hargs, rfl, rfl, h0, r0⟩ := trodAll_cons hA
  obtain ⟨v1, vs1, d1, ds1, p1, q1, rfl, rfl, rfl, h1, r1⟩ := trodAll_cons r0
  obtain ⟨v2, vs2, d2, ds2, p2, q2, rfl, rfl, rfl, h2, r2⟩ := trodAll_cons r1
  obtain ⟨v3, vs3, d3, ds3, p3, q3, rfl, rfl, rfl, h3, r3⟩ := trodAll_cons r2
  obtain ⟨rfl, rfl, rfl⟩ := trodAll_nil r3
  obtain rfl : args = #[v0, v1, v2, v3] := by cases args; simp_all
  obtain ⟨rfl, rfl⟩ := trodVars_none hV
  have k0 := h0
  have lt0 : ∀ x ∈ p0, x.block < W.heap.size := by obtain ⟨m, hm⟩ := k0; exact DataW.trod_lt m _ _ _ hm
  obtain ⟨a0, rfl, rfl, rfl, w0⟩ := open_int Tryz.underlying5 (hval 0 5 v0 rfl rfl) h0
  have k1 := h1
  have lt1 : ∀ x ∈ p1, x.block < W.heap.size := by obtain ⟨m, hm⟩ := k1; exact DataW.trod_lt m _ _ _ hm
  obtain ⟨a1, rfl, rfl, rfl, w1⟩ := open_string Tryz.underlying9 (hval 1 9 v1 rfl rfl) h1
  have k2 := h2
  have lt2 : ∀ x ∈ p2, x.block < W.heap.size := by obtain ⟨m, hm⟩ := k2; exact DataW.trod_lt m _ _ _ hm
  obtain ⟨a2, len2, cap2, rfl⟩ := okWide_slice Tryz.underlying23 (hval 2 23 v2 rfl rfl)
  obtain ⟨fuel2, hf2⟩ := h2
  rw [show (Value.slice a2 len2 cap2).cells.toList = [Value.slice a2 len2 cap2] from rfl] at hf2
  obtain ⟨L2, w2, m2, z2⟩ := open_shrs hf2
  obtain ⟨b2, c2, e2⟩ := w2.form
  obtain ⟨rfl, rfl, rfl⟩ : a2 = b2 ∧ len2 = L2.length ∧ cap2 = c2 := by simpa using e2
  have k3 := h3
  have lt3 : ∀ x ∈ p3, x.block < W.heap.size := by obtain ⟨m, hm⟩ := k3; exact DataW.trod_lt m _ _ _ hm
  obtain ⟨a3, rfl, rfl, rfl, w3⟩ := open_int Tryz.underlying21 (hval 3 21 v3 rfl rfl) h3
  clear hA0 hval0 hsz0
  refine (law_data_row a0 a1 a2 cap2 L2 a3 W w0 w1 w2 m2 z2 w3).mono fun e W' ⟨he, hk⟩ => ?_
  have bel := hk.below
  subst he
  exact ⟨_, rfl, _, _, _, [], _, [], hW', trodAll_mk1 (shut_bool Tryz.underlying4 _), (trodAll_cons_mk (shut_int Tryz.underlying5 w0) (trodAll_cons_mk (shut_string Tryz.underlying9 w1) (trodAll_cons_mk (Below.trod laidOut (by kernel_rfl) (of_decide_eq_true (by kernel_rfl)) k2 bel lt2) (trodAll_cons_mk (shut_int Tryz.underlying21 w3) trodAll_mk0)))), rfl, bel.frame _, fun h => by cases h⟩
theorem over : Rows.fnGroupDataRow.holds Tryz.pinned (OpenSpec.ofChange Rows.fnGroupDataSpec) :=
  OpenClaim.holds_of_wide 4 Tryz.f4 rfl rfl rfl rfl rfl rfl rfl ⟨rfl, rfl, rfl, rfl, rfl⟩ rfl rfl rfl rfl rfl fact_name Tryz.func4 closed
    (of_decide_eq_true (by kernel_rfl)) (by unfold Func.isWrapper; first | (rw [if_pos (by decide +kernel)]; kernel_rfl) | (rw [if_neg (by decide +kernel)]; exact ⟨rfl, rfl⟩))
    (fun os started H enc _ => lifted os started H enc)
theorem proved : Rows.FnGroupDataSaid := over
#print axioms proved
end Go.Proofs.YticcnlpfmekagaaGreat.fnGroupData
namespace Go.Proofs.YticcnlpfmekagaaGreat
/-- The row, under a short name, for the claim. -/
theorem fnGroupData_holds : Rows.FnGroupDataSaid := fnGroupData.proved
end Go.Proofs.YticcnlpfmekagaaGreat
