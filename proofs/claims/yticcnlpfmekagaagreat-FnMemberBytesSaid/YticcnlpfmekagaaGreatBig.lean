import Derived.Test.YticcnlpfmekagaaGreatShare
namespace Go.Proofs.YticcnlpfmekagaaGreat
open Go Go.Proofs Go.RowKit
set_option linter.unusedVariables false
set_option linter.unusedSimpArgs false

/-! ## the reference's numbers, the highest byte first -/

theorem elU8 : Elem Tryz.prog 28 5 1 1 (.int .u8 0) := ⟨Tryz.underlying28, info_parts info5', rfl, by omega⟩

theorem be32_mod (x : Int) : be32 (x % 4294967296) = [Value.int .u8 (x / 16777216 % 256), .int .u8 (x / 65536 % 256), .int .u8 (x / 256 % 256), .int .u8 (x % 256)] := by
  have a1 : x % 4294967296 / 16777216 = x / 16777216 % 256 := by omega
  have a2 : x % 4294967296 / 65536 % 256 = x / 65536 % 256 := by omega
  have a3 : x % 4294967296 / 256 % 256 = x / 256 % 256 := by omega
  have a4 : x % 4294967296 % 256 = x % 256 := by omega
  unfold be32; rw [a1, a2, a3, a4]
theorem be16_mod (x : Int) : be16 (x % 65536) = [Value.int .u8 (x / 256 % 256), .int .u8 (x % 256)] := by
  have a1 : x % 65536 / 256 = x / 256 % 256 := by omega
  have a2 : x % 65536 % 256 = x % 256 := by omega
  unfold be16; rw [a1, a2]

theorem src_one {w : World} {g : Nat} {u : Value} {T : Nat} {fr : Nat × Nat} (hg : w.heap[g]? = some (.cells #[u] T fr)) (h1 : u.oneCell' = true) {tx e' : TypeId} (hk : Tryz.prog.underlying tx = some (.slice e')) : Src Tryz.prog 1 tx (.slice (some ⟨g, 0, none⟩) 1 1) 1 [u] w := by
  refine SlAt.src (w := w) ⟨rfl, by simpa using h1, .inr ⟨g, 0, 1, rfl, fun j u' hj => ?_⟩⟩ hk
  have : j = 0 := by
    cases j with
    | zero => rfl
    | succ j => simp at hj
  subst this
  simp at hj; subst hj
  simp [World.cell?, hg]

set_option maxRecDepth 100000 in
set_option maxHeartbeats 1000000 in
theorem big4 (x : Int) (w : World) (h0 : -9223372036854775808 ≤ x) (h1 : x ≤ 9223372036854775807) :
    Calls Tryz.prog 22 #[.int .i64 x, .int .i64 4] w fun e w' => ∃ v, e = .returned v ∧ w'.ownsRow 0 5 1 v 4 (be32 (x % 4294967296)) ∧ Kept [] w w' ∧ Fresh w v := by
  go_enter Tryz.func22, Tryz.ntmps22
  go_wp2
  refine wp_loop_rounds 5 ?_
  rw [rounds_succ]
  go_wp2_with (refine wl_app (v := .slice none 0 0) rfl rfl elU8 rfl rfl (World.ownsRow_nil _ _ _ _) (src_one (heap_alloc_new w _) rfl Tryz.underlying28) (by omega) (by omega) ?_; intro v1 w1 ho1 hk1 hd1)
  rw [rounds_succ]
  go_wp2_with (refine wl_app (v := v1) rfl rfl elU8 rfl rfl (ho1.alloc _) (src_one (heap_alloc_new w1 _) rfl Tryz.underlying28) (by omega) (by omega) ?_; intro v2 w2 ho2 hk2 hd2)
  rw [rounds_succ]
  go_wp2_with (refine wl_app (v := v2) rfl rfl elU8 rfl rfl (ho2.alloc _) (src_one (heap_alloc_new w2 _) rfl Tryz.underlying28) (by omega) (by omega) ?_; intro v3 w3 ho3 hk3 hd3)
  rw [rounds_succ]
  go_wp2_with (refine wl_app (v := v3) rfl rfl elU8 rfl rfl (ho3.alloc _) (src_one (heap_alloc_new w3 _) rfl Tryz.underlying28) (by omega) (by omega) ?_; intro v4 w4 ho4 hk4 hd4)
  rw [rounds_succ]
  go_wp2
  go_ret
  obtain ⟨f1, k1⟩ := app_step (Fresh.nil w) ((Kept.refl [] w).alloc _) hk1 hd1
  obtain ⟨f2, k2⟩ := app_step f1 (k1.alloc _) hk2 hd2
  obtain ⟨f3, k3⟩ := app_step f2 (k2.alloc _) hk3 hd3
  obtain ⟨f4, k4⟩ := app_step f3 (k3.alloc _) hk4 hd4
  refine ⟨v4, rfl, ?_, k4, f4⟩
  have e := be32_mod x
  rw [e]
  exact ho4

set_option maxRecDepth 100000 in
set_option maxHeartbeats 1000000 in
theorem big2 (x : Int) (w : World) (h0 : -9223372036854775808 ≤ x) (h1 : x ≤ 9223372036854775807) :
    Calls Tryz.prog 22 #[.int .i64 x, .int .i64 2] w fun e w' => ∃ v, e = .returned v ∧ w'.ownsRow 0 5 1 v 2 (be16 (x % 65536)) ∧ Kept [] w w' ∧ Fresh w v := by
  go_enter Tryz.func22, Tryz.ntmps22
  go_wp2
  refine wp_loop_rounds 3 ?_
  rw [rounds_succ]
  go_wp2_with (refine wl_app (v := .slice none 0 0) rfl rfl elU8 rfl rfl (World.ownsRow_nil _ _ _ _) (src_one (heap_alloc_new w _) rfl Tryz.underlying28) (by omega) (by omega) ?_; intro v1 w1 ho1 hk1 hd1)
  rw [rounds_succ]
  go_wp2_with (refine wl_app (v := v1) rfl rfl elU8 rfl rfl (ho1.alloc _) (src_one (heap_alloc_new w1 _) rfl Tryz.underlying28) (by omega) (by omega) ?_; intro v2 w2 ho2 hk2 hd2)
  rw [rounds_succ]
  go_wp2
  go_ret
  obtain ⟨f1, k1⟩ := app_step (Fresh.nil w) ((Kept.refl [] w).alloc _) hk1 hd1
  obtain ⟨f2, k2⟩ := app_step f1 (k1.alloc _) hk2 hd2
  refine ⟨v2, rfl, ?_, k2, f2⟩
  have e := be16_mod x
  rw [e]
  exact ho2
end Go.Proofs.YticcnlpfmekagaaGreat
