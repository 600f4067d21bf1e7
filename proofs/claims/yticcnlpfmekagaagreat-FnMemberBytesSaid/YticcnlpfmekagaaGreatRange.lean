import Derived.Test.YticcnlpfmekagaaGreatGroup2
namespace Go.Proofs.YticcnlpfmekagaaGreat
open Go Go.Proofs Go.RowKit
set_option linter.unusedVariables false
set_option linter.unusedSimpArgs false

/-! ## the plan by ranges, of one member and one topic -/

set_option maxRecDepth 100000 in
set_option maxHeartbeats 1000000 in
theorem add_one (p : Nat) (m t : ByteArray) (a : Option Addr) (c : Nat) (xs : List Int) (w : World) (hp : MapAt w isStr p []) (hx : SlInts w (.slice a xs.length c) xs) (h1 : 1 ≤ xs.length) (h2 : xs.length ≤ 1000) :
    Calls Tryz.prog 93 #[.map (some p), .string m, .string t, .slice a xs.length c] w fun e w' => e = .returned (.tuple #[]) ∧ (∃ r v, PlanAt w' p [(m, r, [(t, v, xs)])] ∧ w.heap.size ≤ r ∧ (∀ g, v.ownBlock = some g → w.heap.size ≤ g ∧ g < w'.heap.size)) ∧ Kept [p] w w' := by
  have hpl := hp.lt
  have hmk : ∀ w : World, (Instr.makeMap 90 (some (.int .i64 1))).run Tryz.prog w = .ok (.map (some w.heap.size)) (w.alloc (.map #[] 0)) := fun w => by
    simp [Instr.makeMap, go_sem]
  have hlk := map_lookup_miss (P := Tryz.prog) hp (keyT_str Tryz.underlying9) Tryz.underlying82 (k := .string m) ⟨_, rfl⟩ (by simp) (Tryz.zeroValue90 w) true
  simp only [if_true] at hlk
  have HP := Lib.hid hp; clear hp
  have HX := Lib.hid hx; clear hx
  have hne : ¬ ((xs.length : Int) = 0) := by omega
  go_enter Tryz.func93, Tryz.ntmps93
  go_upto_region 4 with (first | (refine wl_update (kv := .string m) (vv := .map (some w.heap.size)) rfl rfl rfl rfl rfl (keyT_str Tryz.underlying9) Tryz.underlying82 (HP.out.alloc _) ⟨_, rfl⟩ ?_; intro w2 hm2 hk2 hs2) | fail)
  rw [putE_miss (by simp), List.nil_append] at hm2
  have hpr : w.heap.size ≠ p := by omega
  have hr2 : MapAt w2 isStr w.heap.size [] := (MapAt.new w isStr).kept hk2 (by simp; omega)
  have hk02 : Kept [p] w w2 := ((Kept.refl [p] w).alloc _).trans hk2 (by simp) (by simp)
  have hl1 : ∀ w', MapAt w' isStr p [(.string m, .map (some w.heap.size))] → (Instr.lookup 82 (.map (some p)) (.string m) false).run Tryz.prog w' = .ok (.map (some w.heap.size)) w' := fun w' h' => by
    have h1 := map_lookup_hit (P := Tryz.prog) h' (keyT_str Tryz.underlying9) Tryz.underlying82 (k := .string m) (v := .map (some w.heap.size)) (by simp) false
    simpa using h1
  have hl2 := map_lookup_miss (P := Tryz.prog) (w := w2.drew) hr2.drew (keyT_str Tryz.underlying9) Tryz.underlying90 (k := .string t) ⟨_, rfl⟩ (by simp) (Tryz.zeroValue31 _) false
  simp only [Bool.false_eq_true, if_false] at hl2
  have hgp : ∀ g, (Value.slice a xs.length c).ownBlock = some g → g ≠ p := by
    rintro g hg rfl
    obtain ⟨_, hcase⟩ := HX.out.2.1.cases
    rcases hcase with ⟨_, h0, _⟩ | ⟨g', off, rfl, hcell⟩
    · omega
    · simp only [Value.ownBlock, Option.some.injEq] at hg
      subst hg
      obtain ⟨es, ck, hh, _⟩ := HP.out
      have := hcell 0 (.int .i32 xs[0]) (by simp [i32s])
      simp [World.cell?, hh] at this
  have hsl2 := HX.out.2.1.kept hk02 (fun g hg => by have := hgp g hg; simpa using this)
  have hsrc := (SlAt.drew hsl2).src Tryz.underlying31
  have HSRC := Lib.hid hsrc; clear hsrc
  have HR2 := Lib.hid hr2; clear hr2
  have hs02 := hk02.size
  have hs2' := hs2
  simp only [World.size_alloc] at hs2'
  go_region_held3 (fun w' => MapAt w' isStr p [(.string m, .map (some w.heap.size))])
    (first | exact hm4 | exact hm3 | exact hm2.drew | fail)
    (first
      | (refine sl_app (v := .slice none 0 0) rfl rfl elI32 rfl rfl (own_nil _ _) HSRC.out (by omega) (by omega) ?_
         intro v' w3 hown3 hk3 hd3
         have hk3' : Kept [] w2 w3 := by simpa [Value.ownBlock] using hk3.of_drew
         have hm3 := hm2.kept hk3' (by simp)
         have hr3 := HR2.out.kept hk3' (by simp))
      | (refine up_update (fun _ _ => rfl) (keyT_str Tryz.underlying9) Tryz.underlying90 hr3 ⟨_, rfl⟩ ?_
         intro w4 hm5 hk4 hs4
         have hm4 := hm3.kept hk4 (by simp; omega))
      | fail)
  all_goals
    go_end0
    rw [putE_miss (by simp)] at hm5
    rw [List.nil_append, Nat.zero_add] at hown3
    have hs3 := hk3'.size
    have hvo : ∀ g, v'.ownBlock = some g → g = w2.heap.size ∧ g < w3.heap.size := fun g hg => by
      rcases hd3 with ⟨h1, h2⟩ | ⟨h1, h2⟩
      · rw [h1] at hg; simp [Value.ownBlock] at hg
      · rw [h1] at hg; simp only [Option.some.injEq, World.size_drew] at hg h2; omega
    refine ⟨rfl, ⟨w.heap.size, v', ⟨by simpa [rawP] using hm4, fun x hx => ?_⟩, Nat.le_refl _, fun g hg => by have := hvo g hg; omega⟩, ?_⟩
    · simp only [List.mem_cons, List.not_mem_nil, or_false] at hx
      subst hx
      refine ⟨by simpa [rawT] using hm5, fun y hy => ?_⟩
      simp only [List.mem_cons, List.not_mem_nil, or_false] at hy
      subst hy
      have hsl3 := own_sl hown3 (by intro u hu; obtain ⟨z, _, rfl⟩ := List.mem_map.1 hu; rfl)
      refine SlInts.kept ⟨?_, hsl3, HX.out.2.2⟩ hk4 (fun g hg => by have := hvo g hg; simp; omega)
      rcases hsl3.2.2 with ⟨a', c', e1, e2⟩ | ⟨g', off', c', e1, _⟩
      · rw [e1, e2]; exact ⟨_, _, rfl⟩
      · rw [e1]; exact ⟨_, _, rfl⟩
    · exact (hk02.trans hk3' (U := [p]) (by simp) (by simp)).trans hk4 (by simp) (by simp <;> omega)

set_option maxRecDepth 100000 in
set_option maxHeartbeats 400000 in
theorem min_zero (w : World) : Calls Tryz.prog 92 #[.float .f64 0, .float .f64 0] w fun e w' => e = .returned (.float .f64 0) ∧ w = w' := by
  have ha : ∀ w : World, (callFunc 118 #[.float .f64 0, .float .f64 0]).run Tryz.prog w = .ok (.value (.float .f64 0)) w := fun w => by kernel_rfl
  go_enter Tryz.func92, Tryz.ntmps92
  go_wp2
  go_ret
  exact ⟨rfl, rfl⟩

set_option maxRecDepth 100000 in
set_option maxHeartbeats 400000 in
theorem sort_strings_one (v : Value) (m : ByteArray) (w : World) (hown : w.ownsRow 0 9 1 v 1 (strs [m])) : ∃ g c, v = .slice (some ⟨g, 0, none⟩) 1 c ∧ g < w.heap.size ∧
    Calls Tryz.prog 91 #[v] w fun e w' => e = .returned (.tuple #[]) ∧ w'.ownsRow 0 9 1 v 1 (strs [m]) ∧ Kept [g] w w' := by
  obtain ⟨g, c, rfl, hg, hs⟩ := sort_names v 1 [m] w hown (Nat.le_refl _) (by omega)
  have h1 : sortedNames [m] = [m] := by
    have := sortedNames_perm [m]
    exact List.perm_singleton.1 this
  rw [h1] at hs
  have HS := Lib.hid hs; clear hs
  refine ⟨g, c, rfl, hg, ?_⟩
  clear hown h1
  go_enter Tryz.func91, Tryz.ntmps91
  go_wp2_with (go_at_call 48; refine HS.out.mono ?_; rintro e w1 ⟨rfl, h2, h3⟩)
  go_end0
  exact ⟨rfl, h2, h3⟩

set_option maxRecDepth 100000 in
set_option maxHeartbeats 1000000 in
theorem range_core (p : Nat) (m t : ByteArray) (v : Value) (a : Option Addr) (c : Nat) (w : World) (hp : MapAt w isStr p []) (hx : SlInts w (.slice a 2 c) [0, 1]) (hc : 2 ≤ c) (hown : w.ownsRow 0 9 1 v 1 (strs [m])) (hvp : ∀ g, v.ownBlock = some g → g ≠ p ∧ ∀ g', a.map (·.block) = some g' → g ≠ g') :
    Calls Tryz.prog 90 #[.map (some p), v, .string t, .slice a 2 c] w fun e w' => e = .returned (.tuple #[]) ∧ (∃ r u, PlanAt w' p [(m, r, [(t, u, [0, 1])])] ∧ w.heap.size ≤ r ∧ (∀ g, u.ownBlock = some g → w.heap.size ≤ g ∧ g < w'.heap.size)) ∧ Kept (p :: v.ownBlock.toList) w w' := by
  obtain ⟨g, cn, rfl, hg, hsort⟩ := sort_strings_one v m w hown
  have hcv : ∀ w : World, (convert 3 161 (.int .i64 0)).run Tryz.prog w = .ok (.float .f64 0) w := fun w => by kernel_rfl
  have hcw : ∀ w : World, (convert 161 3 (.float .f64 0)).run Tryz.prog w = .ok (.int .i64 0) w := fun w => by kernel_rfl
  have HS := Lib.hid hsort; clear hsort
  have HX := Lib.hid hx; clear hx
  have HP := Lib.hid hp; clear hp
  have hvp' := hvp g rfl
  obtain ⟨ga, off, rfl⟩ : ∃ ga off, a = some ⟨ga, off, none⟩ := by
    obtain ⟨_, hcase⟩ := HX.out.2.1.cases
    rcases hcase with ⟨_, h0, _⟩ | ⟨g', off, h, _⟩
    · simp at h0
    · exact ⟨g', off, h⟩
  have hga : g ≠ ga := hvp'.2 ga rfl
  have hgp := hvp'.1
  have hci : (2 : Int) ≤ (c : Int) := by omega
  clear hvp hvp'
  go_enter Tryz.func90, Tryz.ntmps90
  go_upto_region 3 with (first | (go_at_call 91; refine HS.out.mono ?_; rintro e w1 ⟨rfl, hown1, hk1⟩) | fail)
  have hp1 := HP.out.kept hk1 (by simp; exact fun h => hgp h.symm)
  have hx1 := HX.out.kept hk1 (fun g' hg' => by simp only [Value.ownBlock, Option.some.injEq] at hg'; subst hg'; simp; exact fun h => hga h.symm)
  have hnm : w1.cell? ⟨g, 0, none⟩ = some (.string m) := by
    have h1 := (own_sl hown1 (strs_one _)).cell (j := 0) (u := .string m) rfl
    simpa using h1
  have hadd : ∀ c', Calls Tryz.prog 93 #[.map (some p), .string m, .string t, .slice (some ⟨ga, off, none⟩) 2 c'] w1 _ := fun c' => add_one p m t (some ⟨ga, off, none⟩) c' [0, 1] w1 hp1 ⟨⟨_, _, rfl⟩, ⟨hx1.2.1.1, hx1.2.1.2.1, .inr ⟨ga, off, c', rfl, fun j u hj => hx1.2.1.cell hj⟩⟩, hx1.2.2⟩ (by simp) (by simp)
  have HADD := Lib.hid hadd; clear hadd
  have hs1 := hk1.size
  have HK1 := Lib.hid hk1; clear hk1
  clear hp1 hx1 hown1
  go_wp2_with fail
  go_loopw [29] (fun i wr => (i = .int .i64 0 ∧ wr = w1) ∨ (i = .int .i64 1 ∧ ((∃ r u, PlanAt wr p [(m, r, [(t, u, [0, 1])])] ∧ w.heap.size ≤ r ∧ (∀ g, u.ownBlock = some g → w.heap.size ≤ g ∧ g < wr.heap.size)) ∧ Kept [p, g] w wr))) (fun i _ => 1 - (intOf i).toNat)
  case atStart => exact .inl ⟨rfl, rfl⟩
  case round =>
    rcases hrel with ⟨rfl, rfl⟩ | ⟨rfl, hpost⟩
    · have hmin := min_zero
      have HMIN := Lib.hid hmin; clear hmin
      go_wp2_with (first
        | (go_at_call 92; refine (HMIN.out _).mono ?_; rintro e w2 ⟨rfl, rfl⟩)
        | (go_at_call 93; refine (HADD.out _).mono ?_; rintro e w3 ⟨rfl, ⟨r, u, hpl, hr, hu⟩, hk3⟩)
        | fail)
      refine ⟨.inr ⟨rfl, ⟨r, u, hpl, by omega, fun g' hg' => by have := hu g' hg'; omega⟩, HK1.out.trans hk3 (by simp) (by simp)⟩, by simp [intOf]⟩
    · have HPO := Lib.hid hpost; clear hpost
      go_wp2_with fail
      go_end0
      exact ⟨rfl, HPO.out.1, by simpa [Value.ownBlock] using HPO.out.2⟩
end Go.Proofs.YticcnlpfmekagaaGreat
