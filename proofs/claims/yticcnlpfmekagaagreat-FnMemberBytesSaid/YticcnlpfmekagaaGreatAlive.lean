import Derived.Test.YticcnlpfmekagaaGreatRange2
namespace Go.Proofs.YticcnlpfmekagaaGreat
open Go Go.Proofs Go.RowKit
set_option linter.unusedVariables false
set_option linter.unusedSimpArgs false

/-! ## groupAlive -/

theorem all_one {cs : List Value} (h : cs.all (·.oneCell') = true) : ∀ u ∈ cs, u.oneCell' = true := fun u hu => (List.all_eq_true.1 h) u hu
theorem row_sl {w : World} {X E n sz : Nat} {cs : List Value} (h : w.heap[X]? = some (.cells cs.toArray E (0, 0))) (hl : cs.length = n * sz) (h1 : ∀ u ∈ cs, u.oneCell' = true) : SlAt w sz (.slice (some ⟨X, 0, none⟩) n n) n cs :=
  ⟨hl, h1, .inr ⟨X, 0, n, rfl, fun j u hj => by rw [Nat.zero_add]; exact (cells_of h).1 j u (by simpa using hj)⟩⟩

theorem one_out {mem tp : ByteArray} {P : PL} {LL : List (List Shr)} (hp : OnePlan mem tp P) (ho : OutOf P (sortedNames [mem]) LL) : ∃ x, LL.flatten = [x] ∧ x.mem = mem ∧ x.top = tp ∧ x.parts = [0, 1] := by
  obtain ⟨r, u, rfl⟩ := hp
  have hs : sortedNames [mem] = [mem] := List.perm_singleton.1 (sortedNames_perm [mem])
  rw [hs] at ho
  obtain ⟨hl, hj⟩ := ho
  obtain ⟨l, rfl⟩ : ∃ l, LL = [l] := by
    match LL, hl with
    | [l], _ => exact ⟨l, rfl⟩
  obtain ⟨r', D, hm, hperm⟩ := hj 0 mem l rfl rfl
  simp only [List.mem_cons, List.not_mem_nil, or_false, Prod.mk.injEq] at hm
  obtain ⟨_, _, rfl⟩ := hm
  have hf : ([(tp, u, [0, 1])] : Tops).filter full = [(tp, u, [0, 1])] := rfl
  rw [hf] at hperm
  have h2 := List.perm_singleton.1 hperm
  have h3 := congrArg List.length h2
  simp only [List.length_map, List.length_cons, List.length_nil] at h3
  obtain ⟨x, rfl⟩ := List.length_eq_one_iff.1 h3
  simp only [List.map_cons, List.map_nil, List.cons.injEq, and_true, trip, tripOf, Prod.mk.injEq] at h2
  exact ⟨x, by simp, h2.1, h2.2.1, h2.2.2⟩

set_option maxRecDepth 100000 in
set_option maxHeartbeats 1000000 in
theorem alive_plan (w W : World) (hW : W = ((((w.alloc (.cells #[.string ⟨#[116]⟩] 9)).alloc (.cells #[.string ⟨#[109]⟩, .int .i16 0, .slice (some ⟨w.heap.size, 0, none⟩) 1 1, .slice none 0 0, .slice none 0 0, .int .i32 0, .string ⟨#[]⟩, .bool false] 30)).alloc (.cells #[.int .i32 0, .int .i32 1] 21)).alloc
      (.cells #[.string ⟨#[]⟩, .string ⟨#[116]⟩, .slice (some ⟨w.heap.size + 1 + 1, 0, none⟩) 2 2] 33))) :
    Calls Tryz.prog 18 #[.int .i64 0, .slice (some ⟨w.heap.size + 1, 0, none⟩) 1 1, .slice (some ⟨w.heap.size + 1 + 1 + 1, 0, none⟩) 1 1] W fun e w' =>
      ∃ x a c, e = .returned (.tuple #[.slice a 1 c, .bool true]) ∧ ShrsAt w' (.slice a 1 c) [x] ∧ x.mem = ⟨#[109]⟩ ∧ x.parts = [0, 1] ∧ Kept [] w w' := by
  have hk : Kept [] w W := by subst hW; exact ((((Kept.refl _ _).alloc _).alloc _).alloc _).alloc _
  have hb0 : W.heap[w.heap.size]? = some (.cells #[.string ⟨#[116]⟩] 9 (0, 0)) := by subst hW; exact ha (ha (ha (heap_alloc_new w _)))
  have hb1 : W.heap[w.heap.size + 1]? = some (.cells #[.string ⟨#[109]⟩, .int .i16 0, .slice (some ⟨w.heap.size, 0, none⟩) 1 1, .slice none 0 0, .slice none 0 0, .int .i32 0, .string ⟨#[]⟩, .bool false] 30 (0, 0)) := by
    subst hW; have := heap_alloc_new (w.alloc (.cells #[.string ⟨#[116]⟩] 9)) (.cells #[.string ⟨#[109]⟩, .int .i16 0, .slice (some ⟨w.heap.size, 0, none⟩) 1 1, .slice none 0 0, .slice none 0 0, .int .i32 0, .string ⟨#[]⟩, .bool false] 30)
    rw [World.size_alloc] at this; exact ha (ha this)
  have hb2 : W.heap[w.heap.size + 1 + 1]? = some (.cells #[.int .i32 0, .int .i32 1] 21 (0, 0)) := by
    subst hW; have := heap_alloc_new ((w.alloc (.cells #[.string ⟨#[116]⟩] 9)).alloc (.cells #[.string ⟨#[109]⟩, .int .i16 0, .slice (some ⟨w.heap.size, 0, none⟩) 1 1, .slice none 0 0, .slice none 0 0, .int .i32 0, .string ⟨#[]⟩, .bool false] 30)) (.cells #[.int .i32 0, .int .i32 1] 21)
    rw [World.size_alloc, World.size_alloc] at this; exact ha this
  have hb3 : W.heap[w.heap.size + 1 + 1 + 1]? = some (.cells #[.string ⟨#[]⟩, .string ⟨#[116]⟩, .slice (some ⟨w.heap.size + 1 + 1, 0, none⟩) 2 2] 33 (0, 0)) := by
    subst hW; have := heap_alloc_new (((w.alloc (.cells #[.string ⟨#[116]⟩] 9)).alloc (.cells #[.string ⟨#[109]⟩, .int .i16 0, .slice (some ⟨w.heap.size, 0, none⟩) 1 1, .slice none 0 0, .slice none 0 0, .int .i32 0, .string ⟨#[]⟩, .bool false] 30)).alloc (.cells #[.int .i32 0, .int .i32 1] 21)) (.cells #[.string ⟨#[]⟩, .string ⟨#[116]⟩, .slice (some ⟨w.heap.size + 1 + 1, 0, none⟩) 2 2] 33)
    rw [World.size_alloc, World.size_alloc, World.size_alloc] at this; exact this
  clear hW
  have hms : MemsAt W (.slice (some ⟨w.heap.size + 1, 0, none⟩) 1 1) [⟨⟨#[109]⟩, 0, .slice (some ⟨w.heap.size, 0, none⟩) 1 1, [⟨#[116]⟩], .slice none 0 0, [], .slice none 0 0, [], 0, ⟨#[]⟩, false⟩] := by
    refine ⟨⟨_, _, rfl⟩, row_sl hb1 rfl (all_one rfl), fun m hm => ?_⟩
    simp only [List.mem_cons, List.not_mem_nil, or_false] at hm
    subst hm
    exact ⟨⟨⟨_, _, rfl⟩, row_sl hb0 rfl (all_one rfl)⟩, ⟨⟨_, _, rfl⟩, SlAt.nil _ _⟩, ⟨⟨_, _, rfl⟩, SlAt.nil _ _, by simp⟩⟩
  have hts : ShrsAt W (.slice (some ⟨w.heap.size + 1 + 1 + 1, 0, none⟩) 1 1) [⟨⟨#[]⟩, ⟨#[116]⟩, .slice (some ⟨w.heap.size + 1 + 1, 0, none⟩) 2 2, [0, 1]⟩] := by
    refine ⟨⟨_, _, rfl⟩, row_sl hb3 rfl (all_one rfl), fun x hx => ?_⟩
    simp only [List.mem_cons, List.not_mem_nil, or_false] at hx
    subst hx
    exact ⟨⟨_, _, rfl⟩, row_sl hb2 rfl (all_one rfl), by simp [isI32]⟩
  have h := groupPlan_any 0 (by omega) 182 planMeth0 (some ⟨w.heap.size + 1, 0, none⟩) 1 [⟨⟨#[109]⟩, 0, .slice (some ⟨w.heap.size, 0, none⟩) 1 1, [⟨#[116]⟩], .slice none 0 0, [], .slice none 0 0, [], 0, ⟨#[]⟩, false⟩] (some ⟨w.heap.size + 1 + 1 + 1, 0, none⟩) 1 [⟨⟨#[]⟩, ⟨#[116]⟩, .slice (some ⟨w.heap.size + 1 + 1, 0, none⟩) 2 2, [0, 1]⟩] (OnePlan ⟨#[109]⟩ ⟨#[116]⟩) W hms (by
      intro m hm; simp only [List.mem_cons, List.not_mem_nil, or_false] at hm; subst hm; exact ⟨rfl, rfl, by simp, by simp⟩)
    (by simp [ids]) (by simp) (by simp) hts (by simp) (by simp) (by simp) (fun w' _ => planC_range w' _ _ _ rfl rfl)
    (by
      rintro P ⟨r, u, rfl⟩ m hm
      simp only [List.mem_cons, List.not_mem_nil, or_false] at hm
      subst hm
      exact ⟨r, _, List.mem_cons_self .., by simp, by simp⟩)
  refine h.mono ?_
  rintro e w' ⟨P, LL, a, c, rfl, hp, ho, hsh, _, _, hk2⟩
  obtain ⟨x, hx, h1, _, h3⟩ := one_out hp ho
  rw [hx] at hsh
  exact ⟨x, a, c, by rw [hx]; rfl, hsh, h1, h3, hk.trans hk2 (by simp) (by simp)⟩

set_option maxRecDepth 100000 in
set_option maxHeartbeats 1000000 in
theorem alive (w : World) : Calls Tryz.prog 14 #[] w fun e w' => e = .returned (.bool true) ∧ Kept [] w w' := by
  have hp := alive_plan w _ rfl
  have HP := Lib.hid hp; clear hp
  have hq := partition_alive
  have HQ := Lib.hid hq; clear hq
  go_enter Tryz.func14, Tryz.ntmps14
  go_wp2_with (first
    | (go_at_call 18
       refine HP.out.mono ?_
       rintro e w1 ⟨x, a, c, rfl, hsh, hm, hparts, hk1⟩
       obtain ⟨-, hcase⟩ := hsh.cells.cases
       obtain ⟨g, off, rfl, hcell⟩ : ∃ g off, a = some ⟨g, off, none⟩ ∧ ∀ j u, ([x].flatMap shrCells)[j]? = some u → w1.cell? ⟨g, off + j, none⟩ = some u := by
         rcases hcase with ⟨_, h0, _⟩ | ⟨g, off, h, hc⟩
         · simp at h0
         · exact ⟨g, off, h, hc⟩
       obtain ⟨⟨pa, pc, hval⟩, -⟩ := hsh.parts x (List.mem_cons_self ..)
       rw [hparts] at hval
       have c0 : w1.cell? ⟨g, off, none⟩ = some (.string ⟨#[109]⟩) := by rw [← hm]; exact hcell 0 _ rfl
       have c2 : w1.cell? ⟨g, off + 2, none⟩ = some (.slice pa 2 pc) := by have := hcell 2 x.val rfl; rw [hval] at this; exact this
       have HC := Lib.hid (And.intro c0 c2); clear c0 c2 hcell hcase hsh hm hparts hval)
    | (go_at_call 38
       refine (HQ.out _).mono ?_
       rintro e w2 ⟨rfl, hk2⟩
       have d0 := hk2.cell HC.out.1 (by simp)
       have d2 := hk2.cell HC.out.2 (by simp)
       have hk12 : Kept [] w w2 := hk1.trans hk2 (by simp) (by simp))
    | fail)
  go_ret
  exact ⟨rfl, hk12⟩
end Go.Proofs.YticcnlpfmekagaaGreat
