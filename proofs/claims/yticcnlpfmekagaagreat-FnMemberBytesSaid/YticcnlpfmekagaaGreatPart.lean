import Derived.Test.YticcnlpfmekagaaGreatFits
namespace Go.Proofs.YticcnlpfmekagaaGreat
open Go Go.Proofs Go.RowKit
set_option linter.unusedVariables false
set_option linter.unusedSimpArgs false

/-! ## Partition, as groupAlive asks it -/

set_option maxRecDepth 100000 in
set_option maxHeartbeats 400000 in
theorem copied_nil (w : World) : Calls Tryz.prog 58 #[.slice none 0 0] w fun e w' => (∃ a n c, e = .returned (.slice a n c)) ∧ Kept [] w w' := by
  have hsrc : Src Tryz.prog 1 28 (.slice none 0 0) 0 [] (w.alloc (.cells #[] 5)) := (SlAt.nil _ _).src Tryz.underlying28
  go_enter Tryz.func58, Tryz.ntmps58
  go_wp2_with (refine wl_app (v := .slice (some ⟨w.heap.size, 0, none⟩) 0 0) rfl rfl elU8 rfl rfl (own_new 5 1) hsrc (by omega) (by omega) ?_; intro v' w1 hown hk hd)
  go_ret
  obtain ⟨a', n', c', rfl⟩ := own_form hown
  exact ⟨⟨_, _, _, rfl⟩, ((Kept.refl [] w).alloc _).trans hk (by simp) (by simp [Value.ownBlock])⟩

set_option maxRecDepth 100000 in
set_option maxHeartbeats 400000 in
theorem partitioner4 (w : World) : Calls Tryz.prog 71 #[.int .i64 4] w fun e w' => e = .returned (.iface 231 (.pointer (some ⟨w.heap.size, 0, none⟩))) ∧ w' = w.alloc (.cells #[] 232) := by
  have h89 : ∀ w : World, Calls Tryz.prog 89 #[.string ⟨#[116]⟩] w fun e w' => e = .returned (.iface 231 (.pointer (some ⟨w.heap.size, 0, none⟩))) ∧ w' = w.alloc (.cells #[] 232) := by
    intro w
    go_enter Tryz.func89, Tryz.ntmps89
    go_wp2
    go_ret
    exact ⟨rfl, rfl⟩
  go_enter Tryz.func71, Tryz.ntmps71
  go_wp2_with (go_at_call 89; refine (h89 _).mono ?_; rintro e w1 ⟨rfl, rfl⟩)
  go_ret
  exact ⟨rfl, rfl⟩

theorem partMeth : IsMeth 231 "Partition" 358 := ⟨fun a w => by kernel_rfl, fun a w => by kernel_rfl, fun a w => by kernel_rfl⟩

set_option maxRecDepth 100000 in
set_option maxHeartbeats 400000 in
theorem manual_partition (a : Addr) (m : Nat) (x n : Int) (w : World) (hm : w.cell? ⟨m, 3, none⟩ = some (.int .i32 x)) :
    Calls Tryz.prog 358 #[.pointer (some a), .pointer (some ⟨m, 0, none⟩), .int .i32 n] w fun e w' => e = .returned (.tuple #[.int .i32 x, .nilIface]) ∧ w = w' := by
  go_enter Tryz.func358, Tryz.ntmps358
  go_wp2
  go_ret2
  exact ⟨rfl, rfl⟩

set_option maxRecDepth 100000 in
set_option maxHeartbeats 1000000 in
theorem part_closure (b : Nat) (w : World)
    (hc : w.cell? ⟨b, 0, none⟩ = some (.int .i64 4) ∧ w.cell? ⟨b + 1, 0, none⟩ = some (.slice none 0 0) ∧ w.cell? ⟨b + 2, 0, none⟩ = some (.int .i32 3) ∧ w.cell? ⟨b + 3, 0, none⟩ = some (.int .i32 5))
    (hd : w.cell? ⟨b + 4, 0, none⟩ = some (.int .i32 0) ∧ w.cell? ⟨b + 5, 0, none⟩ = some (.bool false) ∧ w.frozen? ⟨b + 4, 0, none⟩ = false ∧ w.frozen? ⟨b + 5, 0, none⟩ = false) (hlt : b + 5 < w.heap.size) :
    Calls Tryz.prog 70 #[.pointer (some ⟨b + 2, 0, none⟩), .pointer (some ⟨b + 1, 0, none⟩), .pointer (some ⟨b, 0, none⟩), .pointer (some ⟨b + 3, 0, none⟩), .pointer (some ⟨b + 4, 0, none⟩), .pointer (some ⟨b + 5, 0, none⟩)] w fun e w' =>
      e = .returned (.tuple #[]) ∧ (w'.cell? ⟨b + 4, 0, none⟩ = some (.int .i32 3) ∧ w'.cell? ⟨b + 5, 0, none⟩ = some (.bool true) ∧ w'.frozen? ⟨b + 4, 0, none⟩ = false ∧ w'.frozen? ⟨b + 5, 0, none⟩ = false) ∧ Kept [b + 4, b + 5] w w' := by
  have hS : ∀ w', Kept [] w w' → w'.cell? ⟨b, 0, none⟩ = some (.int .i64 4) ∧ w'.cell? ⟨b + 1, 0, none⟩ = some (.slice none 0 0) ∧ w'.cell? ⟨b + 2, 0, none⟩ = some (.int .i32 3) ∧ w'.cell? ⟨b + 3, 0, none⟩ = some (.int .i32 5) := fun w' k =>
    ⟨k.cell hc.1 (by simp), k.cell hc.2.1 (by simp), k.cell hc.2.2.1 (by simp), k.cell hc.2.2.2 (by simp)⟩
  have hS2 : ∀ w', Kept [] w w' → w'.cell? ⟨b + 4, 0, none⟩ = some (.int .i32 0) ∧ w'.cell? ⟨b + 5, 0, none⟩ = some (.bool false) ∧ w'.frozen? ⟨b + 4, 0, none⟩ = false ∧ w'.frozen? ⟨b + 5, 0, none⟩ = false := fun w' k =>
    ⟨k.cell hd.1 (by simp), k.cell hd.2.1 (by simp), k.frz hd.2.2.1 (by simp; omega) (by simp), k.frz hd.2.2.2 (by simp; omega) (by simp)⟩
  have hmt := partMeth.m
  have hnl := partMeth.n
  have hcf := partMeth.c
  have HS := Lib.hid hS; clear hS
  have HS2 := Lib.hid hS2; clear hS2
  clear hc hd
  go_enter Tryz.func70, Tryz.ntmps70
  go_wp2
  go_region_held3 (fun w' => w'.cell? ⟨b, 0, none⟩ = some (.int .i64 4) ∧ w'.cell? ⟨b + 1, 0, none⟩ = some (.slice none 0 0) ∧ w'.cell? ⟨b + 2, 0, none⟩ = some (.int .i32 3) ∧ w'.cell? ⟨b + 3, 0, none⟩ = some (.int .i32 5))
    (first | exact HS.out _ (Kept.refl _ _).drew | exact HS.out _ hk1' | exact HS.out _ (hk1'.alloc _))
    (first | (go_at_call 58; refine (copied_nil _).mono ?_; rintro e w1 ⟨⟨a, n, c, rfl⟩, hk1⟩; have hk1' : Kept [] w w1 := hk1.of_drew))
  go_wp2
  have hka := hk1'.alloc (.cells #[.string ⟨#[]⟩, .iface 138 (.slice a n c), .nilIface, .int .i32 3] 142)
  have hm3 : (w1.alloc (.cells #[.string ⟨#[]⟩, .iface 138 (.slice a n c), .nilIface, .int .i32 3] 142)).cell? ⟨w1.heap.size, 3, none⟩ = some (.int .i32 3) := by simp [go_sem]
  go_region_held3 (fun w' => w'.cell? ⟨b, 0, none⟩ = some (.int .i64 4) ∧ w'.cell? ⟨b + 3, 0, none⟩ = some (.int .i32 5))
    (first | exact ⟨(HS.out _ hka.drew).1, (HS.out _ hka.drew).2.2.2⟩ | exact ⟨(HS.out _ (hka.drew.alloc _)).1, (HS.out _ (hka.drew.alloc _)).2.2.2⟩ | go_keep)
    (first | (go_at_call 71; refine (partitioner4 _).mono ?_; rintro e w2 ⟨rfl, rfl⟩)
           | (go_at_call 358; refine (manual_partition _ _ 3 _ _ (ca (cd hm3))).mono ?_; rintro e w2 ⟨rfl, rfl⟩))
  obtain ⟨c4, c5, f4, f5⟩ := HS2.out _ (hka.alloc (.cells #[] 232)).drew
  have hk6 : Kept [b + 4, b + 5] w ((((w1.alloc (.cells #[.string ⟨#[]⟩, .iface 138 (.slice a n c), .nilIface, .int .i32 3] 142)).alloc (.cells #[] 232)).drew.setCell ⟨b + 4, 0, none⟩ (.int .i32 3)).setCell ⟨b + 5, 0, none⟩ (.bool true)) :=
    (((hka.alloc (.cells #[] 232)).drew.trans (Kept.refl [] _) (U := [b + 4, b + 5]) (by simp) (by simp)).setCell _ (by simp)).setCell _ (by simp)
  have HK := Lib.hid hk6; clear hk6
  generalize hw2 : ((w1.alloc (.cells #[.string ⟨#[]⟩, .iface 138 (.slice a n c), .nilIface, .int .i32 3] 142)).alloc (.cells #[] 232)).drew = w2 at *
  go_wp2
  go_region_held3 (fun w' => w'.frozen? ⟨b + 4, 0, none⟩ = false ∧ w'.frozen? ⟨b + 5, 0, none⟩ = false)
    (first | exact ⟨f4, f5⟩ | go_keep)
    (fail)
  go_end0
  refine ⟨rfl, ⟨?_, ?_, ?_, ?_⟩, HK.out.drew⟩
  · simp [go_sem, c4]
  · simp [go_sem, c5]
  · simp [go_sem, f4]
  · simp [go_sem, f5]

theorem hasBody70 : HasBody 70 := by unfold HasBody; intro a w; kernel_rfl

set_option maxRecDepth 100000 in
set_option maxHeartbeats 1000000 in
theorem partition_alive (w : World) : Calls Tryz.prog 38 #[.int .i64 4, .slice none 0 0, .int .i32 3, .int .i32 5] w fun e w' => e = .returned (.tuple #[.int .i32 3, .bool true]) ∧ Kept [] w w' := by
  have hclo : ∀ w0 : World, w0 = ((((((w.alloc (.cells #[.int .i64 4] 3)).alloc (.cells #[.slice none 0 0] 28)).alloc (.cells #[.int .i32 3] 21)).alloc (.cells #[.int .i32 5] 21)).alloc (.cells #[.int .i32 0] 21)).alloc (.cells #[.bool false] 4)) →
      Kept [] w w0 ∧ w0.heap.size = w.heap.size + 6 ∧ _ := fun w0 e => ⟨by subst e; exact ((((((Kept.refl [] w).alloc _).alloc _).alloc _).alloc _).alloc _).alloc _, by subst e; simp,
      safe_any 70 #[.pointer (some ⟨w.heap.size + 2, 0, none⟩), .pointer (some ⟨w.heap.size + 1, 0, none⟩), .pointer (some ⟨w.heap.size, 0, none⟩), .pointer (some ⟨w.heap.size + 3, 0, none⟩), .pointer (some ⟨w.heap.size + 4, 0, none⟩), .pointer (some ⟨w.heap.size + 5, 0, none⟩)] w0
        (fun w' => w'.cell? ⟨w.heap.size + 4, 0, none⟩ = some (.int .i32 3) ∧ w'.cell? ⟨w.heap.size + 5, 0, none⟩ = some (.bool true) ∧ w'.frozen? ⟨w.heap.size + 4, 0, none⟩ = false ∧ w'.frozen? ⟨w.heap.size + 5, 0, none⟩ = false) [w.heap.size + 4, w.heap.size + 5] hasBody70 (by subst e; simp) (by
          refine part_closure w.heap.size _ ?_ ?_ ?_
          · subst e; simp [go_sem]
          · subst e; simp [go_sem]
          · subst e; simp)⟩
  obtain ⟨hk0, hs0, hsafe⟩ := hclo _ rfl
  have HSF := Lib.hid hsafe; clear hsafe hclo
  go_enter Tryz.func38, Tryz.ntmps38
  go_wp2_with
    (go_at_call 43
     refine (HSF.out).mono ?_
     rintro e w2 ⟨rfl, w1, ⟨c4, c5, f4, f5⟩, hk1, hk2⟩
     have hs1 := hk1.size
     rw [hs0] at hk2 hs1
     have d4 : w2.cell? ⟨w.heap.size + 1 + 1 + 1 + 1, 0, none⟩ = some (.int .i32 3) := hk2.cell c4 (by simp)
     have d5 : w2.cell? ⟨w.heap.size + 1 + 1 + 1 + 1 + 1, 0, none⟩ = some (.bool true) := hk2.cell c5 (by simp)
     have e4 : w2.frozen? ⟨w.heap.size + 1 + 1 + 1 + 1, 0, none⟩ = false := hk2.frz f4 (by simp; omega) (by simp)
     have e5 : w2.frozen? ⟨w.heap.size + 1 + 1 + 1 + 1 + 1, 0, none⟩ = false := hk2.frz f5 (by simp; omega) (by simp)
     clear c4 c5 f4 f5)
  have k12 : Kept [] w w2 := (hk0.trans hk1 (U := []) (by simp) (by simp <;> omega)).trans hk2 (by simp) (by simp <;> omega)
  have k3 : Kept [w.heap.size + 4, w.heap.size + 5] w2 ((w2.setCell ⟨w.heap.size + 1 + 1 + 1 + 1, 0, none⟩ (.int .i32 3)).setCell ⟨w.heap.size + 1 + 1 + 1 + 1 + 1, 0, none⟩ (.bool true)) :=
    ((Kept.refl _ _).setCell _ (by simp)).setCell _ (by simp)
  have hend2 := k12.trans k3 (U := []) (by simp) (by simp <;> omega)
  simp [bodyPost, results, Tryz.results38, go_sem, d4, d5]
  exact hend2
end Go.Proofs.YticcnlpfmekagaaGreat
