import Derived.Test.YticcnlpfmekagaaGreatData
namespace Go.Proofs.YticcnlpfmekagaaGreat
open Go Go.Proofs Go.RowKit
set_option linter.unusedVariables false
set_option linter.unusedSimpArgs false

theorem SlAt.form {w : World} {sz n : Nat} {v : Value} {cs : List Value} (h : SlAt w sz v n cs) : ∃ a n c, v = .slice a n c := by
  rcases h.2.2 with ⟨a, c, h, _⟩ | ⟨b, o, c, h, _⟩
  · exact ⟨_, _, _, h⟩
  · exact ⟨_, _, _, h⟩
theorem hasBody50 : HasBody 50 := by unfold HasBody; intro a w; kernel_rfl

set_option maxRecDepth 100000 in
set_option maxHeartbeats 1000000 in
theorem groupData_any (n : Nat) (hn : n < 4) (mem : ByteArray) (a : Option Addr) (c : Nat) (L : List Shr) (gen : Int) (w : World) (hv : ShrsAt w (.slice a L.length c) L) (hl : L.length ≤ 1000) (hnd : (L.map (·.top)).Nodup) (hsz : ∀ x ∈ L, x.parts.length ≤ 1000) (htop : ∀ x ∈ L, x.top.size ≤ 1000) (hg : isI32 gen)
    (hroom : ∀ D, tops2 D = L.map topOf → (encV1 D gen).length ≤ 1000000) :
    Calls Tryz.prog 21 #[.int .i64 n, .string mem, .slice a L.length c, .int .i32 gen] w fun e w' =>
      ∃ u D cs, e = .returned (.tuple #[u, .bool true]) ∧ tops2 D = L.map topOf ∧ DataOf n D gen cs ∧ SlAt w' 1 u cs.length cs ∧ (∀ g, u.ownBlock = some g → w.heap.size ≤ g) ∧ Kept [] w w' := by
  have hclo : ∀ w0 : World, w0 = ((((((w.alloc (.cells #[.int .i64 n] 3)).alloc (.cells #[.string mem] 9)).alloc (.cells #[.slice a L.length c] 23)).alloc (.cells #[.int .i32 gen] 21)).alloc (.cells #[.slice none 0 0] 28)).alloc (.cells #[.bool false] 4)) →
      Kept [] w w0 ∧ w0.heap.size = w.heap.size + 6 ∧ _ := fun w0 e => ⟨by subst e; exact ((((((Kept.refl [] w).alloc _).alloc _).alloc _).alloc _).alloc _).alloc _, by subst e; simp,
      safe_any 50 #[.pointer (some ⟨w.heap.size, 0, none⟩), .pointer (some ⟨w.heap.size + 1, 0, none⟩), .pointer (some ⟨w.heap.size + 2, 0, none⟩), .pointer (some ⟨w.heap.size + 3, 0, none⟩), .pointer (some ⟨w.heap.size + 4, 0, none⟩), .pointer (some ⟨w.heap.size + 5, 0, none⟩)] w0
        (fun w' => ∃ u D cs, w'.cell? ⟨w.heap.size + 4, 0, none⟩ = some u ∧ w'.cell? ⟨w.heap.size + 5, 0, none⟩ = some (.bool true) ∧ tops2 D = L.map topOf ∧ DataOf n D gen cs ∧ SlAt w' 1 u cs.length cs ∧ (∀ g, u.ownBlock = some g → w.heap.size + 7 ≤ g) ∧ w'.frozen? ⟨w.heap.size + 4, 0, none⟩ = false ∧ w'.frozen? ⟨w.heap.size + 5, 0, none⟩ = false) [w.heap.size + 4, w.heap.size + 5] hasBody50 (by subst e; simp) (by
          have k0 : Kept [] w (w0.alloc (.cells #[.bool false] 4)) := by subst e; exact (((((((Kept.refl [] w).alloc _).alloc _).alloc _).alloc _).alloc _).alloc _).alloc _
          refine (data_closure n hn w.heap.size mem _ L gen _ (hv.kept k0 (by simp) (by simp)) hl hnd hsz htop hg hroom ?_ ?_ ?_).mono ?_
          · subst e; simp [go_sem]
          · subst e; simp [go_sem]
          · subst e; simp
          · rintro e' w' ⟨rfl, ⟨u, D, cs, h1, h2, h3, h4, h5, h6, h7⟩, hk⟩
            exact ⟨rfl, ⟨u, D, cs, h1, h2, h3, h4, h5, fun g hg => by have := h6 g hg; subst e; simpa using this, h7⟩, hk⟩)⟩
  obtain ⟨hk0, hs0, hsafe⟩ := hclo _ rfl
  have HSF := Lib.hid hsafe; clear hsafe hclo
  clear hv
  go_enter Tryz.func21, Tryz.ntmps21
  go_wp2_with
    (go_at_call 43
     refine (HSF.out).mono ?_
     rintro e w2 ⟨rfl, w1, ⟨u, D, cs, c4, c5, hD, hda, hsl, hu, f4, f5⟩, hk1, hk2⟩
     have hs1 := hk1.size
     rw [hs0] at hk2 hs1
     have d4 : w2.cell? ⟨w.heap.size + 1 + 1 + 1 + 1, 0, none⟩ = some u := hk2.cell c4 (by simp)
     have d5 : w2.cell? ⟨w.heap.size + 1 + 1 + 1 + 1 + 1, 0, none⟩ = some (.bool true) := hk2.cell c5 (by simp)
     have e4 : w2.frozen? ⟨w.heap.size + 1 + 1 + 1 + 1, 0, none⟩ = false := hk2.frz f4 (by simp; omega) (by simp)
     have e5 : w2.frozen? ⟨w.heap.size + 1 + 1 + 1 + 1 + 1, 0, none⟩ = false := hk2.frz f5 (by simp; omega) (by simp)
     obtain ⟨a', n', c', rfl⟩ := hsl.form
     clear c4 c5 f4 f5)
  have k12 : Kept [] w w2 := (hk0.trans hk1 (U := []) (by simp) (by simp <;> omega)).trans hk2 (by simp) (by simp <;> omega)
  have k3 : Kept [w.heap.size + 4, w.heap.size + 5] w2 ((w2.setCell ⟨w.heap.size + 1 + 1 + 1 + 1, 0, none⟩ (.slice a' n' c')).setCell ⟨w.heap.size + 1 + 1 + 1 + 1 + 1, 0, none⟩ (.bool true)) :=
    ((Kept.refl _ _).setCell _ (by simp)).setCell _ (by simp)
  have hend : SlAt ((w2.setCell ⟨w.heap.size + 1 + 1 + 1 + 1, 0, none⟩ (.slice a' n' c')).setCell ⟨w.heap.size + 1 + 1 + 1 + 1 + 1, 0, none⟩ (.bool true)) 1 (.slice a' n' c') cs.length cs :=
    (hsl.kept hk2 (fun g hg => by have := hu g hg; simp; omega)).kept k3 (fun g hg => by have := hu g hg; simp; omega)
  have hend2 := k12.trans k3 (U := []) (by simp) (by simp <;> omega)
  simp [bodyPost, results, Tryz.results21, go_sem, d4, d5]
  exact ⟨D, hD, cs, hda, hend, fun g hg => by have := hu g hg; omega, hend2⟩
end Go.Proofs.YticcnlpfmekagaaGreat
