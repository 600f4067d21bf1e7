import Derived.Test.YticcnlpfmekagaaGreatShWr
import Derived.Test.YticcnlpfmekagaaGreatSafe
namespace Go.Proofs.YticcnlpfmekagaaGreat
open Go Go.Proofs Go.RowKit
set_option linter.unusedVariables false
set_option linter.unusedSimpArgs false

theorem hasBody67 : HasBody 67 := by unfold HasBody; intro a w; kernel_rfl

/-- what SharesBytes hands back -/
def WrOut (lo : Nat) (ver : Int) (L : List Shr) (data : List Value) (v : Value) (w : World) : Prop :=
  ∃ D' g c, v = .slice (some ⟨g, 0, none⟩) (asgBytes ver D' data).length c ∧ (D' : List (ByteArray × List Int)).Perm (L.map topOf) ∧ SlAt w 1 v (asgBytes ver D' data).length (asgBytes ver D' data) ∧ lo ≤ g
theorem WrOut.kept {lo : Nat} {ver : Int} {L : List Shr} {data : List Value} {v : Value} {w w' : World} {S : List Nat} (h : WrOut lo ver L data v w) (k : Kept S w w') (hS : ∀ x ∈ S, x < lo) : WrOut lo ver L data v w' := by
  obtain ⟨D', g, c, rfl, h1, h2, h3⟩ := h
  exact ⟨D', g, c, rfl, h1, h2.kept k (fun g' hg hs => by simp only [Value.ownBlock, Option.some.injEq] at hg; have := hS g' hs; omega), h3⟩

set_option maxRecDepth 100000 in
set_option maxHeartbeats 2000000 in
theorem sharesBytes_any (ver : Int) (va : Option Addr) (vc : Nat) (L : List Shr) (da : Option Addr) (dc : Nat) (data : List Value) (w : World)
    (hv : ShrsAt w (.slice va L.length vc) L) (hl : L.length ≤ 10) (hnd : (L.map (·.top)).Nodup) (hf : ∀ x ∈ L, x.top.size ≤ 50 ∧ x.parts.length ≤ 20) (hd : SlAt w 1 (.slice da data.length dc) data.length data) (hdl : data.length ≤ 1000) (hver : isI16 ver) :
    Calls Tryz.prog 35 #[.int .i16 ver, .slice va L.length vc, .slice da data.length dc] w fun e w' =>
      ∃ v, e = .returned (.tuple #[v, .bool true]) ∧ WrOut w.heap.size ver L data v w' ∧ Kept [] w w' := by
  have hclo : ∀ w0 : World, w0 = (((((w.alloc (.cells #[.int .i16 ver] 26)).alloc (.cells #[.slice va L.length vc] 23)).alloc (.cells #[.slice da data.length dc] 28)).alloc (.cells #[.slice none 0 0] 28)).alloc (.cells #[.bool false] 4)) →
      Kept [] w w0 ∧ w0.heap.size = w.heap.size + 5 ∧ _ := fun w0 e => ⟨by subst e; exact (((((Kept.refl [] w).alloc _).alloc _).alloc _).alloc _).alloc _, by subst e; simp,
      safe_any 67 #[.pointer (some ⟨w.heap.size, 0, none⟩), .pointer (some ⟨w.heap.size + 1, 0, none⟩), .pointer (some ⟨w.heap.size + 2, 0, none⟩), .pointer (some ⟨w.heap.size + 3, 0, none⟩), .pointer (some ⟨w.heap.size + 4, 0, none⟩)] w0
        (fun w' => ∃ D' g c, (D' : List (ByteArray × List Int)).Perm (L.map topOf) ∧ w'.cell? ⟨w.heap.size + 3, 0, none⟩ = some (.slice (some ⟨g, 0, none⟩) (asgBytes ver D' data).length c) ∧ w'.cell? ⟨w.heap.size + 4, 0, none⟩ = some (.bool true) ∧ w'.frozen? ⟨w.heap.size + 3, 0, none⟩ = false ∧ w'.frozen? ⟨w.heap.size + 4, 0, none⟩ = false ∧
          SlAt w' 1 (.slice (some ⟨g, 0, none⟩) (asgBytes ver D' data).length c) (asgBytes ver D' data).length (asgBytes ver D' data) ∧ w.heap.size + 6 ≤ g) [w.heap.size + 3, w.heap.size + 4] hasBody67 (by subst e; simp) (by
          have k0 : Kept [] w (w0.alloc (.cells #[.bool false] 4)) := by subst e; exact ((((((Kept.refl [] w).alloc _).alloc _).alloc _).alloc _).alloc _).alloc _
          have hz : (w0.alloc (.cells #[.bool false] 4)).heap.size = w.heap.size + 6 := by subst e; simp
          refine (sharesBytes_closure w.heap.size ver va vc L da dc data (w0.alloc (.cells #[.bool false] 4)) (by subst e; simp [go_sem]) (by subst e; simp [go_sem]) (by subst e; simp) (hv.kept k0 (by simp) (by simp)) hl hnd hf (hd.kept k0 (by simp)) hdl hver).mono ?_
          rintro e' w' ⟨rfl, D', g, c, h1, h2, h3, h4, h5, h6, h7, hk⟩
          rw [hz] at h7
          exact ⟨rfl, ⟨D', g, c, h1, h2, h3, h4, h5, h6, h7⟩, hk⟩)⟩
  obtain ⟨hk0, hs0, hsafe⟩ := hclo _ rfl
  have HSF := Lib.hid hsafe; clear hsafe hclo
  clear hv hd hf hnd
  go_enter Tryz.func35, Tryz.ntmps35
  go_wp2_with
    (go_at_call 43
     refine (HSF.out).mono ?_
     rintro e w2 ⟨rfl, w1, ⟨D', g, c, hpm, c3, c4, f3, f4, hsl, hg⟩, hk1, hk2⟩
     have hs1 := hk1.size
     rw [hs0] at hk2 hs1
     have d3 : w2.cell? ⟨w.heap.size + 1 + 1 + 1, 0, none⟩ = some (.slice (some ⟨g, 0, none⟩) (asgBytes ver D' data).length c) := hk2.cell c3 (by simp)
     have d4 : w2.cell? ⟨w.heap.size + 1 + 1 + 1 + 1, 0, none⟩ = some (.bool true) := hk2.cell c4 (by simp)
     have e3 : w2.frozen? ⟨w.heap.size + 1 + 1 + 1, 0, none⟩ = false := hk2.frz f3 (by simp; omega) (by simp)
     have e4 : w2.frozen? ⟨w.heap.size + 1 + 1 + 1 + 1, 0, none⟩ = false := hk2.frz f4 (by simp; omega) (by simp)
     have hsl2 := hsl.kept hk2 (fun g' hg' => by simp only [Value.ownBlock, Option.some.injEq] at hg'; simp; omega)
     have hwo : WrOut (w.heap.size + 6) ver L data (.slice (some ⟨g, 0, none⟩) (asgBytes ver D' data).length c) w2 := ⟨D', g, c, rfl, hpm, hsl2, hg⟩
     have HRES := Lib.hid hwo; clear hsl hsl2 hwo hpm
     generalize hvl : (asgBytes ver D' data).length = vl at *
     clear hvl
     clear c3 c4 f3 f4)
  have k12 : Kept [] w w2 := (hk0.trans hk1 (U := []) (by simp) (by simp <;> omega)).trans hk2 (by simp) (by simp <;> omega)
  have k3 : Kept [w.heap.size + 3, w.heap.size + 4] w2 ((w2.setCell ⟨w.heap.size + 1 + 1 + 1, 0, none⟩ (.slice (some ⟨g, 0, none⟩) vl c)).setCell ⟨w.heap.size + 1 + 1 + 1 + 1, 0, none⟩ (.bool true)) :=
    ((Kept.refl _ _).setCell _ (by simp)).setCell _ (by simp)
  have hend2 := k12.trans k3 (U := []) (by simp) (by simp <;> omega)
  have hend := HRES.out.kept k3 (by simp)
  obtain ⟨D2, g2, c2, e1, e5, e6, e7⟩ := hend
  refine bodyPost_ret (v := .tuple #[.slice (some ⟨g, 0, none⟩) vl c, .bool true]) ?_ rfl ⟨_, rfl, ⟨D2, g2, c2, e1, e5, e6, by omega⟩, hend2⟩
  simp [results, Tryz.results35, go_sem, d3, d4]
end Go.Proofs.YticcnlpfmekagaaGreat
