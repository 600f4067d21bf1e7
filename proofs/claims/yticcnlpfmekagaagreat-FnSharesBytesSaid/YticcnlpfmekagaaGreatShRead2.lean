import Derived.Test.YticcnlpfmekagaaGreatShRead
import Derived.Test.YticcnlpfmekagaaGreatData2
namespace Go.Proofs.YticcnlpfmekagaaGreat
open Go Go.Proofs Go.RowKit
set_option linter.unusedVariables false
set_option linter.unusedSimpArgs false

theorem hasBody63 : HasBody 63 := by unfold HasBody; intro a w; kernel_rfl

/-- what SharesRead hands back -/
def ReadOut (lo : Nat) (D : List (ByteArray × List Int)) (data : List Value) (v u : Value) (w : World) : Prop :=
  ∃ (L : List Shr), ShrsAt w v L ∧ L.Pairwise (fun x y => topLt y.top x.top = false) ∧ (L.map topOf).Perm D ∧ (∀ x ∈ L, x.mem = emp) ∧ SlAt w 1 u data.length data ∧ (∃ a c, u = .slice a data.length c) ∧
    (∀ g, v.ownBlock = some g → lo ≤ g) ∧ (∀ x ∈ L, ∀ g, x.val.ownBlock = some g → lo ≤ g) ∧ (∀ g, u.ownBlock = some g → lo ≤ g)

theorem ReadOut.kept {lo : Nat} {D : List (ByteArray × List Int)} {data : List Value} {v u : Value} {w w' : World} {S : List Nat} (h : ReadOut lo D data v u w) (k : Kept S w w') (hS : ∀ x ∈ S, x < lo) : ReadOut lo D data v u w' := by
  obtain ⟨L, h1, h2, h3, h4, h5, h6, h7, h8, h9⟩ := h
  refine ⟨L, h1.kept k (fun g hg hs => ?_) (fun x hx g hg hs => ?_), h2, h3, h4, h5.kept k (fun g hg hs => ?_), h6, h7, h8, h9⟩
  · have := h7 g hg; have := hS g hs; omega
  · have := h8 x hx g hg; have := hS g hs; omega
  · have := h9 g hg; have := hS g hs; omega

set_option maxRecDepth 100000 in
set_option maxHeartbeats 2000000 in
theorem sharesRead_any (g off cap : Nat) (ver : Int) (D : List (ByteArray × List Int)) (data : List Value) (w : World)
    (hsl : SlAt w 1 (.slice (some ⟨g, off, none⟩) (asgBytes ver D data).length cap) (asgBytes ver D data).length (asgBytes ver D data)) (hsm : (asgBytes ver D data).length ≤ 1000000)
    (hver : isI16 ver) (hnd : (D.map (·.1)).Nodup) (hD : ∀ x ∈ D, TPOk x) (hDl : D.length ≤ 12) (hdl : data.length ≤ 1000000) (hu : U8L data) :
    Calls Tryz.prog 34 #[.slice (some ⟨g, off, none⟩) (asgBytes ver D data).length cap] w fun e w' =>
      ∃ v u, e = .returned (.tuple #[.int .i16 ver, v, u, .bool true]) ∧ ReadOut w.heap.size D data v u w' ∧ Kept [] w w' := by
  generalize hN : (asgBytes ver D data).length = N at *
  have hclo : ∀ w0 : World, w0 = (((((w.alloc (.cells #[.slice (some ⟨g, off, none⟩) N cap] 28)).alloc (.cells #[.int .i16 0] 26)).alloc (.cells #[.slice none 0 0] 23)).alloc (.cells #[.slice none 0 0] 28)).alloc (.cells #[.bool false] 4)) →
      Kept [] w w0 ∧ w0.heap.size = w.heap.size + 5 ∧ _ := fun w0 e => ⟨by subst e; exact (((((Kept.refl [] w).alloc _).alloc _).alloc _).alloc _).alloc _, by subst e; simp,
      safe_any 63 #[.pointer (some ⟨w.heap.size, 0, none⟩), .pointer (some ⟨w.heap.size + 1, 0, none⟩), .pointer (some ⟨w.heap.size + 3, 0, none⟩), .pointer (some ⟨w.heap.size + 4, 0, none⟩), .pointer (some ⟨w.heap.size + 2, 0, none⟩)] w0
        (fun w' => SRes (w.heap.size + 6) w.heap.size ver D data w') [w.heap.size + 1, w.heap.size + 2, w.heap.size + 3, w.heap.size + 4] hasBody63 (by subst e; simp) (by
          have k0 : Kept [] w (w0.alloc (.cells #[.bool false] 4)) := by subst e; exact ((((((Kept.refl [] w).alloc _).alloc _).alloc _).alloc _).alloc _).alloc _
          refine (sharesRead_closure w.heap.size g off cap ver D data _ ?_ ?_ ?_ ?_ (by rw [hN]; exact hsl.kept k0 (by simp)) (by rw [hN]; exact hsm) hver hnd hD hDl hdl hu).mono ?_
          · rw [hN]; subst e; simp [go_sem]
          · subst e; simp [go_sem]
          · intro j h1 h2; subst e
            rcases (by omega : j = 1 ∨ j = 2 ∨ j = 3 ∨ j = 4) with rfl | rfl | rfl | rfl <;> simp [go_sem]
          · subst e; simp
          · rintro e' w' ⟨rfl, h1, hk⟩
            refine ⟨rfl, ?_, hk⟩
            subst e
            simpa using h1)⟩
  obtain ⟨hk0, hs0, hsafe⟩ := hclo _ rfl
  have HSF := Lib.hid hsafe; clear hsafe hclo
  clear hsl
  have HD := Lib.hid hD; clear hD
  have HU := Lib.hid hu; clear hu
  have HN := Lib.hid hN; clear hN
  have HND := Lib.hid hnd; clear hnd
  go_enter Tryz.func34, Tryz.ntmps34
  go_upto_region 4 with (first
    | (go_at_call 43
       refine (HSF.out).mono ?_
       rintro e w2 ⟨rfl, w1, ⟨L, v, u, c1, c2, c3, c4, hz, hsh, hps, hpm, hme, hsu, hfu, hb1, hb2, hb3⟩, hk1, hk2⟩
       have hs1 := hk1.size
       rw [hs0] at hk2 hs1
       have d1 : w2.cell? ⟨w.heap.size + 1, 0, none⟩ = some (.int .i16 ver) := hk2.cell c1 (by simp)
       have d2 : w2.cell? ⟨w.heap.size + 1 + 1, 0, none⟩ = some v := hk2.cell c2 (by simp)
       have d3 : w2.cell? ⟨w.heap.size + 1 + 1 + 1, 0, none⟩ = some u := hk2.cell c3 (by simp)
       have d4 : w2.cell? ⟨w.heap.size + 1 + 1 + 1 + 1, 0, none⟩ = some (.bool true) := hk2.cell c4 (by simp)
       have e1 : w2.frozen? ⟨w.heap.size + 1, 0, none⟩ = false := hk2.frz (hz 1 (by omega) (by omega)) (by simp; omega) (by simp)
       have e2 : w2.frozen? ⟨w.heap.size + 1 + 1, 0, none⟩ = false := hk2.frz (hz 2 (by omega) (by omega)) (by simp; omega) (by simp)
       have e3 : w2.frozen? ⟨w.heap.size + 1 + 1 + 1, 0, none⟩ = false := hk2.frz (hz 3 (by omega) (by omega)) (by simp; omega) (by simp)
       have e4 : w2.frozen? ⟨w.heap.size + 1 + 1 + 1 + 1, 0, none⟩ = false := hk2.frz (hz 4 (by omega) (by omega)) (by simp; omega) (by simp)
       obtain ⟨va, vc, rfl⟩ := hsh.form
       obtain ⟨ua, uc, rfl⟩ := hfu
       have k12 : Kept [] w w2 := (hk0.trans hk1 (U := []) (by simp) (by simp <;> omega)).trans hk2 (by simp) (by simp <;> omega)
       have ho : ReadOut (w.heap.size + 6) D data (.slice va L.length vc) (.slice ua data.length uc) w1 := ⟨L, hsh, hps, hpm, hme, hsu, ⟨_, _, rfl⟩, hb1, hb2, hb3⟩
       have ho2 := ho.kept hk2 (by simp)
       have HO := Lib.hid ho2; clear ho ho2 hsh hps hpm hme hsu hb1 hb2 hb3 c1 c2 c3 c4 hz
       generalize data.length = dn at *
       generalize L.length = ln at *)
    | fail)
  have hfin : ∀ w', ReadOut (w.heap.size + 6) D data (.slice va ln vc) (.slice ua dn uc) w' → Kept [] w w' → ReadOut w.heap.size D data (.slice va ln vc) (.slice ua dn uc) w' ∧ Kept [] w w' := by
    rintro w' ⟨L, h1, h2, h3, h4, h5, h6, h7, h8, h9⟩ hk
    exact ⟨⟨L, h1, h2, h3, h4, h5, h6, fun g hg => by have := h7 g hg; omega, fun x hx g hg => by have := h8 x hx g hg; omega, fun g hg => by have := h9 g hg; omega⟩, hk⟩
  have HF := Lib.hid hfin; clear hfin
  go_region
  all_goals
    have hk3 : Kept [w.heap.size + 1, w.heap.size + 2, w.heap.size + 3, w.heap.size + 4] w2 ((((w2.setCell ⟨w.heap.size + 1, 0, none⟩ (.int .i16 ver)).setCell ⟨w.heap.size + 1 + 1, 0, none⟩ (.slice va ln vc)).setCell ⟨w.heap.size + 1 + 1 + 1, 0, none⟩ (.slice ua dn uc)).setCell ⟨w.heap.size + 1 + 1 + 1 + 1, 0, none⟩ (.bool true)) :=
      ((((Kept.refl _ _).setCell _ (by simp)).setCell _ (by simp)).setCell _ (by simp)).setCell _ (by simp)
    have hk4 := hk3.drew
    have hend := HF.out _ (HO.out.kept hk4 (by simp)) (k12.trans hk4 (by simp) (by simp))
    go_wp2_with fail
    simp [bodyPost, results, Tryz.results34, go_sem, d1, d2, d3, d4]
    exact ⟨_, _, ⟨rfl, rfl⟩, hend⟩
end Go.Proofs.YticcnlpfmekagaaGreat
