import Derived.Test.YticcnlpfmekagaaGreatFits
import Derived.Test.YticcnlpfmekagaaGreatShares
import Derived.Deep.RegionLaw
namespace Go.Proofs.YticcnlpfmekagaaGreat
open Go Go.Proofs Go.RowKit
set_option linter.unusedVariables false
set_option linter.unusedSimpArgs false

/-! ## SamePlan: equal shares are found equal -/

theorem i32s_get (xs : List Int) (k : Nat) (h : k < xs.length) : ∃ x, (i32s xs)[k]? = some (.int .i32 x) := ⟨xs[k], by
  simp [i32s, h]⟩

set_option maxRecDepth 100000 in
set_option maxHeartbeats 1000000 in
theorem sameParts_any (v1 v2 : Value) (xs : List Int) (w : World) (h1 : SlInts w v1 xs) (h2 : SlInts w v2 xs) (hn : xs.length ≤ 1000000) :
    Calls Tryz.prog 69 #[v1, v2] w fun e w' => e = .returned (.bool true) ∧ Kept [] w w' := by
  obtain ⟨⟨a1, c1, rfl⟩, hs1, _⟩ := h1
  obtain ⟨⟨a2, c2, rfl⟩, hs2, _⟩ := h2
  have HS := Lib.hid (And.intro hs1 hs2); clear hs1 hs2
  have hget := i32s_get xs
  generalize hN : xs.length = n at *
  have HN := Lib.hid (And.intro hN hget); clear hN hget
  go_enter Tryz.func69, Tryz.ntmps69
  go_wp2
  go_loopw [5] (fun i wr => ∃ k : Nat, k ≤ n ∧ i = .int .i64 k ∧ Kept [] w wr) (fun i _ => n - (intOf i).toNat)
  case atStart => exact ⟨0, Nat.zero_le _, rfl, Kept.refl _ _⟩
  case round =>
    obtain ⟨k, hk, rfl, hkw⟩ := hrel
    by_cases hlt : k < n
    · obtain ⟨_, hc1⟩ := HS.out.1.cases
      obtain ⟨_, hc2⟩ := HS.out.2.cases
      rcases hc1 with ⟨_, h0, _⟩ | ⟨g1, o1, hva1, hcell1⟩
      · omega
      rcases hc2 with ⟨_, h0, _⟩ | ⟨g2, o2, hva2, hcell2⟩
      · omega
      cases hva1
      cases hva2
      obtain ⟨x, hg⟩ := HN.out.2 k hlt
      have d1 := hkw.cell (p := ⟨g1, o1 + k, none⟩) (hcell1 _ _ hg) (by simp)
      have d2 := hkw.cell (p := ⟨g2, o2 + k, none⟩) (hcell2 _ _ hg) (by simp)
      clear hcell1 hcell2 hg
      go_wp2_with fail
      go_region
      all_goals
        go_wp2_with fail
        go_roundw
        case rel => exact ⟨k + 1, by omega, by go_num, hkw.drew⟩
        case measure => simp [intOf]; omega
    · go_wp2
      go_ret
      exact ⟨rfl, hkw⟩

set_option maxRecDepth 100000 in
set_option maxHeartbeats 2000000 in
theorem samePlan_any (v1 v2 : Value) (L1 L2 : List Shr) (w : World) (h1 : ShrsAt w v1 L1) (h2 : ShrsAt w v2 L2) (he : L1.map trip = L2.map trip) (hn : L1.length ≤ 1000000) (hp : ∀ x ∈ L1, x.parts.length ≤ 1000000) :
    Calls Tryz.prog 36 #[v1, v2] w fun e w' => e = .returned (.bool true) ∧ Kept [] w w' := by
  have hl : L1.length = L2.length := by simpa using congrArg List.length he
  obtain ⟨⟨a1, c1, rfl⟩, hs1, hq1⟩ := h1
  obtain ⟨⟨a2, c2, rfl⟩, hs2, hq2⟩ := h2
  rw [← hl] at hs2
  have HS := Lib.hid (And.intro hs1 hs2); clear hs1 hs2
  have HQ := Lib.hid (And.intro hq1 (And.intro hq2 hp)); clear hq1 hq2 hp
  have HE := Lib.hid he; clear he
  rw [← hl]
  generalize hN : L1.length = n at *
  have HN := Lib.hid (And.intro hN hl); clear hN hl
  go_enter Tryz.func36, Tryz.ntmps36
  go_wp2
  go_loopw [5] (fun i wr => ∃ k : Nat, k ≤ n ∧ i = .int .i64 k ∧ Kept [] w wr) (fun i _ => n - (intOf i).toNat)
  case atStart => exact ⟨0, Nat.zero_le _, rfl, Kept.refl _ _⟩
  case round =>
    obtain ⟨k, hk, rfl, hkw⟩ := hrel
    by_cases hlt : k < n
    · obtain ⟨x1, hx1⟩ : ∃ x, L1[k]? = some x := ⟨_, List.getElem?_eq_getElem (by have := HN.out.1; omega)⟩
      obtain ⟨x2, hx2⟩ : ∃ x, L2[k]? = some x := ⟨_, List.getElem?_eq_getElem (by have := HN.out.2; omega)⟩
      have ht : trip x1 = trip x2 := by
        have h := congrArg (fun l => l[k]?) HE.out
        simpa [hx1, hx2] using h
      obtain ⟨g1, g2, g3⟩ := shr_get hx1
      obtain ⟨f1, f2, f3⟩ := shr_get hx2
      have hi1 := HQ.out.1 x1 (List.mem_of_getElem? hx1)
      have hi2 := HQ.out.2.1 x2 (List.mem_of_getElem? hx2)
      have hpl := HQ.out.2.2 x1 (List.mem_of_getElem? hx1)
      obtain ⟨m1, t1, u1, p1⟩ := x1
      obtain ⟨m2, t2, u2, p2⟩ := x2
      simp only [trip, Prod.mk.injEq] at ht
      obtain ⟨rfl, rfl, rfl⟩ := ht
      simp only at g1 g2 g3 f1 f2 f3 hi1 hi2 hpl
      obtain ⟨_, hc1⟩ := HS.out.1.cases
      obtain ⟨_, hc2⟩ := HS.out.2.cases
      rcases hc1 with ⟨_, h0, _⟩ | ⟨b1, o1, hva1, hcell1⟩
      · omega
      rcases hc2 with ⟨_, h0, _⟩ | ⟨b2, o2, hva2, hcell2⟩
      · omega
      cases hva1
      cases hva2
      have d1 := hkw.cell (p := ⟨b1, o1 + k * 3, none⟩) (hcell1 _ _ g1) (by simp)
      have d2 := hkw.cell (p := ⟨b1, o1 + (k * 3 + 1), none⟩) (hcell1 _ _ g2) (by simp)
      have d3 := hkw.cell (p := ⟨b1, o1 + (k * 3 + 2), none⟩) (hcell1 _ _ g3) (by simp)
      have e1 := hkw.cell (p := ⟨b2, o2 + k * 3, none⟩) (hcell2 _ _ f1) (by simp)
      have e2 := hkw.cell (p := ⟨b2, o2 + (k * 3 + 1), none⟩) (hcell2 _ _ f2) (by simp)
      have e3 := hkw.cell (p := ⟨b2, o2 + (k * 3 + 2), none⟩) (hcell2 _ _ f3) (by simp)
      rw [← Nat.add_assoc] at d2 d3 e2 e3
      have hsp := fun W (hW : Kept [] wr W) => sameParts_any u1 u2 p1 W (hi1.kept (hkw.trans hW (U := []) (by simp) (by simp)) (by simp)) (hi2.kept (hkw.trans hW (U := []) (by simp) (by simp)) (by simp)) hpl
      obtain ⟨⟨xa, xc, rfl⟩, _⟩ := hi1
      obtain ⟨⟨ya, yc, rfl⟩, _⟩ := hi2
      have HSP := Lib.hid hsp; clear hsp
      generalize p1.length = pn at *
      clear hcell1 hcell2 g1 g2 g3 f1 f2 f3 hx1 hx2
      go_wp2_with fail
      have hss : ∀ W, Kept [] wr W → W.cell? ⟨b1, o1 + k * 3, none⟩ = some (.string m1) ∧ W.cell? ⟨b1, o1 + k * 3 + 1, none⟩ = some (.string t1) ∧ W.cell? ⟨b1, o1 + k * 3 + 2, none⟩ = some (.slice xa pn xc) ∧ W.cell? ⟨b2, o2 + k * 3, none⟩ = some (.string m1) ∧ W.cell? ⟨b2, o2 + k * 3 + 1, none⟩ = some (.string t1) ∧ W.cell? ⟨b2, o2 + k * 3 + 2, none⟩ = some (.slice ya pn yc) := fun W hW =>
        ⟨hW.cell d1 (by simp), hW.cell d2 (by simp), hW.cell d3 (by simp), hW.cell e1 (by simp), hW.cell e2 (by simp), hW.cell e3 (by simp)⟩
      have HSS := Lib.hid hss; clear hss
      go_region_held3 (fun W => W.cell? ⟨b1, o1 + k * 3, none⟩ = some (.string m1) ∧ W.cell? ⟨b1, o1 + k * 3 + 1, none⟩ = some (.string t1) ∧ W.cell? ⟨b1, o1 + k * 3 + 2, none⟩ = some (.slice xa pn xc) ∧ W.cell? ⟨b2, o2 + k * 3, none⟩ = some (.string m1) ∧ W.cell? ⟨b2, o2 + k * 3 + 1, none⟩ = some (.string t1) ∧ W.cell? ⟨b2, o2 + k * 3 + 2, none⟩ = some (.slice ya pn yc))
        (first | with_reducible exact HSS.out _ (Kept.refl _ _).drew | with_reducible exact HSS.out _ hk1' | fail)
        (first
          | (go_at_call 69
             refine (HSP.out _ (Kept.refl _ _).drew).mono ?_
             rintro e w1 ⟨rfl, hk1⟩
             have hk1' : Kept [] wr w1 := hk1.of_drew)
          | fail)
      all_goals
        go_wp2_with fail
        go_roundw
        case rel => exact ⟨k + 1, by omega, by go_num, hkw.trans hk1' (by simp) (by simp)⟩
        case measure => simp [intOf]; omega
    · go_wp2
      go_ret
      exact ⟨rfl, hkw⟩
end Go.Proofs.YticcnlpfmekagaaGreat
