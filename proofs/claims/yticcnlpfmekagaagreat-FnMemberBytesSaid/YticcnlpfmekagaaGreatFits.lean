import Derived.Test.YticcnlpfmekagaaGreatData2
namespace Go.Proofs.YticcnlpfmekagaaGreat
open Go Go.Proofs Go.RowKit
set_option linter.unusedVariables false
set_option linter.unusedSimpArgs false

/-! ## the laws' guards on shares -/

/-- it returns true or false -/
def AnyBool (e : Ending) : Prop := ∃ b, e = .returned (.bool b)

set_option maxRecDepth 100000 in
set_option maxHeartbeats 400000 in
theorem fits6 (m t : ByteArray) (a : Option Addr) (n c : Nat) (w : World) :
    Calls Tryz.prog 37 #[.agg #[.string m, .string t, .slice a n c]] w fun e w' => AnyBool e ∧ Kept [] w w' := by
  have hk := (Kept.refl [] w).alloc (.cells #[.string m, .string t, .slice a n c] 33)
  by_cases h1 : (2147483647 : Int) < m.size
  · go_enter Tryz.func37, Tryz.ntmps37
    go_wp2
    go_ret
    exact ⟨⟨_, rfl⟩, hk⟩
  by_cases h2 : (2147483647 : Int) < t.size
  · go_enter Tryz.func37, Tryz.ntmps37
    go_wp2
    go_ret
    exact ⟨⟨_, rfl⟩, hk⟩
  by_cases h3 : (2147483647 : Int) < n
  · go_enter Tryz.func37, Tryz.ntmps37
    go_wp2
    go_ret
    exact ⟨⟨_, rfl⟩, hk⟩
  · go_enter Tryz.func37, Tryz.ntmps37
    go_wp2
    go_ret
    exact ⟨⟨_, rfl⟩, hk⟩

set_option maxRecDepth 100000 in
set_option maxHeartbeats 1000000 in
theorem fits5 (v : Value) (L : List Shr) (w : World) (hv : ShrsAt w v L) (hn : L.length ≤ maxLen) :
    Calls Tryz.prog 13 #[v] w fun e w' => AnyBool e ∧ Kept [] w w' := by
  obtain ⟨⟨a, c, rfl⟩, hcells, hparts⟩ := hv
  have HC := Lib.hid hcells; clear hcells
  have HP := Lib.hid hparts; clear hparts
  have hmx : maxLen = 9223372036854775807 := rfl
  generalize hLn : L.length = n at *
  have HLN := Lib.hid hLn; clear hLn
  by_cases h1 : (2147483647 : Int) < n
  · go_enter Tryz.func13, Tryz.ntmps13
    go_wp2
    go_ret
    exact ⟨⟨_, rfl⟩, Kept.refl _ _⟩
  · go_enter Tryz.func13, Tryz.ntmps13
    go_wp2
    go_loopw [10] (fun i wr => ∃ k : Nat, k ≤ n ∧ i = .int .i64 k ∧ Kept [] w wr) (fun i _ => n - (intOf i).toNat)
    case atStart => exact ⟨0, Nat.zero_le _, rfl, Kept.refl _ _⟩
    case round =>
      obtain ⟨k, hk, rfl, hkw⟩ := hrel
      by_cases hlt : k < n
      · obtain ⟨x, hkx⟩ : ∃ x, L[k]? = some x := ⟨_, List.getElem?_eq_getElem (by have := HLN.out; omega)⟩
        obtain ⟨g1, g2, g3⟩ := shr_get hkx
        have hxL : x ∈ L := List.mem_of_getElem? hkx
        obtain ⟨_, hcase⟩ := HC.out.cases
        rcases hcase with ⟨_, h0, _⟩ | ⟨g, off, hva, hcell⟩
        · omega
        cases hva
        have c1 := hkw.cell (p := ⟨g, off + k * 3, none⟩) (hcell _ _ g1) (by simp)
        have c2 := hkw.cell (p := ⟨g, off + (k * 3 + 1), none⟩) (hcell _ _ g2) (by simp)
        have c3 := hkw.cell (p := ⟨g, off + (k * 3 + 2), none⟩) (hcell _ _ g3) (by simp)
        rw [← Nat.add_assoc] at c2 c3
        obtain ⟨⟨pa, pc, hval⟩, _⟩ := HP.out x hxL
        rw [hval] at c3
        clear hcell g1 g2 g3 hkx
        go_wp2_with
          (go_at_call 37
           refine (fits6 _ _ _ _ _ _).mono ?_
           rintro e w1 ⟨⟨b, rfl⟩, hk1⟩
           have hk2 : Kept [] w w1 := (hkw.alloc _).trans hk1 (by simp) (by simp)
           cases b)
        · go_ret
          exact ⟨⟨_, rfl⟩, hk2⟩
        · go_roundw
          case rel => exact ⟨k + 1, by omega, by go_num, hk2⟩
          case measure => simp [intOf]; omega
      · go_wp2
        go_ret
        exact ⟨⟨_, rfl⟩, hkw⟩

def ShrFit (x : Shr) : Prop := x.mem = ⟨#[]⟩ ∧ x.top.size ≤ 50 ∧ x.parts.length ≤ 20
def SharesFit (L : List Shr) : Prop := (∀ x ∈ L, ShrFit x) ∧ L.length ≤ 10
def BoolSays (e : Ending) (p : Prop) : Prop := (e = .returned (.bool true) ∧ p) ∨ (e = .returned (.bool false) ∧ ¬ p)

set_option maxRecDepth 100000 in
set_option maxHeartbeats 1000000 in
theorem sharesFit_any (v : Value) (L : List Shr) (w : World) (hv : ShrsAt w v L) (hn : L.length ≤ maxLen) :
    Calls Tryz.prog 20 #[v] w fun e w' => BoolSays e (SharesFit L) ∧ Kept [] w w' := by
  obtain ⟨⟨a, c, rfl⟩, hcells, hparts⟩ := hv
  have HC := Lib.hid hcells; clear hcells
  have HP := Lib.hid hparts; clear hparts
  have hmx : maxLen = 9223372036854775807 := rfl
  generalize hLn : L.length = n at *
  have HLN := Lib.hid hLn; clear hLn
  go_enter Tryz.func20, Tryz.ntmps20
  go_wp2
  go_loopw [3] (fun i wr => ∃ k : Nat, k ≤ n ∧ i = .int .i64 k ∧ Kept [] w wr ∧ ∀ x ∈ L.take k, ShrFit x) (fun i _ => n - (intOf i).toNat)
  case atStart => exact ⟨0, Nat.zero_le _, rfl, Kept.refl _ _, by simp⟩
  case round =>
    obtain ⟨k, hk, rfl, hkw, hall⟩ := hrel
    have HA := Lib.hid hall; clear hall
    by_cases hlt : k < n
    · obtain ⟨x, hkx⟩ : ∃ x, L[k]? = some x := ⟨_, List.getElem?_eq_getElem (by have := HLN.out; omega)⟩
      obtain ⟨g1, g2, g3⟩ := shr_get hkx
      have hxL : x ∈ L := List.mem_of_getElem? hkx
      obtain ⟨_, hcase⟩ := HC.out.cases
      rcases hcase with ⟨_, h0, _⟩ | ⟨g, off, hva, hcell⟩
      · omega
      cases hva
      have c1 := hkw.cell (p := ⟨g, off + k * 3, none⟩) (hcell _ _ g1) (by simp)
      have c2 := hkw.cell (p := ⟨g, off + (k * 3 + 1), none⟩) (hcell _ _ g2) (by simp)
      have c3 := hkw.cell (p := ⟨g, off + (k * 3 + 2), none⟩) (hcell _ _ g3) (by simp)
      rw [← Nat.add_assoc] at c2 c3
      obtain ⟨⟨pa, pc, hval⟩, _⟩ := HP.out x hxL
      rw [hval] at c3
      have HK := Lib.hid hkx
      have HX := Lib.hid hxL
      clear hcell g1 g2 g3 hkx hxL
      by_cases h1 : x.mem = ⟨#[]⟩
      · by_cases h2 : (50 : Int) < x.top.size
        · go_wp2
          go_ret
          exact ⟨.inr ⟨rfl, fun h => by have := (h.1 x HX.out).2.1; omega⟩, hkw⟩
        · by_cases h3 : (20 : Int) < x.parts.length
          · go_wp2
            go_ret
            exact ⟨.inr ⟨rfl, fun h => by have := (h.1 x HX.out).2.2; omega⟩, hkw⟩
          · go_wp2
            all_goals try (exfalso; omega)
            go_roundw
            case rel =>
              refine ⟨k + 1, by omega, by go_num, hkw, ?_⟩
              intro y hy
              obtain ⟨hk', hx'⟩ := List.getElem?_eq_some_iff.1 HK.out
              rw [List.take_succ_eq_append_getElem hk', hx'] at hy
              rcases List.mem_append.1 hy with hy | hy
              · exact HA.out y hy
              · simp only [List.mem_cons, List.not_mem_nil, or_false] at hy
                subst hy
                exact ⟨h1, by omega, by omega⟩
            case measure => simp [intOf]; omega
      · have h1' : x.mem.toList.isEmpty = false := by rw [← decide_eq_emptyBytes]; exact decide_eq_false h1
        go_wp2
        go_ret
        exact ⟨.inr ⟨rfl, fun h => h1 (h.1 x HX.out).1⟩, hkw⟩
    · by_cases h4 : (n : Int) ≤ 10
      · go_wp2
        go_ret
        refine ⟨.inl ⟨rfl, ?_, by have := HLN.out; omega⟩, hkw⟩
        have := HA.out
        rwa [List.take_of_length_le (by have := HLN.out; omega)] at this
      · go_wp2
        go_ret
        exact ⟨.inr ⟨rfl, fun h => by have := h.2; have := HLN.out; omega⟩, hkw⟩
end Go.Proofs.YticcnlpfmekagaaGreat
