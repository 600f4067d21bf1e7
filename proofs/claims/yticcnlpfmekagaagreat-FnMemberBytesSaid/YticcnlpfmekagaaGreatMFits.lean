import Derived.Test.YticcnlpfmekagaaGreatFits
import Derived.Test.YticcnlpfmekagaaGreatMemb
namespace Go.Proofs.YticcnlpfmekagaaGreat
open Go Go.Proofs Go.RowKit
set_option linter.unusedVariables false
set_option linter.unusedSimpArgs false

/-! ## the guards on members -/

theorem strs_at {w : World} {a : Option Addr} {n c : Nat} {l : List ByteArray} (h : SlAt w 1 (.slice a n c) n (strs l)) (hn : 0 < n) : ∃ g off, a = some ⟨g, off, none⟩ ∧ ∀ (k : Nat) x, l[k]? = some x → w.cell? ⟨g, off + k, none⟩ = some (.string x) := by
  obtain ⟨_, hcase⟩ := h.cases
  rcases hcase with ⟨_, h0, _⟩ | ⟨g, off, hva, hcell⟩
  · omega
  · exact ⟨g, off, hva, fun k x hk => hcell k _ (by simp [strs, hk])⟩

set_option maxRecDepth 100000 in
set_option maxHeartbeats 1000000 in
theorem fits4 (v : Value) (l : List ByteArray) (w : World) (hv : SlStrs w v l) (hn : l.length ≤ maxLen) :
    Calls Tryz.prog 51 #[v] w fun e w' => AnyBool e ∧ Kept [] w w' := by
  obtain ⟨⟨a, c, rfl⟩, hsl⟩ := hv
  have HC := Lib.hid hsl; clear hsl
  have hmx : maxLen = 9223372036854775807 := rfl
  generalize hLn : l.length = n at *
  have HLN := Lib.hid hLn; clear hLn
  by_cases h1 : (2147483647 : Int) < n
  · go_enter Tryz.func51, Tryz.ntmps51
    go_wp2
    go_ret
    exact ⟨⟨_, rfl⟩, Kept.refl _ _⟩
  · go_enter Tryz.func51, Tryz.ntmps51
    go_wp2
    go_loopw [10] (fun i wr => ∃ k : Nat, k ≤ n ∧ i = .int .i64 k ∧ Kept [] w wr) (fun i _ => n - (intOf i).toNat)
    case atStart => exact ⟨0, Nat.zero_le _, rfl, Kept.refl _ _⟩
    case round =>
      obtain ⟨k, hk, rfl, hkw⟩ := hrel
      by_cases hlt : k < n
      · obtain ⟨x, hkx⟩ : ∃ x, l[k]? = some x := ⟨_, List.getElem?_eq_getElem (by have := HLN.out; omega)⟩
        obtain ⟨g, off, rfl, hcell⟩ := strs_at HC.out (by omega)
        have c1 := hkw.cell (hcell k x hkx) (by simp)
        clear hcell hkx
        by_cases h2 : (2147483647 : Int) < x.size
        · go_wp2
          go_ret
          exact ⟨⟨_, rfl⟩, hkw⟩
        · go_wp2
          go_roundw
          case rel => exact ⟨k + 1, by omega, by go_num, hkw⟩
          case measure => simp [intOf]; omega
      · go_wp2
        go_ret
        exact ⟨⟨_, rfl⟩, hkw⟩

/-- a member whose slices stand as slices, boxed at block b -/
def mcs (id : ByteArray) (ver : Int) (ta : Option Addr) (tn tc : Nat) (da : Option Addr) (dn dc : Nat) (oa : Option Addr) (on oc : Nat) (gen : Int) (rack : ByteArray) (has : Bool) : Array Value :=
  #[.string id, .int .i16 ver, .slice ta tn tc, .slice da dn dc, .slice oa on oc, .int .i32 gen, .string rack, .bool has]
theorem mcs_form {w : World} {m : Mem} (h : MemAt w m) : ∃ ta tc da dc oa oc, (memCells m).toArray = mcs m.id m.ver ta m.tops.length tc da m.data.length dc oa m.owned.length oc m.gen m.rack m.has ∧
    SlStrs w (.slice ta m.tops.length tc) m.tops ∧ SlAt w 1 (.slice da m.data.length dc) m.data.length m.data ∧ ShrsAt w (.slice oa m.owned.length oc) m.owned := by
  obtain ⟨⟨⟨ta, tc, h1⟩, h2⟩, ⟨⟨da, dc, h3⟩, h4⟩, h5⟩ := h
  obtain ⟨oa, oc, h6⟩ := h5.form
  rw [h1] at h2
  rw [h3] at h4
  rw [h6] at h5
  exact ⟨ta, tc, da, dc, oa, oc, by simp [memCells, mcs, h1, h3, h6], ⟨⟨_, _, rfl⟩, h2⟩, h4, h5⟩

theorem box8 {w w' : World} {a0 a1 a2 a3 a4 a5 a6 a7 : Value} {T : TypeId} (k : Kept [] (w.alloc (.cells #[a0, a1, a2, a3, a4, a5, a6, a7] T)) w') :
    w'.heap[w.heap.size]? = some (.cells #[a0, a1, a2, a3, a4, a5, a6, a7] T (0, 0)) ∧ w'.cell? ⟨w.heap.size, 0, none⟩ = some a0 ∧ w'.cell? ⟨w.heap.size, 1, none⟩ = some a1 ∧ w'.cell? ⟨w.heap.size, 2, none⟩ = some a2 ∧ w'.cell? ⟨w.heap.size, 3, none⟩ = some a3 ∧
    w'.cell? ⟨w.heap.size, 4, none⟩ = some a4 ∧ w'.cell? ⟨w.heap.size, 5, none⟩ = some a5 ∧ w'.cell? ⟨w.heap.size, 6, none⟩ = some a6 ∧ w'.cell? ⟨w.heap.size, 7, none⟩ = some a7 := by
  have h := k.heap (heap_alloc_new w (.cells #[a0, a1, a2, a3, a4, a5, a6, a7] T)) (by simp)
  obtain ⟨h1, _⟩ := cells_of h
  exact ⟨h, h1 0 _ rfl, h1 1 _ rfl, h1 2 _ rfl, h1 3 _ rfl, h1 4 _ rfl, h1 5 _ rfl, h1 6 _ rfl, h1 7 _ rfl⟩

set_option maxRecDepth 100000 in
set_option maxHeartbeats 1000000 in
theorem fits3 (m : Mem) (w : World) (hm : MemAt w m) (h1 : m.tops.length ≤ maxLen) (h2 : m.owned.length ≤ maxLen) :
    Calls Tryz.prog 27 #[.agg (memCells m).toArray] w fun e w' => AnyBool e ∧ Kept [] w w' := by
  obtain ⟨ta, tc, da, dc, oa, oc, e, ht, hd, ho⟩ := mcs_form hm
  rw [e]
  unfold mcs
  have h4 := fun w' (k : Kept [] w w') => fits4 _ _ w' (ht.kept k (by simp)) h1
  have h5 := fun w' (k : Kept [] w w') => fits5 _ _ w' (ho.kept k (by simp) (by simp)) h2
  have H4 := Lib.hid h4; clear h4
  have H5 := Lib.hid h5; clear h5
  clear ht hd ho hm e
  generalize m.tops.length = tn at *
  generalize m.owned.length = on at *
  generalize m.data.length = dn at *
  have hk0 : ∀ o, Kept [] w (w.alloc o) := fun o => (Kept.refl _ _).alloc o
  have HK := Lib.hid hk0; clear hk0
  go_enter Tryz.func27, Tryz.ntmps27
  go_wp2_with (first
    | (go_at_call 51; refine (H4.out _ (HK.out _)).mono ?_; rintro e w1 ⟨⟨b1, rfl⟩, hk1⟩; obtain ⟨_, _, _, _, c3, c4, _, c6, _⟩ := box8 hk1; cases b1)
    | (go_at_call 13; refine (H5.out _ ((HK.out _).trans hk1 (by simp) (by simp))).mono ?_; rintro e w2 ⟨⟨b2, rfl⟩, hk2⟩; obtain ⟨_, _, _, _, _, _, _, d6, _⟩ := box8 (hk1.trans hk2 (U := []) (by simp) (by simp)); cases b2)
    | fail)
  all_goals
    go_ret
    first
      | exact ⟨⟨_, rfl⟩, (((HK.out _).trans hk1 (U := []) (by simp) (by simp))).trans hk2 (by simp) (by simp)⟩
      | exact ⟨⟨_, rfl⟩, (HK.out _).trans hk1 (by simp) (by simp)⟩
      | exact ⟨⟨_, rfl⟩, HK.out _⟩

theorem ba_nil {s : ByteArray} (h : s.toList = []) : s = ⟨#[]⟩ := by
  rw [ByteArray.toList_eq] at h
  apply ByteArray.ext
  exact Array.toList_inj.1 h
/-- what memberFits asks -/
structure MemFit (m : Mem) : Prop where
  ver : 0 ≤ m.ver ∧ m.ver ≤ 3
  tops : m.tops.length ≤ 10 ∧ ∀ x ∈ m.tops, x.size ≤ 50
  data : m.data.length ≤ 100
  rack : m.rack.size ≤ 50 ∧ (m.has = true ∨ m.rack = ⟨#[]⟩)
  owned : SharesFit m.owned

set_option maxRecDepth 100000 in
set_option maxHeartbeats 4000000 in
theorem memberFits_any (m : Mem) (w : World) (hm : MemAt w m) (h1 : m.tops.length ≤ maxLen) (h2 : m.owned.length ≤ maxLen) (h3 : m.data.length ≤ maxLen) :
    Calls Tryz.prog 28 #[.agg (memCells m).toArray] w fun e w' => BoolSays e (MemFit m) ∧ Kept [] w w' := by
  obtain ⟨ta, tc, da, dc, oa, oc, e, ht, hd, ho⟩ := mcs_form hm
  rw [e]
  unfold mcs
  have h5 := fun w' (k : Kept [] w w') => sharesFit_any _ _ w' (ho.kept k (by simp) (by simp)) h2
  have H5 := Lib.hid h5; clear h5
  have HT := Lib.hid ht; clear ht
  have hmx : maxLen = 9223372036854775807 := rfl
  have hfit : ∀ p : MemFit m, _ := fun p => And.intro p.ver (And.intro p.tops (And.intro p.data (And.intro p.rack p.owned)))
  have HFIT := Lib.hid hfit; clear hfit
  have hfit2 := MemFit.mk (m := m)
  have HFIT2 := Lib.hid hfit2; clear hfit2
  clear hd ho hm e
  obtain ⟨id, ver, tv, tops, dv, data, ov, owned, gen, rack, has⟩ := m
  simp only at *
  generalize htn : tops.length = tn at *
  generalize owned.length = on at *
  generalize hdn : data.length = dn at *
  have HTN := Lib.hid (And.intro htn hdn); clear htn hdn
  have hk0 : ∀ o, Kept [] w (w.alloc o) := fun o => (Kept.refl _ _).alloc o
  have HK := Lib.hid hk0; clear hk0
  go_enter Tryz.func28, Tryz.ntmps28
  go_wp2_with fail
  have hB := box8 (Kept.refl [] (w.alloc (.cells #[.string id, .int .i16 ver, .slice ta tn tc, .slice da dn dc, .slice oa on oc, .int .i32 gen, .string rack, .bool has] 30)))
  have hkM := HK.out (.cells #[.string id, .int .i16 ver, .slice ta tn tc, .slice da dn dc, .slice oa on oc, .int .i32 gen, .string rack, .bool has] 30)
  generalize (w.alloc (.cells #[.string id, .int .i16 ver, .slice ta tn tc, .slice da dn dc, .slice oa on oc, .int .i32 gen, .string rack, .bool has] 30)) = M at *
  obtain ⟨_, c0, c1, c2, c3, c4, c5, c6, c7⟩ := hB
  go_loop [3] (fun i => ∃ k : Nat, k ≤ tn ∧ i = .int .i64 k ∧ ∀ x ∈ tops.take k, x.size ≤ 50) (fun i => tn - (intOf i).toNat)
  case atStart => exact ⟨0, Nat.zero_le _, rfl, by simp⟩
  case round =>
    obtain ⟨k, hk, rfl, hall⟩ := hrel
    have HA := Lib.hid hall; clear hall
    by_cases hlt : k < tn
    · obtain ⟨x, hkx⟩ : ∃ x, tops[k]? = some x := ⟨_, List.getElem?_eq_getElem (by have := HTN.out.1; omega)⟩
      have hts := HT.out.2
      rw [HTN.out.1] at hts
      obtain ⟨g, off, rfl, hcell⟩ := strs_at hts (by omega)
      clear hts
      have cx := hkM.cell (hcell k x hkx) (by simp)
      have hxm := List.mem_of_getElem? hkx
      have HX := Lib.hid (And.intro hkx hxm)
      clear hcell hkx hxm
      by_cases h4 : (50 : Int) < x.size
      · go_wp2
        go_ret
        exact ⟨.inr ⟨rfl, fun p => by have := (HFIT.out p).2.1.2 x HX.out.2; omega⟩, hkM⟩
      · go_wp2
        go_round
        case rel =>
          refine ⟨k + 1, by omega, by go_num, fun y hy => ?_⟩
          obtain ⟨hk', hx'⟩ := List.getElem?_eq_some_iff.1 HX.out.1
          rw [List.take_succ_eq_append_getElem hk', hx'] at hy
          rcases List.mem_append.1 hy with hy | hy
          · exact HA.out y hy
          · simp only [List.mem_cons, List.not_mem_nil, or_false] at hy
            subst hy; omega
        case measure => simp [intOf]; omega
    · have hall : ∀ x ∈ tops, x.size ≤ 50 := by
        have := HA.out
        rw [List.take_of_length_le (by have := HTN.out.1; omega)] at this
        exact this
      have HALL := Lib.hid hall; clear hall
      by_cases g1 : 0 ≤ ver
      · by_cases g2 : ver ≤ 3
        · by_cases g3 : (tn : Int) ≤ 10
          · by_cases g4 : (dn : Int) ≤ 100
            · by_cases g5 : (rack.size : Int) ≤ 50
              · have hmk : ∀ (_ : has = true ∨ rack = ⟨#[]⟩) (q : SharesFit owned), MemFit ⟨id, ver, tv, tops, dv, data, ov, owned, gen, rack, has⟩ := fun r q => HFIT2.out ⟨g1, g2⟩ ⟨by omega, HALL.out⟩ (by omega) ⟨by omega, r⟩ q
                have HMK := Lib.hid hmk; clear hmk
                cases has
                · by_cases g6 : rack = ⟨#[]⟩
                  · subst g6
                    go_wp2_with (first
                      | (go_at_call 20
                         refine (H5.out _ hkM).mono ?_
                         rintro e w1 ⟨⟨rfl, hfit⟩ | ⟨rfl, hfit⟩, hk1⟩)
                      | fail)
                    · go_ret
                      exact ⟨.inl ⟨rfl, HMK.out (.inr trivial) hfit⟩, hkM.trans hk1 (by simp) (by simp)⟩
                    · go_ret
                      exact ⟨.inr ⟨rfl, fun p => hfit (HFIT.out p).2.2.2.2⟩, hkM.trans hk1 (by simp) (by simp)⟩
                  · have hr : ¬ (rack.toList = []) := fun h => g6 (ba_nil h)
                    go_wp2_with fail
                    go_ret
                    exact ⟨.inr ⟨rfl, fun p => by
                      rcases (HFIT.out p).2.2.2.1.2 with h | h
                      · cases h
                      · exact g6 h⟩, hkM⟩
                · go_wp2_with (first
                    | (go_at_call 20
                       refine (H5.out _ hkM).mono ?_
                       rintro e w1 ⟨⟨rfl, hfit⟩ | ⟨rfl, hfit⟩, hk1⟩)
                    | fail)
                  · go_ret
                    exact ⟨.inl ⟨rfl, HMK.out (.inl trivial) hfit⟩, hkM.trans hk1 (by simp) (by simp)⟩
                  · go_ret
                    exact ⟨.inr ⟨rfl, fun p => hfit (HFIT.out p).2.2.2.2⟩, hkM.trans hk1 (by simp) (by simp)⟩
              · go_wp2_with fail
                go_ret
                exact ⟨.inr ⟨rfl, fun p => by have := (HFIT.out p).2.2.2.1.1; omega⟩, hkM⟩
            · go_wp2_with fail
              go_ret
              exact ⟨.inr ⟨rfl, fun p => by have := (HFIT.out p).2.2.1; have := HTN.out.2; omega⟩, hkM⟩
          · go_wp2_with fail
            go_ret
            exact ⟨.inr ⟨rfl, fun p => by have := (HFIT.out p).2.1.1; have := HTN.out.1; omega⟩, hkM⟩
        · go_wp2_with fail
          go_ret
          exact ⟨.inr ⟨rfl, fun p => by have := (HFIT.out p).1.2; omega⟩, hkM⟩
      · go_wp2_with fail
        go_ret
        exact ⟨.inr ⟨rfl, fun p => by have := (HFIT.out p).1.1; omega⟩, hkM⟩
end Go.Proofs.YticcnlpfmekagaaGreat
