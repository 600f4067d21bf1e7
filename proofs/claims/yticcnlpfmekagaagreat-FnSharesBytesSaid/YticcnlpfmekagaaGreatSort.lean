import Derived.Test.YticcnlpfmekagaaGreatShelf2
import Derived.Test.YticcnlpfmekagaaGreatShares
import Derived.Sort.Walk0
namespace Go.Proofs.YticcnlpfmekagaaGreat
open Go Go.Proofs Go.RowKit Go.Sort
set_option linter.unusedVariables false
set_option linter.unusedSimpArgs false

/-! ## slices.SortFunc of shares, by topic -/

def topLt (x y : ByteArray) : Bool := Op.bytesLess x.toList y.toList
def cfTop (x y : ByteArray) : Int := if topLt x y = true then -1 else if (x.toList == y.toList) = true then 0 else 1
theorem cfTop_lt (x y : ByteArray) : (cfTop x y < 0) ↔ topLt x y = true := by
  unfold cfTop
  by_cases h : topLt x y = true
  · simp [h]
  · simp only [h]
    by_cases h2 : (x.toList == y.toList) = true
    · simp [h2]
    · simp [h2]

theorem cmp79 (a0 a2 b0 b2 : Value) (x y : ByteArray) (W : World) :
    Calls Tryz.prog 79 #[.agg #[a0, .string x, a2], .agg #[b0, .string y, b2]] W fun e w' => e = .returned (.int .i64 (cfTop x y)) ∧ ∃ q os', w' = grow (W.drewN q) os' := by
  have hg : ∀ o1 o2, (W.alloc o1).alloc o2 = grow (W.drewN 0) #[o1, o2] := fun o1 o2 => by rw [alloc_eq_grow, alloc_eq_grow, grow_grow]; rfl
  have HG := Lib.hid hg; clear hg
  by_cases h1 : Op.bytesLess x.toList y.toList = true
  · have e : cfTop x y = -1 := by simp [cfTop, topLt, h1]
    rw [e]; clear e
    go_enter Tryz.func79, Tryz.ntmps79
    go_wp2
    go_ret
    exact ⟨rfl, 0, _, HG.out _ _⟩
  · have h1' : Op.bytesLess x.toList y.toList = false := by simpa using h1
    clear h1
    by_cases h2 : (x.toList == y.toList) = true
    · have e : cfTop x y = 0 := by simp [cfTop, topLt, h1', h2]
      rw [e]; clear e
      go_enter Tryz.func79, Tryz.ntmps79
      go_wp2
      go_ret
      exact ⟨rfl, 0, _, HG.out _ _⟩
    · have h2' : (x.toList == y.toList) = false := by simpa using h2
      have e : cfTop x y = 1 := by simp only [cfTop, topLt, h1', h2']; rfl
      rw [e]; clear e h2
      go_enter Tryz.func79, Tryz.ntmps79
      go_wp2
      go_ret
      exact ⟨rfl, 0, _, HG.out _ _⟩

theorem cmp66 (a0 a2 b0 b2 : Value) (x y : ByteArray) (W : World) :
    Calls Tryz.prog 66 #[.agg #[a0, .string x, a2], .agg #[b0, .string y, b2]] W fun e w' => e = .returned (.int .i64 (cfTop x y)) ∧ ∃ q os', w' = grow (W.drewN q) os' := by
  have hg : ∀ o1 o2, (W.alloc o1).alloc o2 = grow (W.drewN 0) #[o1, o2] := fun o1 o2 => by rw [alloc_eq_grow, alloc_eq_grow, grow_grow]; rfl
  have HG := Lib.hid hg; clear hg
  by_cases h1 : Op.bytesLess x.toList y.toList = true
  · have e : cfTop x y = -1 := by simp [cfTop, topLt, h1]
    rw [e]; clear e
    go_enter Tryz.func66, Tryz.ntmps66
    go_wp2
    go_ret
    exact ⟨rfl, 0, _, HG.out _ _⟩
  · have h1' : Op.bytesLess x.toList y.toList = false := by simpa using h1
    clear h1
    by_cases h2 : (x.toList == y.toList) = true
    · have e : cfTop x y = 0 := by simp [cfTop, topLt, h1', h2]
      rw [e]; clear e
      go_enter Tryz.func66, Tryz.ntmps66
      go_wp2
      go_ret
      exact ⟨rfl, 0, _, HG.out _ _⟩
    · have h2' : (x.toList == y.toList) = false := by simpa using h2
      have e : cfTop x y = 1 := by simp only [cfTop, topLt, h1', h2']; rfl
      rw [e]; clear e h2
      go_enter Tryz.func66, Tryz.ntmps66
      go_wp2
      go_ret
      exact ⟨rfl, 0, _, HG.out _ _⟩

theorem topLt_swo : SWO (fun x y : ByteArray => topLt x y) where
  irrefl := fun x => by unfold topLt; rw [bytesLess_eq]; simp
  trans := fun x y z h1 h2 => by
    unfold topLt at *
    rw [bytesLess_eq] at *
    simp only [decide_eq_true_eq] at *
    exact List.lt_trans h1 h2
  ntrans := fun x y z h1 h2 => by
    unfold topLt at *
    rw [bytesLess_eq] at *
    simp only [decide_eq_false_iff_not] at *
    exact fun h => (List.le_trans (List.not_lt.1 h2) (List.not_lt.1 h1)) h

/-- shares whose slice is one cell, as each is -/
abbrev ShrO := { x : Shr // x.val.oneCell' = true }
instance : Inhabited ShrO := ⟨⟨⟨⟨#[]⟩, ⟨#[]⟩, .slice none 0 0, []⟩, rfl⟩⟩
def encO (x : ShrO) : List Value := shrCells x.1
theorem encO_len (x : ShrO) : (encO x).length = 3 := rfl
theorem encO_one (x : ShrO) : ∀ v ∈ encO x, v.oneCell' = true := by
  intro v hv
  simp [encO, shrCells] at hv
  rcases hv with rfl | rfl | rfl
  · rfl
  · rfl
  · exact x.2

theorem kept_sortWorldK {w : World} {g n : Nat} {os : Array Obj} {d : Array ShrO} : Kept [g] w (sortWorldK encO 3 w g 0 n d os) := by
  refine ⟨rfl, rfl, rfl, by unfold sortWorldK putRowK; simp, fun k hk hne => ?_⟩
  unfold sortWorldK putRowK
  rw [heap_grow_old _ _ (by simpa using hk)]
  have : g ≠ k := fun e => hne (by simp [e])
  simp [putRow, mapBlock, Sort.ahead, Array.getElem?_modify, this]

theorem sa_sorted {w : World} {blk n : Nat} {d : Array ShrO} (c : Nat) (hs : d.size = n) (hH : HoldsK encO 3 w blk 0 d) : SlAt w 3 (.slice (some ⟨blk, 0, none⟩) n c) n ((d.toList.map (·.1)).flatMap shrCells) := by
  have hl : ∀ x ∈ d.toList.map (·.1), (shrCells x).length = 3 := fun x _ => rfl
  refine ⟨?_, ?_, .inr ⟨blk, 0, c, rfl, fun j u hj => ?_⟩⟩
  · have : ∀ l : List Shr, (l.flatMap shrCells).length = l.length * 3 := fun l => by
      induction l with
      | nil => rfl
      | cons y l ih => rw [List.flatMap_cons, List.length_append, ih, List.length_cons]; show 3 + _ = _; omega
    rw [this]; simp [hs]
  · intro u hu
    obtain ⟨x, hx, hu⟩ := List.mem_flatMap.1 hu
    obtain ⟨y, _, rfl⟩ := List.mem_map.1 hx
    exact encO_one y u hu
  · have hsp : ∀ (l : List ShrO) (j : Nat) (u : Value), ((l.map (·.1)).flatMap shrCells)[j]? = some u → ∃ i r y, r < 3 ∧ j = i * 3 + r ∧ l[i]? = some y ∧ (encO y)[r]? = some u := by
      intro l
      induction l with
      | nil => intro j u h; simp at h
      | cons y l ih =>
        intro j u h
        rw [List.map_cons, List.flatMap_cons] at h
        by_cases hj : j < 3
        · rw [List.getElem?_append_left hj] at h
          exact ⟨0, j, y, hj, by omega, rfl, h⟩
        · rw [List.getElem?_append_right (by show 3 ≤ j; omega)] at h
          obtain ⟨i, r, z, h1, h2, h3, h4⟩ := ih _ _ h
          have h2' : j - 3 = i * 3 + r := h2
          exact ⟨i + 1, r, z, h1, by omega, by simpa using h3, h4⟩
    obtain ⟨i, r, y, hr, rfl, hy, hu⟩ := hsp _ _ _ hj
    have hi : i < d.size := by have := (List.getElem?_eq_some_iff.1 hy).1; simpa using this
    have hd : d[i]! = y := by
      rw [getElem!_pos d i hi]
      rw [Array.getElem?_toList, Array.getElem?_eq_getElem hi] at hy
      simpa using hy
    have := HoldsK.cells hH encO_len hi r u (by rw [hd]; exact hu)
    rw [Addr.add_lit] at this
    simpa [Nat.add_assoc] using this

theorem hlenO (n : Nat) (W : World) (h : n ≤ 12) : Calls Tryz.prog 78 #[.int .u64 n] W fun e w' => (∃ l : Int, e = .returned (.int .i64 l)) ∧ w' = W :=
  (Tryz.bits_Len n W (by omega) (by omega)).mono fun _ _ ⟨he, hw⟩ => ⟨⟨_, he⟩, hw⟩

/-- a comparison of shares by topic -/
structure CmpTop (f : FuncId) : Prop where
  eg : ∀ args w, (callFunc f args).run Tryz.prog w = .ok (.enter f args) w
  c : ∀ (a0 a2 b0 b2 : Value) (x y : ByteArray) (W : World), Calls Tryz.prog f #[.agg #[a0, .string x, a2], .agg #[b0, .string y, b2]] W fun e w' => e = .returned (.int .i64 (cfTop x y)) ∧ ∃ q os', w' = grow (W.drewN q) os'
theorem cmpTop79 : CmpTop 79 := ⟨fun _ _ => by kernel_rfl, cmp79⟩
theorem cmpTop66 : CmpTop 66 := ⟨fun _ _ => by kernel_rfl, cmp66⟩

theorem sortShr_any (f : FuncId) (hf : CmpTop f) (v : Value) (L : List Shr) (w : World) (hown : w.ownsRow 0 33 3 v L.length (L.flatMap shrCells)) (hp : ∀ x ∈ L, x.val.oneCell' = true) (h12 : L.length ≤ 12) :
    Calls Tryz.prog 65 #[v, .func (.func f) #[] #[]] w fun e w' => e = .returned (.tuple #[]) ∧ ∃ L' : List Shr, L'.Perm L ∧ L'.Pairwise (fun x y => topLt y.top x.top = false) ∧ SlAt w' 3 v L.length (L'.flatMap shrCells) ∧ Kept v.ownBlock.toList w w' := by
  by_cases h1 : L.length ≤ 1
  · obtain ⟨a, n, c, rfl⟩ := own_form hown
    have hn : n = L.length := by
      rcases hown.2 with ⟨e1, e2⟩ | ⟨g, cap, cur, e1, _⟩
      · cases e1; exact e2.symm
      · cases e1; rfl
    refine (sortSh_small a n c _ (by omega) w).mono ?_
    rintro e w' ⟨rfl, hk⟩
    refine ⟨rfl, L, List.Perm.refl _, ?_, ?_, hk.mono (by simp)⟩
    · match L, h1 with
      | [], _ => simp
      | [x], _ => simp
    · have h2 : ∀ u ∈ L.flatMap shrCells, u.oneCell' = true := by
        intro u hu
        obtain ⟨x, hx, hu⟩ := List.mem_flatMap.1 hu
        exact encO_one ⟨x, hp x hx⟩ u hu
      exact (own_sl hown h2).kept hk (by simp)
  · rcases hown.2 with ⟨e1, e2⟩ | ⟨g, cap, cur, rfl, _, hg, hn1, hn2, hn3, hn4⟩
    · omega
    · let d : Array ShrO := (L.attach.map fun x => (⟨x.1, hp x.1 x.2⟩ : ShrO)).toArray
      have hdl : d.toList.map (·.1) = L := by simp [d, List.map_map, Function.comp_def]
      have hds : d.size = L.length := by simp [d]
      have hH : HoldsK encO 3 w g 0 d := by
        unfold HoldsK
        intro j hj
        simp only [size_flatK] at hj
        rw [get_flatK _ _ _ _ hj]
        refine ⟨?_, by simp [World.frozen?, hg]⟩
        have hi : j / 3 < d.size := by omega
        have hx : L[j / 3]? = some d[j / 3]!.1 := by
          rw [getElem!_pos d _ hi]
          have : (d.toList.map (·.1))[j / 3]? = some d[j / 3].1 := by
            rw [List.getElem?_map, Array.getElem?_toList, Array.getElem?_eq_getElem hi]; rfl
          rwa [hdl] at this
        obtain ⟨g0, g1, g2⟩ := shr_get hx
        have hcell : ∀ q u, (L.flatMap shrCells)[q]? = some u → w.cell? ⟨g, q, none⟩ = some u := fun q u hq => by
          have := hown.cells (g := g) rfl q u hq
          rw [Addr.add_lit] at this
          simpa using this
        rw [Nat.zero_add]
        have hm : j % 3 < 3 := Nat.mod_lt _ (by omega)
        have hj3 : j = j / 3 * 3 + j % 3 := by omega
        rcases (by omega : j % 3 = 0 ∨ j % 3 = 1 ∨ j % 3 = 2) with h | h | h
        · rw [h] at hj3 ⊢; rw [hj3]; have e3 : (j / 3 * 3 + 0) / 3 = j / 3 := by omega
          rw [e3]; exact hcell _ _ g0
        · rw [h] at hj3 ⊢; rw [hj3]; have e3 : (j / 3 * 3 + 1) / 3 = j / 3 := by omega
          rw [e3]; exact hcell _ _ g1
        · rw [h] at hj3 ⊢; rw [hj3]; have e3 : (j / 3 * 3 + 2) / 3 = j / 3 := by omega
          rw [e3]; exact hcell _ _ g2
      have hgl := lt_of_heap hg
      have hS : SWO (ltOf fun x y : ShrO => cfTop x.1.top y.1.top) := by
        have e : (ltOf fun x y : ShrO => cfTop x.1.top y.1.top) = fun x y => topLt x.1.top y.1.top := by
          funext x y
          unfold ltOf
          rw [Bool.eq_iff_iff, decide_eq_true_eq]; exact cfTop_lt _ _
        rw [e]
        exact ⟨fun x => topLt_swo.irrefl _, fun x y z => topLt_swo.trans _ _ _, fun x y z => topLt_swo.ntrans _ _ _⟩
      have hc := AnyQ.slices_SortFunc_small_sorted Tryz.laysSortShr 3 Tryz.isAgg33 Tryz.sizeOf33 encO encO_len encO_one (fun x y : ShrO => cfTop x.1.top y.1.top) f #[] hS g 0 cap d w hf.eg
        (fun _ _ _ _ x y => hf.c _ _ _ _ _ _ _) hH hgl (by omega) hlenO
      change Calls Tryz.prog 65 _ _ _ at hc
      rw [hds] at hc
      refine hc.mono ?_
      rintro e w' ⟨rfl, d', n, os, hperm, hsort, rfl⟩
      have hds' : d'.size = d.size := hperm.1
      have hH' := holdsK_sortWorldK_c encO 3 w g 0 d d' n os hH hgl hds'
      refine ⟨rfl, d'.toList.map (·.1), ?_, ?_, sa_sorted cap (by omega) hH', by simpa [Value.ownBlock] using kept_sortWorldK⟩
      · rw [← hdl]
        have h2 := hperm.2.2
        have e1 : d'.extract 0 d.size = d' := by rw [← hds']; exact Array.extract_size
        have e2 : d.extract 0 d.size = d := Array.extract_size
        rw [← hds, e1, e2] at h2
        exact h2.map _
      · rw [List.pairwise_map, List.pairwise_iff_getElem]
        intro i j hi hj hij
        have h3 := hsort i j (Nat.zero_le _) hij (by rw [← hds, ← hds']; simpa using hj)
        unfold ltOf at h3
        rw [getElem!_pos d' i (by simpa using hi), getElem!_pos d' j (by simpa using hj)] at h3
        rw [decide_eq_false_iff_not] at h3
        have h4 : ¬ topLt (d'.toList[j]).1.top (d'.toList[i]).1.top = true := fun h => h3 ((cfTop_lt _ _).2 (by simpa using h))
        simpa using h4
end Go.Proofs.YticcnlpfmekagaaGreat
