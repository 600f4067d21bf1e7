/- Part 11 of the proof of the row: Shares, Sort. -/
import Derived.Test.YticcnlpfmekagaaGreatRc00
import Derived.Test.YticcnlpfmekagaaGreatRc10
import Derived.Test.YticcnlpfmekagaaGreatRc08
import Derived.Sort.Walk0
set_option linter.unusedVariables false
set_option linter.unusedSimpArgs false
set_option maxRecDepth 100000
set_option maxHeartbeats 8000000
namespace Go.Proofs.YticcnlpfmekagaaGreat
section
open Go Go.Proofs Go.RowKit
theorem insSh_small (v f : Value) (n : Nat) (hn : n ≤ 1) (w : World) : Calls Tryz.prog 107 #[v, .int .i64 0, .int .i64 n, f] w fun e w' => e = .returned (.tuple #[]) ∧ w = w' := by
 go_enter Tryz.func107, Tryz.ntmps107
 go_wp2
 go_loopw [8] (fun i wr => i = .int .i64 1 ∧ wr = w) (fun i _ => 0)
 case atStart => exact ⟨rfl, rfl⟩
 case round =>
  obtain ⟨rfl, rfl⟩ := hrel
  go_wp2
  go_end0
  exact ⟨rfl, rfl⟩
theorem pdqSh_small (v f : Value) (n : Nat) (l : Int) (hn : n ≤ 1) (w : World) : Calls Tryz.prog 83 #[v, .int .i64 0, .int .i64 n, .int .i64 l, f] w fun e w' => e = .returned (.tuple #[]) ∧ Kept [] w w' := by
 go_enter Tryz.func83, Tryz.ntmps83
 go_wp2
 go_loopw [1, 2, 3] (fun x y z wr => x = .int .i64 0 ∧ y = .int .i64 n ∧ z = .int .i64 l ∧ wr = w) (fun _ _ _ _ => 0)
 case atStart => exact ⟨rfl, rfl, rfl, rfl⟩
 case round =>
  obtain ⟨rfl, rfl, rfl, rfl⟩ := hrel
  go_wp2_with (go_at_call 107; refine (insSh_small _ _ _ hn _).mono ?_; rintro e w1 ⟨rfl, rfl⟩)
  all_goals try (exfalso; omega)
  refine bodyPost_ret (results_none rfl _ _ _) rfl ?_
  exact ⟨rfl, Kept.refl _ _⟩
theorem sortSh_small (a : Option Addr) (n c : Nat) (f : Value) (hn : n ≤ 1) (w : World) : Calls Tryz.prog 65 #[.slice a n c, f] w fun e w' => e = .returned (.tuple #[]) ∧ Kept [] w w' := by
 go_enter Tryz.func65, Tryz.ntmps65
 go_wp2_with (first
  | (go_at_call 78; refine (Tryz.bits_Len _ _ (by omega) (by omega)).mono ?_; rintro e w1 ⟨rfl, rfl⟩)
  | (go_at_call 83; refine (pdqSh_small _ _ _ _ hn _).mono ?_; rintro e w1 ⟨rfl, hk⟩)
  | fail)
 go_end0
 exact ⟨rfl, hk⟩
theorem infoSh : (Tryz.prog.info? 33).map (fun i => (i.zero, i.size, i.bytes)) = some (some (.agg #[.string ⟨#[]⟩, .string ⟨#[]⟩, .slice none 0 0]), 3, 56) := by kernel_rfl
theorem elSh : Elem Tryz.prog 23 33 3 56 (.agg #[.string ⟨#[]⟩, .string ⟨#[]⟩, .slice none 0 0]) := ⟨Tryz.underlying23, info_parts infoSh, rfl, by omega⟩
theorem new_sl3 (w : World) (E : TypeId) (a b c : Value) (h : [a, b, c].all (·.oneCell') = true) : SlAt (w.alloc (.cells #[a, b, c] E)) 3 (.slice (some ⟨w.heap.size, 0, none⟩) 1 1) 1 [a, b, c] := by
 refine ⟨by simp, fun u hu => (List.all_eq_true.1 h) u hu, .inr ⟨_, 0, 1, rfl, fun j u hj => ?_⟩⟩
 have hh := heap_alloc_new w (.cells #[a, b, c] E)
 rw [Nat.zero_add]
 have hc := (cells_of hh).1 j u (by simpa using hj)
 exact hc
def trip (x : Shr) : ByteArray × ByteArray × List Int := (x.mem, x.top, x.parts)
def tripOf (m : ByteArray) (x : ByteArray × Value × List Int) : ByteArray × ByteArray × List Int := (m, x.1, x.2.2)
def full (x : ByteArray × Value × List Int) : Bool := !x.2.2.isEmpty
theorem shrCells_one {w : World} {L : List Shr} (h : ∀ x ∈ L, SlInts w x.val x.parts) : ∀ u ∈ L.flatMap shrCells, u.oneCell' = true := by
 intro u hu
 obtain ⟨x, hx, hu⟩ := List.mem_flatMap.1 hu
 obtain ⟨⟨a, c, hv⟩, _⟩ := h x hx
 simp [shrCells, hv] at hu
 rcases hu with rfl | rfl | rfl <;> rfl
theorem shares_any (mem : ByteArray) (r : Nat) (D : Tops) (w : World) (hD : TopsAt w r D) (hn : D.length ≤ 1) (hsz : ∀ x ∈ D, x.2.2.length ≤ 1000000) (hlt : ∀ x ∈ D, ∀ g, x.2.1.ownBlock = some g → g < w.heap.size) :
 Calls Tryz.prog 49 #[.string mem, .map (some r)] w fun e w' => ∃ a c L, e = .returned (.slice a L.length c) ∧ ShrsAt w' (.slice a L.length c) L ∧ (L.map trip).Perm ((D.filter full).map (tripOf mem)) ∧ Kept [] w w' ∧ Fresh w (.slice a L.length c) ∧ (∀ x ∈ L, ∀ g, x.val.ownBlock = some g → w.heap.size ≤ g ∧ g < w'.heap.size) := by
 have hrl := hD.map.lt
 have HD := Zhd hD; clear hD
 have HSZ := Zhd hsz; clear hsz
 have HLT := Zhd hlt; clear hlt
 go_enter Tryz.func49, Tryz.ntmps49
 go_wp2_with (refine wl_range rfl rfl rfl Tryz.underlying90 HD.out.map ?_; intro w2 hit2 hmap2 hk2 hsz2)
 go_frame
 have hitr : w.heap.size ≠ r := by omega
 have own0 := own_nil 33 3 (w := w2)
 go_loopw [5] (fun v wr => ∃ A M : Tops, ∃ L : List Shr, (A ++ M).Perm D ∧ IterAt wr w.heap.size r (rawT D) (rawT M) ∧ wr.ownsRow 0 33 3 v L.length (L.flatMap shrCells) ∧ (∀ x ∈ L, SlInts wr x.val x.parts) ∧ L.map trip = (A.filter full).map (tripOf mem) ∧
  Kept [] w wr ∧ Fresh w2 v ∧ (∀ x ∈ L, ∀ g, x.val.ownBlock = some g → w2.heap.size ≤ g ∧ g < wr.heap.size) ∧ (∀ g, v.ownBlock = some g → (∀ x ∈ L, x.val.ownBlock ≠ some g) ∧ g < wr.heap.size) ∧ w2.heap.size ≤ wr.heap.size) (fun _ wr => leftOf wr w.heap.size r)
 case atStart => exact ⟨[], D, [], by simp, hit2, own0, by simp, by simp, hk2, Fresh.nil _, by simp, by simp [Value.ownBlock], Nat.le_refl _⟩
 case round =>
  obtain ⟨A, M, L, hperm, hit, hown, hints, htrip, hkw, hfv, hfL, hdis, hszw⟩ := hrel
  obtain ⟨va, vn, vc, rfl⟩ := own_form hown
  have hLl : L.length ≤ 1 := by
   have h1 := congrArg List.length htrip
   have h2 := hperm.length_eq
   have h3 := List.length_filter_le full A
   simp only [List.length_map, List.length_append] at h1 h2
   omega
  cases M with
  | nil =>
    have hit0 : IterAt wr w.heap.size r (rawT D) [] := hit
    clear hit
    obtain rfl : vn = L.length := by
     rcases hown.2 with ⟨h1, h2⟩ | ⟨g, cap, cur, h1, _⟩
     · cases h1; exact h2.symm
     · cases h1; rfl
    have hsl := own_sl hown (shrCells_one hints)
    have HSL := Zhd hsl; clear hsl hown
    have HP := Zhd hperm; clear hperm
    have HI := Zhd hints; clear hints
    have HT := Zhd htrip; clear htrip
    have HF := Zhd (Zan hfv hfL); clear hfv hfL hdis
    go_wp2_with (first
     | (refine wl_next0 rfl rfl rfl hit0 hitr ?_)
     | (go_at_call 65
        refine (sortSh_small _ _ _ _ hLl _).mono ?_
        rintro e w3 ⟨rfl, hk3⟩)
     | fail)
    go_ret
    have hp := HP.out
    rw [List.append_nil] at hp
    refine ⟨va, vc, L, rfl, ⟨⟨_, _, rfl⟩, HSL.out.kept hk3 (by simp), fun x hx => (HI.out x hx).kept hk3 (by simp)⟩, ?_, hkw.trans hk3 (by simp) (by simp), fun g hg => ?_, fun x hx g hg => ?_⟩
    · rw [HT.out]
      exact (hp.filter full).map (tripOf mem)
    · have := HF.out.1 g hg; omega
    · have := HF.out.2 x hx g hg; have := hk3.size; omega
  | cons x0 M0 =>
    have hne0 : rawT (x0 :: M0) ≠ [] := by simp [rawT]
    generalize x0 :: M0 = M at *
    have HP := Zhd hperm; clear hperm
    have HO := Zhd hown; clear hown
    have HI := Zhd hints; clear hints
    have HT := Zhd htrip; clear htrip
    have HF := Zhd (Zan hfv hfL); clear hfv hfL
    have HDis := Zhd hdis; clear hdis
    go_wp2_with (first
     | (refine wl_next1 rfl rfl rfl hit hitr hne0 ?_
        intro k v l1 l2 w3 hsplit hit3 hent hk3 hsz3
        obtain ⟨L1, x, L2, hM, hl1, hl2, hk, hv⟩ := rawT_split hsplit
        clear hsplit
        have hxD : x ∈ D := HP.out.mem_iff.1 (by rw [hM]; simp)
        obtain ⟨xt, xv, xp⟩ := x
        obtain ⟨⟨pa, pc, hpv⟩, hsp⟩ := HD.out.parts _ hxD
        simp only at hpv hsp hk hv
        subst hpv
        have hkw3 : Kept [] w w3 := hkw.trans hk3 (by simp) (by simp)
        have hcl := clone_i32 (.slice pa xp.length pc) xp w3 (SlInts.kept ⟨⟨_, _, rfl⟩, hsp⟩ hkw3 (by simp)) (by have := HSZ.out _ hxD; simp only at this; omega)
        have HCL := Zhd hcl; clear hcl hsp
        have HXD := Zhd hxD; clear hxD
        have HM := Zhd hM; clear hM
        have HL12 := Zhd (Zan hl1 hl2); clear hl1 hl2)
     | (refine wl_entry rfl rfl rfl hent ?_)
     | (go_at_call 62
        refine HCL.out.mono ?_
        rintro e w4 ⟨v1, rfl, ⟨⟨qa, qc, rfl⟩, hsv⟩, hk4, hg4, _⟩
        have hk34 : Kept [w.heap.size] wr w4 := hk3.trans hk4 (by simp) (by simp)
        have ho4 := own_kept HO.out hk34 (fun g hg => by have := HF.out.1 g hg; simp; omega))
     | (refine wl_app (v := .slice va vn vc) rfl rfl elSh rfl rfl (own_kept ho4 ((Kept.refl [] _).alloc _) (by simp)) ((new_sl3 _ _ _ _ _ rfl).src Tryz.underlying23) (by omega) (by omega) ?_
        intro v' w5 hown5 hk5 hd5)
     | fail)
    · obtain ⟨hl1, hl2⟩ := HL12.out
      have hMM := HM.out
      have hk45 : Kept [] w w4 := hkw3.trans hk4 (by simp) (by simp)
      have hs34 := hk4.size
      have hs45 := hk5.size
      simp only [World.size_alloc] at hs45 hd5
      have hvb : ∀ g, (Value.slice va vn vc).ownBlock = some g → w2.heap.size ≤ g ∧ g < wr.heap.size := fun g hg => ⟨HF.out.1 g hg, (HDis.out g hg).2⟩
      have hk35 : Kept (Value.slice va vn vc).ownBlock.toList w3 w5 := (hk4.trans ((Kept.refl [] _).alloc _) (U := []) (by simp) (by simp)).trans hk5 (by simp) (fun y hy _ => hy)
      have hkr5 : Kept (w.heap.size :: (Value.slice va vn vc).ownBlock.toList) wr w5 := hk3.trans hk35 (by simp) (fun y hy _ => by simp [hy])
      have hit5 : IterAt w5 w.heap.size r (rawT D) (rawT (L1 ++ L2)) := by
       have : rawT (L1 ++ L2) = l1 ++ l2 := by rw [hl1, hl2]; simp [rawT]
       rw [this]
       refine hit3.kept hk35 (fun h => ?_) (fun h => ?_)
       · simp only [Option.mem_toList] at h; have := hvb _ h; omega
       · simp only [Option.mem_toList] at h; have := hvb _ h; omega
      have hv'b : ∀ g, v'.ownBlock = some g → w2.heap.size ≤ g ∧ g < w5.heap.size ∧ (∀ y ∈ L, y.val.ownBlock ≠ some g) ∧ (Value.slice qa xp.length qc).ownBlock ≠ some g := by
       intro g hg
       rcases hd5 with ⟨h1, h2⟩ | ⟨h1, h2⟩
       · rw [h1] at hg
         have h3 := hvb g hg
         refine ⟨h3.1, by omega, (HDis.out g hg).1, fun h => ?_⟩
         have := hg4 g h
         omega
       · rw [h1] at hg
         simp only [Option.some.injEq] at hg
         refine ⟨by omega, by omega, fun y hy h => ?_, fun h => ?_⟩
         · have := HF.out.2 y hy g h; omega
         · have := hg4 g h; omega
      have hints5 : ∀ y ∈ L ++ [(⟨mem, xt, .slice qa xp.length qc, xp⟩ : Shr)], SlInts w5 y.val y.parts := by
       intro y hy
       rcases Zap.1 hy with hy | hy
       · refine (HI.out y hy).kept hkr5 (fun g hg => ?_)
         have h1 := HF.out.2 y hy g hg
         simp only [Zmc, Option.mem_toList, not_or]
         exact ⟨by omega, fun h => (HDis.out g h).1 y hy hg⟩
       · simp only [Zmc, Znn, or_false] at hy
         subst hy
         refine SlInts.kept ⟨⟨_, _, rfl⟩, hsv⟩ (((Kept.refl [] w4).alloc _).trans hk5 (by simp) (fun y hy _ => hy)) (fun g hg => ?_)
         simp only [Option.mem_toList]
         intro h
         have h1 := hg4 g hg
         have h2 := hvb g h
         omega
      refine ⟨⟨A ++ [(xt, .slice pa xp.length pc, xp)], L1 ++ L2, L ++ [⟨mem, xt, .slice qa xp.length qc, xp⟩], ?_, hit5, ?_, hints5, ?_, ?_, ?_, ?_, ?_, ?_⟩, ?_⟩
      · refine List.Perm.trans ?_ HP.out
        rw [hMM, List.append_assoc, List.singleton_append]
        exact List.Perm.append_left A (List.perm_middle (a := (xt, Value.slice pa xp.length pc, xp)) (l₁ := L1) (l₂ := L2)).symm
      · simpa [shrCells] using hown5
      · rw [List.map_append, HT.out, List.filter_append, List.map_append]
        have : full (xt, Value.slice pa xp.length pc, xp) = true := by
         unfold full; cases xp with
         | nil => simp at *
         | cons a b => rfl
        simp [this, trip, tripOf]
      · exact (hkw3.trans hk35 (U := []) (by simp) (fun y hy hlt => by simp only [Option.mem_toList] at hy; have := hvb y hy; omega))
      · exact fun g hg => (hv'b g hg).1
      · intro y hy g hg
        rcases Zap.1 hy with hy | hy
        · have := HF.out.2 y hy g hg; omega
        · simp only [Zmc, Znn, or_false] at hy
          subst hy
          have := hg4 g hg
          omega
      · intro g hg
        have h := hv'b g hg
        refine ⟨fun y hy => ?_, h.2.1⟩
        rcases Zap.1 hy with hy | hy
        · exact h.2.2.1 y hy
        · simp only [Zmc, Znn, or_false] at hy
          subst hy
          exact h.2.2.2
      · omega
      · rw [hit.leftOf, hit5.leftOf]
        simp [rawT, hMM]
    · obtain ⟨hl1, hl2⟩ := HL12.out
      have hMM := HM.out
      have hit5 : IterAt w3 w.heap.size r (rawT D) (rawT (L1 ++ L2)) := by
       have : rawT (L1 ++ L2) = l1 ++ l2 := by rw [hl1, hl2]; simp [rawT]
       rw [this]; exact hit3
      refine ⟨⟨A ++ [(xt, .slice pa xp.length pc, xp)], L1 ++ L2, L, ?_, hit5, own_kept HO.out hk3 ?_, fun y hy => (HI.out y hy).kept hk3 ?_, ?_, hkw3, HF.out.1, ?_, ?_, ?_⟩, ?_⟩
      · refine List.Perm.trans ?_ HP.out
        rw [hMM, List.append_assoc, List.singleton_append]
        exact List.Perm.append_left A (List.perm_middle (a := (xt, Value.slice pa xp.length pc, xp)) (l₁ := L1) (l₂ := L2)).symm
      · intro g hg; have := HF.out.1 g hg; simp; omega
      · intro g hg; have := HF.out.2 y hy g hg; simp; omega
      · rw [HT.out, List.filter_append]
        have : full (xt, Value.slice pa xp.length pc, xp) = false := by
         unfold full; cases xp with
         | nil => rfl
         | cons a b => simp at *
        simp [this]
      · intro y hy g hg; have := HF.out.2 y hy g hg; omega
      · intro g hg; have := HDis.out g hg; exact ⟨this.1, by omega⟩
      · omega
      · rw [hit.leftOf, hit5.leftOf]
        simp [rawT, hMM]
end
section
open Go Go.Proofs Go.RowKit Go.Sort
def topLt (x y : ByteArray) : Bool := Op.bytesLess x.toList y.toList
def cfTop (x y : ByteArray) : Int := if topLt x y = true then -1 else if (x.toList == y.toList) = true then 0 else 1
theorem cfTop_lt (x y : ByteArray) : (cfTop x y < 0) ↔ topLt x y = true := by
 unfold cfTop
 by_cases h : topLt x y = true
 · simp [h]
 · simp only [h]
   by_cases h2 : (x.toList == y.toList) = true
   · simp [h2]
   · simp [h2]
theorem cmp79 (a0 a2 b0 b2 : Value) (x y : ByteArray) (W : World) :
 Calls Tryz.prog 79 #[.agg #[a0, .string x, a2], .agg #[b0, .string y, b2]] W fun e w' => e = .returned (.int .i64 (cfTop x y)) ∧ ∃ q os', w' = grow (W.drewN q) os' := by
 have hg : ∀ o1 o2, (W.alloc o1).alloc o2 = grow (W.drewN 0) #[o1, o2] := fun o1 o2 => by rw [alloc_eq_grow, alloc_eq_grow, grow_grow]; rfl
 have HG := Zhd hg; clear hg
 by_cases h1 : Op.bytesLess x.toList y.toList = true
 · have e : cfTop x y = -1 := by simp [cfTop, topLt, h1]
   rw [e]; clear e
   go_enter Tryz.func79, Tryz.ntmps79
   go_wp2
   go_ret
   exact ⟨rfl, 0, _, HG.out _ _⟩
 · have h1' : Op.bytesLess x.toList y.toList = false := by simpa using h1
   clear h1
   by_cases h2 : (x.toList == y.toList) = true
   · have e : cfTop x y = 0 := by simp [cfTop, topLt, h1', h2]
     rw [e]; clear e
     go_enter Tryz.func79, Tryz.ntmps79
     go_wp2
     go_ret
     exact ⟨rfl, 0, _, HG.out _ _⟩
   · have h2' : (x.toList == y.toList) = false := by simpa using h2
     have e : cfTop x y = 1 := by simp only [cfTop, topLt, h1', h2']; rfl
     rw [e]; clear e h2
     go_enter Tryz.func79, Tryz.ntmps79
     go_wp2
     go_ret
     exact ⟨rfl, 0, _, HG.out _ _⟩
theorem topLt_swo : SWO (fun x y : ByteArray => topLt x y) where
 irrefl := fun x => by unfold topLt; rw [bytesLess_eq]; simp
 trans := fun x y z h1 h2 => by
  unfold topLt at *
  rw [bytesLess_eq] at *
  simp only [decide_eq_true_eq] at *
  exact List.lt_trans h1 h2
 ntrans := fun x y z h1 h2 => by
  unfold topLt at *
  rw [bytesLess_eq] at *
  simp only [decide_eq_false_iff_not] at *
  exact fun h => (List.le_trans (List.not_lt.1 h2) (List.not_lt.1 h1)) h
abbrev ShrO := { x : Shr // x.val.oneCell' = true }
instance : Inhabited ShrO := ⟨⟨⟨⟨#[]⟩, ⟨#[]⟩, .slice none 0 0, []⟩, rfl⟩⟩
def encO (x : ShrO) : List Value := shrCells x.1
theorem encO_len (x : ShrO) : (encO x).length = 3 := rfl
theorem encO_one (x : ShrO) : ∀ v ∈ encO x, v.oneCell' = true := by
 intro v hv
 simp [encO, shrCells] at hv
 rcases hv with rfl | rfl | rfl
 · rfl
 · rfl
 · exact x.2
theorem kept_sortWorldK {w : World} {g n : Nat} {os : Array Obj} {d : Array ShrO} : Kept [g] w (sortWorldK encO 3 w g 0 n d os) := by
 refine ⟨rfl, rfl, rfl, by unfold sortWorldK putRowK; simp, fun k hk hne => ?_⟩
 unfold sortWorldK putRowK
 rw [heap_grow_old _ _ (by simpa using hk)]
 have : g ≠ k := fun e => hne (by simp [e])
 simp [putRow, mapBlock, Sort.ahead, Array.getElem?_modify, this]
theorem sa_sorted {w : World} {blk n : Nat} {d : Array ShrO} (c : Nat) (hs : d.size = n) (hH : HoldsK encO 3 w blk 0 d) : SlAt w 3 (.slice (some ⟨blk, 0, none⟩) n c) n ((d.toList.map (·.1)).flatMap shrCells) := by
 have hl : ∀ x ∈ d.toList.map (·.1), (shrCells x).length = 3 := fun x _ => rfl
 refine ⟨?_, ?_, .inr ⟨blk, 0, c, rfl, fun j u hj => ?_⟩⟩
 · have : ∀ l : List Shr, (l.flatMap shrCells).length = l.length * 3 := fun l => by
    induction l with
    | nil => rfl
    | cons y l ih => rw [List.flatMap_cons, List.length_append, ih, List.length_cons]; show 3 + _ = _; omega
   rw [this]; simp [hs]
 · intro u hu
   obtain ⟨x, hx, hu⟩ := List.mem_flatMap.1 hu
   obtain ⟨y, _, rfl⟩ := List.mem_map.1 hx
   exact encO_one y u hu
 · have hsp : ∀ (l : List ShrO) (j : Nat) (u : Value), ((l.map (·.1)).flatMap shrCells)[j]? = some u → ∃ i r y, r < 3 ∧ j = i * 3 + r ∧ l[i]? = some y ∧ (encO y)[r]? = some u := by
    intro l
    induction l with
    | nil => intro j u h; simp at h
    | cons y l ih =>
      intro j u h
      rw [List.map_cons, List.flatMap_cons] at h
      by_cases hj : j < 3
      · rw [List.getElem?_append_left hj] at h
        exact ⟨0, j, y, hj, by omega, rfl, h⟩
      · rw [List.getElem?_append_right (by show 3 ≤ j; omega)] at h
        obtain ⟨i, r, z, h1, h2, h3, h4⟩ := ih _ _ h
        have h2' : j - 3 = i * 3 + r := h2
        exact ⟨i + 1, r, z, h1, by omega, by simpa using h3, h4⟩
   obtain ⟨i, r, y, hr, rfl, hy, hu⟩ := hsp _ _ _ hj
   have hi : i < d.size := by have := (List.getElem?_eq_some_iff.1 hy).1; simpa using this
   have hd : d[i]! = y := by
    rw [getElem!_pos d i hi]
    rw [Array.getElem?_toList, Array.getElem?_eq_getElem hi] at hy
    simpa using hy
   have := HoldsK.cells hH encO_len hi r u (by rw [hd]; exact hu)
   rw [Addr.add_lit] at this
   simpa [Nat.add_assoc] using this
theorem hlenO (n : Nat) (W : World) (h : n ≤ 12) : Calls Tryz.prog 78 #[.int .u64 n] W fun e w' => (∃ l : Int, e = .returned (.int .i64 l)) ∧ w' = W :=
 (Tryz.bits_Len n W (by omega) (by omega)).mono fun _ _ ⟨he, hw⟩ => ⟨⟨_, he⟩, hw⟩
structure CmpTop (f : FuncId) : Prop where
 eg : ∀ args w, (callFunc f args).run Tryz.prog w = .ok (.enter f args) w
 c : ∀ (a0 a2 b0 b2 : Value) (x y : ByteArray) (W : World), Calls Tryz.prog f #[.agg #[a0, .string x, a2], .agg #[b0, .string y, b2]] W fun e w' => e = .returned (.int .i64 (cfTop x y)) ∧ ∃ q os', w' = grow (W.drewN q) os'
theorem cmpTop79 : CmpTop 79 := ⟨fun _ _ => by kernel_rfl, cmp79⟩
theorem sortShr_any (f : FuncId) (hf : CmpTop f) (v : Value) (L : List Shr) (w : World) (hown : w.ownsRow 0 33 3 v L.length (L.flatMap shrCells)) (hp : ∀ x ∈ L, x.val.oneCell' = true) (h12 : L.length ≤ 12) :
 Calls Tryz.prog 65 #[v, .func (.func f) #[] #[]] w fun e w' => e = .returned (.tuple #[]) ∧ ∃ L' : List Shr, L'.Perm L ∧ L'.Pairwise (fun x y => topLt y.top x.top = false) ∧ SlAt w' 3 v L.length (L'.flatMap shrCells) ∧ Kept v.ownBlock.toList w w' := by
 by_cases h1 : L.length ≤ 1
 · obtain ⟨a, n, c, rfl⟩ := own_form hown
   have hn : n = L.length := by
    rcases hown.2 with ⟨e1, e2⟩ | ⟨g, cap, cur, e1, _⟩
    · cases e1; exact e2.symm
    · cases e1; rfl
   refine (sortSh_small a n c _ (by omega) w).mono ?_
   rintro e w' ⟨rfl, hk⟩
   refine ⟨rfl, L, List.Perm.refl _, ?_, ?_, hk.mono (by simp)⟩
   · match L, h1 with
     | [], _ => simp
     | [x], _ => simp
   · have h2 : ∀ u ∈ L.flatMap shrCells, u.oneCell' = true := by
      intro u hu
      obtain ⟨x, hx, hu⟩ := List.mem_flatMap.1 hu
      exact encO_one ⟨x, hp x hx⟩ u hu
     exact (own_sl hown h2).kept hk (by simp)
 · rcases hown.2 with ⟨e1, e2⟩ | ⟨g, cap, cur, rfl, _, hg, hn1, hn2, hn3, hn4⟩
   · omega
   · let d : Array ShrO := (L.attach.map fun x => (⟨x.1, hp x.1 x.2⟩ : ShrO)).toArray
     have hdl : d.toList.map (·.1) = L := by simp [d, List.map_map, Function.comp_def]
     have hds : d.size = L.length := by simp [d]
     have hH : HoldsK encO 3 w g 0 d := by
      unfold HoldsK
      intro j hj
      simp only [size_flatK] at hj
      rw [get_flatK _ _ _ _ hj]
      refine ⟨?_, by simp [World.frozen?, hg]⟩
      have hi : j / 3 < d.size := by omega
      have hx : L[j / 3]? = some d[j / 3]!.1 := by
       rw [getElem!_pos d _ hi]
       have : (d.toList.map (·.1))[j / 3]? = some d[j / 3].1 := by
        rw [List.getElem?_map, Array.getElem?_toList, Array.getElem?_eq_getElem hi]; rfl
       rwa [hdl] at this
      obtain ⟨g0, g1, g2⟩ := shr_get hx
      have hcell : ∀ q u, (L.flatMap shrCells)[q]? = some u → w.cell? ⟨g, q, none⟩ = some u := fun q u hq => by
       have := hown.cells (g := g) rfl q u hq
       rw [Addr.add_lit] at this
       simpa using this
      rw [Nat.zero_add]
      have hm : j % 3 < 3 := Nat.mod_lt _ (by omega)
      have hj3 : j = j / 3 * 3 + j % 3 := by omega
      rcases (by omega : j % 3 = 0 ∨ j % 3 = 1 ∨ j % 3 = 2) with h | h | h
      · rw [h] at hj3 ⊢; rw [hj3]; have e3 : (j / 3 * 3 + 0) / 3 = j / 3 := by omega
        rw [e3]; exact hcell _ _ g0
      · rw [h] at hj3 ⊢; rw [hj3]; have e3 : (j / 3 * 3 + 1) / 3 = j / 3 := by omega
        rw [e3]; exact hcell _ _ g1
      · rw [h] at hj3 ⊢; rw [hj3]; have e3 : (j / 3 * 3 + 2) / 3 = j / 3 := by omega
        rw [e3]; exact hcell _ _ g2
     have hgl := lt_of_heap hg
     have hS : SWO (ltOf fun x y : ShrO => cfTop x.1.top y.1.top) := by
      have e : (ltOf fun x y : ShrO => cfTop x.1.top y.1.top) = fun x y => topLt x.1.top y.1.top := by
       funext x y
       unfold ltOf
       rw [Bool.eq_iff_iff, decide_eq_true_eq]; exact cfTop_lt _ _
      rw [e]
      exact ⟨fun x => topLt_swo.irrefl _, fun x y z => topLt_swo.trans _ _ _, fun x y z => topLt_swo.ntrans _ _ _⟩
     have hc := AnyQ.slices_SortFunc_small_sorted Tryz.laysSortShr 3 Tryz.isAgg33 Tryz.sizeOf33 encO encO_len encO_one (fun x y : ShrO => cfTop x.1.top y.1.top) f #[] hS g 0 cap d w hf.eg
      (fun _ _ _ _ x y => hf.c _ _ _ _ _ _ _) hH hgl (by omega) hlenO
     change Calls Tryz.prog 65 _ _ _ at hc
     rw [hds] at hc
     refine hc.mono ?_
     rintro e w' ⟨rfl, d', n, os, hperm, hsort, rfl⟩
     have hds' : d'.size = d.size := hperm.1
     have hH' := holdsK_sortWorldK_c encO 3 w g 0 d d' n os hH hgl hds'
     refine ⟨rfl, d'.toList.map (·.1), ?_, ?_, sa_sorted cap (by omega) hH', by simpa [Value.ownBlock] using kept_sortWorldK⟩
     · rw [← hdl]
       have h2 := hperm.2.2
       have e1 : d'.extract 0 d.size = d' := by rw [← hds']; exact Array.extract_size
       have e2 : d.extract 0 d.size = d := Array.extract_size
       rw [← hds, e1, e2] at h2
       exact h2.map _
     · rw [List.pairwise_map, List.pairwise_iff_getElem]
       intro i j hi hj hij
       have h3 := hsort i j (Nat.zero_le _) hij (by rw [← hds, ← hds']; simpa using hj)
       unfold ltOf at h3
       rw [getElem!_pos d' i (by simpa using hi), getElem!_pos d' j (by simpa using hj)] at h3
       rw [decide_eq_false_iff_not] at h3
       have h4 : ¬ topLt (d'.toList[j]).1.top (d'.toList[i]).1.top = true := fun h => h3 ((cfTop_lt _ _).2 (by simpa using h))
       simpa using h4
end
end Go.Proofs.YticcnlpfmekagaaGreat
