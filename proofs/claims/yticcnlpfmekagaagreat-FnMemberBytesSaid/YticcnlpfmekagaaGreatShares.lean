import Derived.Test.YticcnlpfmekagaaGreatMemb
import Derived.Test.YticcnlpfmekagaaGreatShelf
namespace Go.Proofs.YticcnlpfmekagaaGreat
open Go Go.Proofs Go.RowKit
set_option linter.unusedVariables false
set_option linter.unusedSimpArgs false

/-! ## shares -/

set_option maxRecDepth 100000 in
set_option maxHeartbeats 400000 in
theorem insSh_small (v f : Value) (n : Nat) (hn : n ≤ 1) (w : World) : Calls Tryz.prog 107 #[v, .int .i64 0, .int .i64 n, f] w fun e w' => e = .returned (.tuple #[]) ∧ w = w' := by
  go_enter Tryz.func107, Tryz.ntmps107
  go_wp2
  go_loopw [8] (fun i wr => i = .int .i64 1 ∧ wr = w) (fun i _ => 0)
  case atStart => exact ⟨rfl, rfl⟩
  case round =>
    obtain ⟨rfl, rfl⟩ := hrel
    go_wp2
    go_end0
    exact ⟨rfl, rfl⟩

set_option maxRecDepth 100000 in
set_option maxHeartbeats 400000 in
theorem pdqSh_small (v f : Value) (n : Nat) (l : Int) (hn : n ≤ 1) (w : World) : Calls Tryz.prog 83 #[v, .int .i64 0, .int .i64 n, .int .i64 l, f] w fun e w' => e = .returned (.tuple #[]) ∧ Kept [] w w' := by
  go_enter Tryz.func83, Tryz.ntmps83
  go_wp2
  go_loopw [1, 2, 3] (fun x y z wr => x = .int .i64 0 ∧ y = .int .i64 n ∧ z = .int .i64 l ∧ wr = w) (fun _ _ _ _ => 0)
  case atStart => exact ⟨rfl, rfl, rfl, rfl⟩
  case round =>
    obtain ⟨rfl, rfl, rfl, rfl⟩ := hrel
    go_wp2_with (go_at_call 107; refine (insSh_small _ _ _ hn _).mono ?_; rintro e w1 ⟨rfl, rfl⟩)
    all_goals try (exfalso; omega)
    refine bodyPost_ret (results_none rfl _ _ _) rfl ?_
    exact ⟨rfl, Kept.refl _ _⟩


set_option maxRecDepth 100000 in
set_option maxHeartbeats 400000 in
theorem sortSh_small (a : Option Addr) (n c : Nat) (f : Value) (hn : n ≤ 1) (w : World) : Calls Tryz.prog 65 #[.slice a n c, f] w fun e w' => e = .returned (.tuple #[]) ∧ Kept [] w w' := by
  go_enter Tryz.func65, Tryz.ntmps65
  go_wp2_with (first
    | (go_at_call 78; refine (Tryz.bits_Len _ _ (by omega) (by omega)).mono ?_; rintro e w1 ⟨rfl, rfl⟩)
    | (go_at_call 83; refine (pdqSh_small _ _ _ _ hn _).mono ?_; rintro e w1 ⟨rfl, hk⟩)
    | fail)
  go_end0
  exact ⟨rfl, hk⟩


theorem infoSh : (Tryz.prog.info? 33).map (fun i => (i.zero, i.size, i.bytes)) = some (some (.agg #[.string ⟨#[]⟩, .string ⟨#[]⟩, .slice none 0 0]), 3, 56) := by kernel_rfl
theorem elSh : Elem Tryz.prog 23 33 3 56 (.agg #[.string ⟨#[]⟩, .string ⟨#[]⟩, .slice none 0 0]) := ⟨Tryz.underlying23, info_parts infoSh, rfl, by omega⟩

theorem new_sl3 (w : World) (E : TypeId) (a b c : Value) (h : [a, b, c].all (·.oneCell') = true) : SlAt (w.alloc (.cells #[a, b, c] E)) 3 (.slice (some ⟨w.heap.size, 0, none⟩) 1 1) 1 [a, b, c] := by
  refine ⟨by simp, fun u hu => (List.all_eq_true.1 h) u hu, .inr ⟨_, 0, 1, rfl, fun j u hj => ?_⟩⟩
  have hh := heap_alloc_new w (.cells #[a, b, c] E)
  rw [Nat.zero_add]
  have hc := (cells_of hh).1 j u (by simpa using hj)
  exact hc

/-- what the shares of a member say, without their addresses -/
def trip (x : Shr) : ByteArray × ByteArray × List Int := (x.mem, x.top, x.parts)
def tripOf (m : ByteArray) (x : ByteArray × Value × List Int) : ByteArray × ByteArray × List Int := (m, x.1, x.2.2)
def full (x : ByteArray × Value × List Int) : Bool := !x.2.2.isEmpty

theorem shrCells_one {w : World} {L : List Shr} (h : ∀ x ∈ L, SlInts w x.val x.parts) : ∀ u ∈ L.flatMap shrCells, u.oneCell' = true := by
  intro u hu
  obtain ⟨x, hx, hu⟩ := List.mem_flatMap.1 hu
  obtain ⟨⟨a, c, hv⟩, _⟩ := h x hx
  simp [shrCells, hv] at hu
  rcases hu with rfl | rfl | rfl <;> rfl

set_option maxRecDepth 100000 in
set_option maxHeartbeats 1000000 in
theorem shares_any (mem : ByteArray) (r : Nat) (D : Tops) (w : World) (hD : TopsAt w r D) (hn : D.length ≤ 1) (hsz : ∀ x ∈ D, x.2.2.length ≤ 1000000) (hlt : ∀ x ∈ D, ∀ g, x.2.1.ownBlock = some g → g < w.heap.size) :
    Calls Tryz.prog 49 #[.string mem, .map (some r)] w fun e w' => ∃ a c L, e = .returned (.slice a L.length c) ∧ ShrsAt w' (.slice a L.length c) L ∧ (L.map trip).Perm ((D.filter full).map (tripOf mem)) ∧ Kept [] w w' ∧ Fresh w (.slice a L.length c) ∧ (∀ x ∈ L, ∀ g, x.val.ownBlock = some g → w.heap.size ≤ g ∧ g < w'.heap.size) := by
  have hrl := hD.map.lt
  have HD := Lib.hid hD; clear hD
  have HSZ := Lib.hid hsz; clear hsz
  have HLT := Lib.hid hlt; clear hlt
  go_enter Tryz.func49, Tryz.ntmps49
  go_wp2_with (refine wl_range rfl rfl rfl Tryz.underlying90 HD.out.map ?_; intro w2 hit2 hmap2 hk2 hsz2)
  go_frame
  have hitr : w.heap.size ≠ r := by omega
  have own0 := own_nil 33 3 (w := w2)
  go_loopw [5] (fun v wr => ∃ A M : Tops, ∃ L : List Shr, (A ++ M).Perm D ∧ IterAt wr w.heap.size r (rawT D) (rawT M) ∧ wr.ownsRow 0 33 3 v L.length (L.flatMap shrCells) ∧ (∀ x ∈ L, SlInts wr x.val x.parts) ∧ L.map trip = (A.filter full).map (tripOf mem) ∧
      Kept [] w wr ∧ Fresh w2 v ∧ (∀ x ∈ L, ∀ g, x.val.ownBlock = some g → w2.heap.size ≤ g ∧ g < wr.heap.size) ∧ (∀ g, v.ownBlock = some g → (∀ x ∈ L, x.val.ownBlock ≠ some g) ∧ g < wr.heap.size) ∧ w2.heap.size ≤ wr.heap.size) (fun _ wr => leftOf wr w.heap.size r)
  case atStart => exact ⟨[], D, [], by simp, hit2, own0, by simp, by simp, hk2, Fresh.nil _, by simp, by simp [Value.ownBlock], Nat.le_refl _⟩
  case round =>
    obtain ⟨A, M, L, hperm, hit, hown, hints, htrip, hkw, hfv, hfL, hdis, hszw⟩ := hrel
    obtain ⟨va, vn, vc, rfl⟩ := own_form hown
    have hLl : L.length ≤ 1 := by
      have h1 := congrArg List.length htrip
      have h2 := hperm.length_eq
      have h3 := List.length_filter_le full A
      simp only [List.length_map, List.length_append] at h1 h2
      omega
    cases M with
    | nil =>
      have hit0 : IterAt wr w.heap.size r (rawT D) [] := hit
      clear hit
      obtain rfl : vn = L.length := by
        rcases hown.2 with ⟨h1, h2⟩ | ⟨g, cap, cur, h1, _⟩
        · cases h1; exact h2.symm
        · cases h1; rfl
      have hsl := own_sl hown (shrCells_one hints)
      have HSL := Lib.hid hsl; clear hsl hown
      have HP := Lib.hid hperm; clear hperm
      have HI := Lib.hid hints; clear hints
      have HT := Lib.hid htrip; clear htrip
      have HF := Lib.hid (And.intro hfv hfL); clear hfv hfL hdis
      go_wp2_with (first
        | (refine wl_next0 rfl rfl rfl hit0 hitr ?_)
        | (go_at_call 65
           refine (sortSh_small _ _ _ _ hLl _).mono ?_
           rintro e w3 ⟨rfl, hk3⟩)
        | fail)
      go_ret
      have hp := HP.out
      rw [List.append_nil] at hp
      refine ⟨va, vc, L, rfl, ⟨⟨_, _, rfl⟩, HSL.out.kept hk3 (by simp), fun x hx => (HI.out x hx).kept hk3 (by simp)⟩, ?_, hkw.trans hk3 (by simp) (by simp), fun g hg => ?_, fun x hx g hg => ?_⟩
      · rw [HT.out]
        exact (hp.filter full).map (tripOf mem)
      · have := HF.out.1 g hg; omega
      · have := HF.out.2 x hx g hg; have := hk3.size; omega
    | cons x0 M0 =>
      have hne0 : rawT (x0 :: M0) ≠ [] := by simp [rawT]
      generalize x0 :: M0 = M at *
      have HP := Lib.hid hperm; clear hperm
      have HO := Lib.hid hown; clear hown
      have HI := Lib.hid hints; clear hints
      have HT := Lib.hid htrip; clear htrip
      have HF := Lib.hid (And.intro hfv hfL); clear hfv hfL
      have HDis := Lib.hid hdis; clear hdis
      go_wp2_with (first
        | (refine wl_next1 rfl rfl rfl hit hitr hne0 ?_
           intro k v l1 l2 w3 hsplit hit3 hent hk3 hsz3
           obtain ⟨L1, x, L2, hM, hl1, hl2, hk, hv⟩ := rawT_split hsplit
           clear hsplit
           have hxD : x ∈ D := HP.out.mem_iff.1 (by rw [hM]; simp)
           obtain ⟨xt, xv, xp⟩ := x
           obtain ⟨⟨pa, pc, hpv⟩, hsp⟩ := HD.out.parts _ hxD
           simp only at hpv hsp hk hv
           subst hpv
           have hkw3 : Kept [] w w3 := hkw.trans hk3 (by simp) (by simp)
           have hcl := clone_i32 (.slice pa xp.length pc) xp w3 (SlInts.kept ⟨⟨_, _, rfl⟩, hsp⟩ hkw3 (by simp)) (by have := HSZ.out _ hxD; simp only at this; omega)
           have HCL := Lib.hid hcl; clear hcl hsp
           have HXD := Lib.hid hxD; clear hxD
           have HM := Lib.hid hM; clear hM
           have HL12 := Lib.hid (And.intro hl1 hl2); clear hl1 hl2)
        | (refine wl_entry rfl rfl rfl hent ?_)
        | (go_at_call 62
           refine HCL.out.mono ?_
           rintro e w4 ⟨v1, rfl, ⟨⟨qa, qc, rfl⟩, hsv⟩, hk4, hg4, _⟩
           have hk34 : Kept [w.heap.size] wr w4 := hk3.trans hk4 (by simp) (by simp)
           have ho4 := own_kept HO.out hk34 (fun g hg => by have := HF.out.1 g hg; simp; omega))
        | (refine wl_app (v := .slice va vn vc) rfl rfl elSh rfl rfl (own_kept ho4 ((Kept.refl [] _).alloc _) (by simp)) ((new_sl3 _ _ _ _ _ rfl).src Tryz.underlying23) (by omega) (by omega) ?_
           intro v' w5 hown5 hk5 hd5)
        | fail)
      · obtain ⟨hl1, hl2⟩ := HL12.out
        have hMM := HM.out
        have hk45 : Kept [] w w4 := hkw3.trans hk4 (by simp) (by simp)
        have hs34 := hk4.size
        have hs45 := hk5.size
        simp only [World.size_alloc] at hs45 hd5
        have hvb : ∀ g, (Value.slice va vn vc).ownBlock = some g → w2.heap.size ≤ g ∧ g < wr.heap.size := fun g hg => ⟨HF.out.1 g hg, (HDis.out g hg).2⟩
        have hk35 : Kept (Value.slice va vn vc).ownBlock.toList w3 w5 := (hk4.trans ((Kept.refl [] _).alloc _) (U := []) (by simp) (by simp)).trans hk5 (by simp) (fun y hy _ => hy)
        have hkr5 : Kept (w.heap.size :: (Value.slice va vn vc).ownBlock.toList) wr w5 := hk3.trans hk35 (by simp) (fun y hy _ => by simp [hy])
        have hit5 : IterAt w5 w.heap.size r (rawT D) (rawT (L1 ++ L2)) := by
          have : rawT (L1 ++ L2) = l1 ++ l2 := by rw [hl1, hl2]; simp [rawT]
          rw [this]
          refine hit3.kept hk35 (fun h => ?_) (fun h => ?_)
          · simp only [Option.mem_toList] at h; have := hvb _ h; omega
          · simp only [Option.mem_toList] at h; have := hvb _ h; omega
        have hv'b : ∀ g, v'.ownBlock = some g → w2.heap.size ≤ g ∧ g < w5.heap.size ∧ (∀ y ∈ L, y.val.ownBlock ≠ some g) ∧ (Value.slice qa xp.length qc).ownBlock ≠ some g := by
          intro g hg
          rcases hd5 with ⟨h1, h2⟩ | ⟨h1, h2⟩
          · rw [h1] at hg
            have h3 := hvb g hg
            refine ⟨h3.1, by omega, (HDis.out g hg).1, fun h => ?_⟩
            have := hg4 g h
            omega
          · rw [h1] at hg
            simp only [Option.some.injEq] at hg
            refine ⟨by omega, by omega, fun y hy h => ?_, fun h => ?_⟩
            · have := HF.out.2 y hy g h; omega
            · have := hg4 g h; omega
        have hints5 : ∀ y ∈ L ++ [(⟨mem, xt, .slice qa xp.length qc, xp⟩ : Shr)], SlInts w5 y.val y.parts := by
          intro y hy
          rcases List.mem_append.1 hy with hy | hy
          · refine (HI.out y hy).kept hkr5 (fun g hg => ?_)
            have h1 := HF.out.2 y hy g hg
            simp only [List.mem_cons, Option.mem_toList, not_or]
            exact ⟨by omega, fun h => (HDis.out g h).1 y hy hg⟩
          · simp only [List.mem_cons, List.not_mem_nil, or_false] at hy
            subst hy
            refine SlInts.kept ⟨⟨_, _, rfl⟩, hsv⟩ (((Kept.refl [] w4).alloc _).trans hk5 (by simp) (fun y hy _ => hy)) (fun g hg => ?_)
            simp only [Option.mem_toList]
            intro h
            have h1 := hg4 g hg
            have h2 := hvb g h
            omega
        refine ⟨⟨A ++ [(xt, .slice pa xp.length pc, xp)], L1 ++ L2, L ++ [⟨mem, xt, .slice qa xp.length qc, xp⟩], ?_, hit5, ?_, hints5, ?_, ?_, ?_, ?_, ?_, ?_⟩, ?_⟩
        · refine List.Perm.trans ?_ HP.out
          rw [hMM, List.append_assoc, List.singleton_append]
          exact List.Perm.append_left A (List.perm_middle (a := (xt, Value.slice pa xp.length pc, xp)) (l₁ := L1) (l₂ := L2)).symm
        · simpa [shrCells] using hown5
        · rw [List.map_append, HT.out, List.filter_append, List.map_append]
          have : full (xt, Value.slice pa xp.length pc, xp) = true := by
            unfold full; cases xp with
            | nil => simp at *
            | cons a b => rfl
          simp [this, trip, tripOf]
        · exact (hkw3.trans hk35 (U := []) (by simp) (fun y hy hlt => by simp only [Option.mem_toList] at hy; have := hvb y hy; omega))
        · exact fun g hg => (hv'b g hg).1
        · intro y hy g hg
          rcases List.mem_append.1 hy with hy | hy
          · have := HF.out.2 y hy g hg; omega
          · simp only [List.mem_cons, List.not_mem_nil, or_false] at hy
            subst hy
            have := hg4 g hg
            omega
        · intro g hg
          have h := hv'b g hg
          refine ⟨fun y hy => ?_, h.2.1⟩
          rcases List.mem_append.1 hy with hy | hy
          · exact h.2.2.1 y hy
          · simp only [List.mem_cons, List.not_mem_nil, or_false] at hy
            subst hy
            exact h.2.2.2
        · omega
        · rw [hit.leftOf, hit5.leftOf]
          simp [rawT, hMM]
      · obtain ⟨hl1, hl2⟩ := HL12.out
        have hMM := HM.out
        have hit5 : IterAt w3 w.heap.size r (rawT D) (rawT (L1 ++ L2)) := by
          have : rawT (L1 ++ L2) = l1 ++ l2 := by rw [hl1, hl2]; simp [rawT]
          rw [this]; exact hit3
        refine ⟨⟨A ++ [(xt, .slice pa xp.length pc, xp)], L1 ++ L2, L, ?_, hit5, own_kept HO.out hk3 ?_, fun y hy => (HI.out y hy).kept hk3 ?_, ?_, hkw3, HF.out.1, ?_, ?_, ?_⟩, ?_⟩
        · refine List.Perm.trans ?_ HP.out
          rw [hMM, List.append_assoc, List.singleton_append]
          exact List.Perm.append_left A (List.perm_middle (a := (xt, Value.slice pa xp.length pc, xp)) (l₁ := L1) (l₂ := L2)).symm
        · intro g hg; have := HF.out.1 g hg; simp; omega
        · intro g hg; have := HF.out.2 y hy g hg; simp; omega
        · rw [HT.out, List.filter_append]
          have : full (xt, Value.slice pa xp.length pc, xp) = false := by
            unfold full; cases xp with
            | nil => rfl
            | cons a b => simp at *
          simp [this]
        · intro y hy g hg; have := HF.out.2 y hy g hg; omega
        · intro g hg; have := HDis.out g hg; exact ⟨this.1, by omega⟩
        · omega
        · rw [hit.leftOf, hit5.leftOf]
          simp [rawT, hMM]

end Go.Proofs.YticcnlpfmekagaaGreat
