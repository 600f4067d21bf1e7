/- Part 25 of the proof of the row: Group2, SharesS, MFits, AppN, Meta2. -/
import Derived.Test.YticcnlpfmekagaaGreatRc00
import Derived.Test.YticcnlpfmekagaaGreatRc19
import Derived.Test.YticcnlpfmekagaaGreatRc11
import Derived.Test.YticcnlpfmekagaaGreatRc09
import Derived.Test.YticcnlpfmekagaaGreatRc10
import Derived.Test.YticcnlpfmekagaaGreatRc04
import Derived.Deep.AppendSrc
import Derived.Test.YticcnlpfmekagaaGreatRc06
import Derived.Deep.RegionLaw
set_option linter.unusedVariables false
set_option linter.unusedSimpArgs false
set_option maxRecDepth 100000
set_option maxHeartbeats 8000000
namespace Go.Proofs.YticcnlpfmekagaaGreat
section
open Go Go.Proofs Go.RowKit
theorem MemsAt.kept0 {w w' : World} {v : Value} {L : List Mem} (h : MemsAt w v L) (k : Kept [] w w') : MemsAt w' v L :=
 ⟨h.form, h.cells.kept k (by simp), fun m hm => ⟨(h.each m hm).tops.kept k (by simp), ⟨(h.each m hm).data.1, (h.each m hm).data.2.kept k (by simp)⟩, (h.each m hm).owned.kept k (by simp) (by simp)⟩⟩
theorem hasBody44 : HasBody 44 := by unfold HasBody; intro a w; kernel_rfl
theorem groupPlan_any (n : Nat) (hn : n < 4) (f : FuncId) (hf : IsMeth (stratT n) "Plan" f) (am : Option Addr) (cm : Nat) (Ms : List Mem) (at' : Option Addr) (ct : Nat) (Ts : List Shr) (Good : PL → Prop) (w : World)
 (hm : MemsAt w (.slice am Ms.length cm) Ms) (hok : ∀ m ∈ Ms, MemOk m) (hnd : (ids Ms).Nodup) (hml : Ms.length ≤ 1000) (hm1 : 1 ≤ Ms.length)
 (ht : ShrsAt w (.slice at' Ts.length ct) Ts) (htl : Ts.length ≤ 1000) (htnd : (Ts.map (·.top)).Nodup) (htsz : ∀ x ∈ Ts, x.parts.length ≤ 1000)
 (hplan : ∀ w', Kept [] w w' → PlanC n f w' Ms Ts Good) (hgood : ∀ P, Good P → ∀ m ∈ Ms, ∃ r D, (m.id, r, D) ∈ P ∧ D.length ≤ 1 ∧ ∀ x ∈ D, x.2.2.length ≤ 1000000) :
 Calls Tryz.prog 18 #[.int .i64 n, .slice am Ms.length cm, .slice at' Ts.length ct] w fun e w' =>
  ∃ P LL a c, e = .returned (.tuple #[.slice a LL.flatten.length c, .bool true]) ∧ Good P ∧ OutOf P (sortedNames (ids Ms)) LL ∧ ShrsAt w' (.slice a LL.flatten.length c) LL.flatten ∧
   (∀ g, (Value.slice a LL.flatten.length c).ownBlock = some g → w.heap.size ≤ g) ∧ (∀ x ∈ LL.flatten, ∀ g, x.val.ownBlock = some g → w.heap.size ≤ g) ∧ Kept [] w w' := by
 have hclo : ∀ w0 : World, w0 = (((((w.alloc (.cells #[.int .i64 n] 3)).alloc (.cells #[.slice am Ms.length cm] 22)).alloc (.cells #[.slice at' Ts.length ct] 23)).alloc (.cells #[.slice none 0 0] 23)).alloc (.cells #[.bool false] 4)) →
  Kept [] w w0 ∧ w0.heap.size = w.heap.size + 5 ∧ _ := fun w0 e => ⟨by subst e; exact (((((Kept.refl [] w).alloc _).alloc _).alloc _).alloc _).alloc _, by subst e; simp,
  safe_any 44 #[.pointer (some ⟨w.heap.size + 1, 0, none⟩), .pointer (some ⟨w.heap.size, 0, none⟩), .pointer (some ⟨w.heap.size + 2, 0, none⟩), .pointer (some ⟨w.heap.size + 4, 0, none⟩), .pointer (some ⟨w.heap.size + 3, 0, none⟩)] w0
   (fun w' => GroupRes (w.heap.size + 6) w.heap.size Good (sortedNames (ids Ms)) w') [w.heap.size + 3, w.heap.size + 4] hasBody44 (by subst e; simp) (by
     have k0 : Kept [] w (w0.alloc (.cells #[.bool false] 4)) := by subst e; exact ((((((Kept.refl [] w).alloc _).alloc _).alloc _).alloc _).alloc _).alloc _
     have hz : (w0.alloc (.cells #[.bool false] 4)).heap.size = w.heap.size + 6 := by subst e; simp
     have h1 := plan_closure n hn f hf w.heap.size am cm Ms (.slice at' Ts.length ct) Ts Good (w0.alloc (.cells #[.bool false] 4)) (hm.kept0 k0) hok hnd hml hm1 (ht.kept k0 (by simp) (by simp)) htl htnd htsz (hplan _ k0) hgood
      (by subst e; simp [go_sem]) (by subst e; simp [go_sem]) (by subst e; simp)
     rw [hz] at h1
     exact h1)⟩
 obtain ⟨hk0, hs0, hsafe⟩ := hclo _ rfl
 have HSF := Zhd hsafe; clear hsafe hclo
 clear hm ht hplan hgood hok hnd htnd htsz
 go_enter Tryz.func18, Tryz.ntmps18
 go_wp2_with
  (go_at_call 43
   refine (HSF.out).mono ?_
   rintro e w2 ⟨rfl, w1, ⟨P, LL, a, c, hg, hout, c3, hsh, c4, f3, f4, ho1, ho2⟩, hk1, hk2⟩
   have hs1 := hk1.size
   rw [hs0] at hk2 hs1
   have d3 : w2.cell? ⟨w.heap.size + 1 + 1 + 1, 0, none⟩ = some (.slice a LL.flatten.length c) := hk2.cell c3 (by simp)
   have d4 : w2.cell? ⟨w.heap.size + 1 + 1 + 1 + 1, 0, none⟩ = some (.bool true) := hk2.cell c4 (by simp)
   have e3 : w2.frozen? ⟨w.heap.size + 1 + 1 + 1, 0, none⟩ = false := hk2.frz f3 (by simp; omega) (by simp)
   have e4 : w2.frozen? ⟨w.heap.size + 1 + 1 + 1 + 1, 0, none⟩ = false := hk2.frz f4 (by simp; omega) (by simp)
   have hsh2 := hsh.kept hk2 (fun g hg => by have := ho1 g hg; simp; omega) (fun x hx g hg => by have := ho2 x hx g hg; simp; omega)
   generalize hvl : LL.flatten.length = vl at *
   have HV := Zhd hvl; clear hvl
   have HRES := Zhd (Zan hout (Zan hsh2 (Zan ho1 ho2))); clear hout hsh hsh2 ho1 ho2
   clear c3 c4 f3 f4)
 have k12 : Kept [] w w2 := (hk0.trans hk1 (U := []) (by simp) (by simp <;> omega)).trans hk2 (by simp) (by simp <;> omega)
 have k3 : Kept [w.heap.size + 3, w.heap.size + 4] w2 ((w2.setCell ⟨w.heap.size + 1 + 1 + 1, 0, none⟩ (.slice a vl c)).setCell ⟨w.heap.size + 1 + 1 + 1 + 1, 0, none⟩ (.bool true)) :=
  ((Kept.refl _ _).setCell _ (by simp)).setCell _ (by simp)
 have hend2 := k12.trans k3 (U := []) (by simp) (by simp <;> omega)
 obtain ⟨hout, hsh2, ho1, ho2⟩ := HRES.out
 have hend := hsh2.kept k3 (fun g hg => by have := ho1 g hg; simp; omega) (fun x hx g hg => by have := ho2 x hx g hg; simp; omega)
 have hv := HV.out
 have hfin : ∃ P LL a' c', Ending.returned (.tuple #[.slice a vl c, .bool true]) = .returned (.tuple #[.slice a' (List.flatten LL).length c', .bool true]) ∧ Good P ∧ OutOf P (sortedNames (ids Ms)) LL ∧ ShrsAt ((w2.setCell ⟨w.heap.size + 1 + 1 + 1, 0, none⟩ (.slice a vl c)).setCell ⟨w.heap.size + 1 + 1 + 1 + 1, 0, none⟩ (.bool true)) (.slice a' (List.flatten LL).length c') LL.flatten ∧
  (∀ g, (Value.slice a' LL.flatten.length c').ownBlock = some g → w.heap.size ≤ g) ∧ (∀ x ∈ LL.flatten, ∀ g, x.val.ownBlock = some g → w.heap.size ≤ g) ∧ Kept [] w ((w2.setCell ⟨w.heap.size + 1 + 1 + 1, 0, none⟩ (.slice a vl c)).setCell ⟨w.heap.size + 1 + 1 + 1 + 1, 0, none⟩ (.bool true)) :=
  ⟨P, LL, a, c, by rw [hv], hg, hout, by rw [hv]; exact hend, by rw [hv]; exact fun g hg => by have := ho1 g hg; omega, fun x hx g hg => by have := ho2 x hx g hg; omega, hend2⟩
 refine bodyPost_ret (v := .tuple #[.slice a vl c, .bool true]) ?_ rfl hfin
 simp [results, Tryz.results18, go_sem, d3, d4]
end
section
open Go Go.Proofs Go.RowKit
theorem shares_many (mem : ByteArray) (r : Nat) (D : Tops) (w : World) (hD : TopsAt w r D) (hn : D.length ≤ 12) (hsz : ∀ x ∈ D, x.2.2.length ≤ 1000000) (hlt : ∀ x ∈ D, ∀ g, x.2.1.ownBlock = some g → g < w.heap.size) :
 Calls Tryz.prog 49 #[.string mem, .map (some r)] w fun e w' => ∃ a c L, e = .returned (.slice a L.length c) ∧ ShrsAt w' (.slice a L.length c) L ∧ (L.map trip).Perm ((D.filter full).map (tripOf mem)) ∧ L.Pairwise (fun x y => topLt y.top x.top = false) ∧ Kept [] w w' ∧ Fresh w (.slice a L.length c) ∧ (∀ x ∈ L, ∀ g, x.val.ownBlock = some g → w.heap.size ≤ g ∧ g < w'.heap.size) := by
 have hrl := hD.map.lt
 have HD := Zhd hD; clear hD
 have HSZ := Zhd hsz; clear hsz
 have HLT := Zhd hlt; clear hlt
 go_enter Tryz.func49, Tryz.ntmps49
 go_wp2_with (refine wl_range rfl rfl rfl Tryz.underlying90 HD.out.map ?_; intro w2 hit2 hmap2 hk2 hsz2)
 go_frame
 have hitr : w.heap.size ≠ r := by omega
 have own0 := own_nil 33 3 (w := w2)
 go_loopw [5] (fun v wr => ∃ A M : Tops, ∃ L : List Shr, (A ++ M).Perm D ∧ IterAt wr w.heap.size r (rawT D) (rawT M) ∧ wr.ownsRow 0 33 3 v L.length (L.flatMap shrCells) ∧ (∀ x ∈ L, SlInts wr x.val x.parts) ∧ L.map trip = (A.filter full).map (tripOf mem) ∧
  Kept [] w wr ∧ Fresh w2 v ∧ (∀ x ∈ L, ∀ g, x.val.ownBlock = some g → w2.heap.size ≤ g ∧ g < wr.heap.size) ∧ (∀ g, v.ownBlock = some g → (∀ x ∈ L, x.val.ownBlock ≠ some g) ∧ g < wr.heap.size) ∧ w2.heap.size ≤ wr.heap.size) (fun _ wr => leftOf wr w.heap.size r)
 case atStart => exact ⟨[], D, [], by simp, hit2, own0, by simp, by simp, hk2, Fresh.nil _, by simp, by simp [Value.ownBlock], Nat.le_refl _⟩
 case round =>
  obtain ⟨A, M, L, hperm, hit, hown, hints, htrip, hkw, hfv, hfL, hdis, hszw⟩ := hrel
  obtain ⟨va, vn, vc, rfl⟩ := own_form hown
  have hLl : L.length ≤ 12 := by
   have h1 := congrArg List.length htrip
   have h2 := hperm.length_eq
   have h3 := List.length_filter_le full A
   simp only [List.length_map, List.length_append] at h1 h2
   omega
  cases M with
  | nil =>
    have hit0 : IterAt wr w.heap.size r (rawT D) [] := hit
    clear hit
    obtain rfl : vn = L.length := by
     rcases hown.2 with ⟨h1, h2⟩ | ⟨g, cap, cur, h1, _⟩
     · cases h1; exact h2.symm
     · cases h1; rfl
    have hsrt := fun w' (k' : Kept [] wr w') => sortShr_any 79 cmpTop79 (.slice va L.length vc) L w' (own_kept hown k' (by simp)) (fun x hx => by obtain ⟨⟨a, c, hv⟩, _⟩ := hints x hx; rw [hv]; rfl) hLl
    have HSL := Zhd hsrt; clear hsrt hown
    have HP := Zhd hperm; clear hperm
    have HI := Zhd hints; clear hints
    have HT := Zhd htrip; clear htrip
    have HF := Zhd (Zan hfv hfL); clear hfv hfL
    have HD2 := Zhd hdis; clear hdis
    go_wp2_with (first
     | (refine wl_next0 rfl rfl rfl hit0 hitr ?_)
     | (go_at_call 65
        refine (HSL.out _ (Kept.refl _ _)).mono ?_
        rintro e w3 ⟨rfl, L', hL', hso, hsl3, hk3⟩)
     | fail)
    go_ret
    have hp := HP.out
    rw [List.append_nil] at hp
    have el := hL'.length_eq
    refine ⟨va, vc, L', by rw [el]; rfl, ⟨⟨_, _, by rw [el]⟩, by rw [el]; exact hsl3, fun x hx => (HI.out x (hL'.mem_iff.1 hx)).kept hk3 (fun g hg h => ?_)⟩, ?_, hso, hkw.trans hk3 (by simp) (fun y hy hl => ?_), fun g hg => ?_, fun x hx g hg => ?_⟩
    · simp only [Option.mem_toList] at h
      exact (HD2.out g h).1 x (hL'.mem_iff.1 hx) hg
    · refine (hL'.map trip).trans ?_
      rw [HT.out]
      exact (hp.filter full).map (tripOf mem)
    · simp only [Option.mem_toList] at hy
      have := HF.out.1 y hy; omega
    · rw [el] at hg
      have := HF.out.1 g hg; omega
    · have := HF.out.2 x (hL'.mem_iff.1 hx) g hg; have := hk3.size; omega
  | cons x0 M0 =>
    have hne0 : rawT (x0 :: M0) ≠ [] := by simp [rawT]
    generalize x0 :: M0 = M at *
    have HP := Zhd hperm; clear hperm
    have HO := Zhd hown; clear hown
    have HI := Zhd hints; clear hints
    have HT := Zhd htrip; clear htrip
    have HF := Zhd (Zan hfv hfL); clear hfv hfL
    have HDis := Zhd hdis; clear hdis
    go_wp2_with (first
     | (refine wl_next1 rfl rfl rfl hit hitr hne0 ?_
        intro k v l1 l2 w3 hsplit hit3 hent hk3 hsz3
        obtain ⟨L1, x, L2, hM, hl1, hl2, hk, hv⟩ := rawT_split hsplit
        clear hsplit
        have hxD : x ∈ D := HP.out.mem_iff.1 (by rw [hM]; simp)
        obtain ⟨xt, xv, xp⟩ := x
        obtain ⟨⟨pa, pc, hpv⟩, hsp⟩ := HD.out.parts _ hxD
        simp only at hpv hsp hk hv
        subst hpv
        have hkw3 : Kept [] w w3 := hkw.trans hk3 (by simp) (by simp)
        have hcl := clone_i32 (.slice pa xp.length pc) xp w3 (SlInts.kept ⟨⟨_, _, rfl⟩, hsp⟩ hkw3 (by simp)) (by have := HSZ.out _ hxD; simp only at this; omega)
        have HCL := Zhd hcl; clear hcl hsp
        have HXD := Zhd hxD; clear hxD
        have HM := Zhd hM; clear hM
        have HL12 := Zhd (Zan hl1 hl2); clear hl1 hl2)
     | (refine wl_entry rfl rfl rfl hent ?_)
     | (go_at_call 62
        refine HCL.out.mono ?_
        rintro e w4 ⟨v1, rfl, ⟨⟨qa, qc, rfl⟩, hsv⟩, hk4, hg4, _⟩
        have hk34 : Kept [w.heap.size] wr w4 := hk3.trans hk4 (by simp) (by simp)
        have ho4 := own_kept HO.out hk34 (fun g hg => by have := HF.out.1 g hg; simp; omega))
     | (refine wl_app (v := .slice va vn vc) rfl rfl elSh rfl rfl (own_kept ho4 ((Kept.refl [] _).alloc _) (by simp)) ((new_sl3 _ _ _ _ _ rfl).src Tryz.underlying23) (by omega) (by omega) ?_
        intro v' w5 hown5 hk5 hd5)
     | fail)
    · obtain ⟨hl1, hl2⟩ := HL12.out
      have hMM := HM.out
      have hk45 : Kept [] w w4 := hkw3.trans hk4 (by simp) (by simp)
      have hs34 := hk4.size
      have hs45 := hk5.size
      simp only [World.size_alloc] at hs45 hd5
      have hvb : ∀ g, (Value.slice va vn vc).ownBlock = some g → w2.heap.size ≤ g ∧ g < wr.heap.size := fun g hg => ⟨HF.out.1 g hg, (HDis.out g hg).2⟩
      have hk35 : Kept (Value.slice va vn vc).ownBlock.toList w3 w5 := (hk4.trans ((Kept.refl [] _).alloc _) (U := []) (by simp) (by simp)).trans hk5 (by simp) (fun y hy _ => hy)
      have hkr5 : Kept (w.heap.size :: (Value.slice va vn vc).ownBlock.toList) wr w5 := hk3.trans hk35 (by simp) (fun y hy _ => by simp [hy])
      have hit5 : IterAt w5 w.heap.size r (rawT D) (rawT (L1 ++ L2)) := by
       have : rawT (L1 ++ L2) = l1 ++ l2 := by rw [hl1, hl2]; simp [rawT]
       rw [this]
       refine hit3.kept hk35 (fun h => ?_) (fun h => ?_)
       · simp only [Option.mem_toList] at h; have := hvb _ h; omega
       · simp only [Option.mem_toList] at h; have := hvb _ h; omega
      have hv'b : ∀ g, v'.ownBlock = some g → w2.heap.size ≤ g ∧ g < w5.heap.size ∧ (∀ y ∈ L, y.val.ownBlock ≠ some g) ∧ (Value.slice qa xp.length qc).ownBlock ≠ some g := by
       intro g hg
       rcases hd5 with ⟨h1, h2⟩ | ⟨h1, h2⟩
       · rw [h1] at hg
         have h3 := hvb g hg
         refine ⟨h3.1, by omega, (HDis.out g hg).1, fun h => ?_⟩
         have := hg4 g h
         omega
       · rw [h1] at hg
         simp only [Option.some.injEq] at hg
         refine ⟨by omega, by omega, fun y hy h => ?_, fun h => ?_⟩
         · have := HF.out.2 y hy g h; omega
         · have := hg4 g h; omega
      have hints5 : ∀ y ∈ L ++ [(⟨mem, xt, .slice qa xp.length qc, xp⟩ : Shr)], SlInts w5 y.val y.parts := by
       intro y hy
       rcases Zap.1 hy with hy | hy
       · refine (HI.out y hy).kept hkr5 (fun g hg => ?_)
         have h1 := HF.out.2 y hy g hg
         simp only [Zmc, Option.mem_toList, not_or]
         exact ⟨by omega, fun h => (HDis.out g h).1 y hy hg⟩
       · simp only [Zmc, Znn, or_false] at hy
         subst hy
         refine SlInts.kept ⟨⟨_, _, rfl⟩, hsv⟩ (((Kept.refl [] w4).alloc _).trans hk5 (by simp) (fun y hy _ => hy)) (fun g hg => ?_)
         simp only [Option.mem_toList]
         intro h
         have h1 := hg4 g hg
         have h2 := hvb g h
         omega
      refine ⟨⟨A ++ [(xt, .slice pa xp.length pc, xp)], L1 ++ L2, L ++ [⟨mem, xt, .slice qa xp.length qc, xp⟩], ?_, hit5, ?_, hints5, ?_, ?_, ?_, ?_, ?_, ?_⟩, ?_⟩
      · refine List.Perm.trans ?_ HP.out
        rw [hMM, List.append_assoc, List.singleton_append]
        exact List.Perm.append_left A (List.perm_middle (a := (xt, Value.slice pa xp.length pc, xp)) (l₁ := L1) (l₂ := L2)).symm
      · simpa [shrCells] using hown5
      · rw [List.map_append, HT.out, List.filter_append, List.map_append]
        have : full (xt, Value.slice pa xp.length pc, xp) = true := by
         unfold full; cases xp with
         | nil => simp at *
         | cons a b => rfl
        simp [this, trip, tripOf]
      · exact (hkw3.trans hk35 (U := []) (by simp) (fun y hy hlt => by simp only [Option.mem_toList] at hy; have := hvb y hy; omega))
      · exact fun g hg => (hv'b g hg).1
      · intro y hy g hg
        rcases Zap.1 hy with hy | hy
        · have := HF.out.2 y hy g hg; omega
        · simp only [Zmc, Znn, or_false] at hy
          subst hy
          have := hg4 g hg
          omega
      · intro g hg
        have h := hv'b g hg
        refine ⟨fun y hy => ?_, h.2.1⟩
        rcases Zap.1 hy with hy | hy
        · exact h.2.2.1 y hy
        · simp only [Zmc, Znn, or_false] at hy
          subst hy
          exact h.2.2.2
      · omega
      · rw [hit.leftOf, hit5.leftOf]
        simp [rawT, hMM]
    · obtain ⟨hl1, hl2⟩ := HL12.out
      have hMM := HM.out
      have hit5 : IterAt w3 w.heap.size r (rawT D) (rawT (L1 ++ L2)) := by
       have : rawT (L1 ++ L2) = l1 ++ l2 := by rw [hl1, hl2]; simp [rawT]
       rw [this]; exact hit3
      refine ⟨⟨A ++ [(xt, .slice pa xp.length pc, xp)], L1 ++ L2, L, ?_, hit5, own_kept HO.out hk3 ?_, fun y hy => (HI.out y hy).kept hk3 ?_, ?_, hkw3, HF.out.1, ?_, ?_, ?_⟩, ?_⟩
      · refine List.Perm.trans ?_ HP.out
        rw [hMM, List.append_assoc, List.singleton_append]
        exact List.Perm.append_left A (List.perm_middle (a := (xt, Value.slice pa xp.length pc, xp)) (l₁ := L1) (l₂ := L2)).symm
      · intro g hg; have := HF.out.1 g hg; simp; omega
      · intro g hg; have := HF.out.2 y hy g hg; simp; omega
      · rw [HT.out, List.filter_append]
        have : full (xt, Value.slice pa xp.length pc, xp) = false := by
         unfold full; cases xp with
         | nil => rfl
         | cons a b => simp at *
        simp [this]
      · intro y hy g hg; have := HF.out.2 y hy g hg; omega
      · intro g hg; have := HDis.out g hg; exact ⟨this.1, by omega⟩
      · omega
      · rw [hit.leftOf, hit5.leftOf]
        simp [rawT, hMM]
end
section
open Go Go.Proofs Go.RowKit
theorem strs_at {w : World} {a : Option Addr} {n c : Nat} {l : List ByteArray} (h : SlAt w 1 (.slice a n c) n (strs l)) (hn : 0 < n) : ∃ g off, a = some ⟨g, off, none⟩ ∧ ∀ (k : Nat) x, l[k]? = some x → w.cell? ⟨g, off + k, none⟩ = some (.string x) := by
 obtain ⟨_, hcase⟩ := h.cases
 rcases hcase with ⟨_, h0, _⟩ | ⟨g, off, hva, hcell⟩
 · omega
 · exact ⟨g, off, hva, fun k x hk => hcell k _ (by simp [strs, hk])⟩
theorem fits4 (v : Value) (l : List ByteArray) (w : World) (hv : SlStrs w v l) (hn : l.length ≤ maxLen) :
 Calls Tryz.prog 51 #[v] w fun e w' => AnyBool e ∧ Kept [] w w' := by
 obtain ⟨⟨a, c, rfl⟩, hsl⟩ := hv
 have HC := Zhd hsl; clear hsl
 have hmx : maxLen = 9223372036854775807 := rfl
 generalize hLn : l.length = n at *
 have HLN := Zhd hLn; clear hLn
 by_cases h1 : (2147483647 : Int) < n
 · go_enter Tryz.func51, Tryz.ntmps51
   go_wp2
   go_ret
   exact ⟨⟨_, rfl⟩, Kept.refl _ _⟩
 · go_enter Tryz.func51, Tryz.ntmps51
   go_wp2
   go_loopw [10] (fun i wr => ∃ k : Nat, k ≤ n ∧ i = .int .i64 k ∧ Kept [] w wr) (fun i _ => n - (intOf i).toNat)
   case atStart => exact ⟨0, Nat.zero_le _, rfl, Kept.refl _ _⟩
   case round =>
    obtain ⟨k, hk, rfl, hkw⟩ := hrel
    by_cases hlt : k < n
    · obtain ⟨x, hkx⟩ : ∃ x, l[k]? = some x := ⟨_, List.getElem?_eq_getElem (by have := HLN.out; omega)⟩
      obtain ⟨g, off, rfl, hcell⟩ := strs_at HC.out (by omega)
      have c1 := hkw.cell (hcell k x hkx) (by simp)
      clear hcell hkx
      by_cases h2 : (2147483647 : Int) < x.size
      · go_wp2
        go_ret
        exact ⟨⟨_, rfl⟩, hkw⟩
      · go_wp2
        go_roundw
        case rel => exact ⟨k + 1, by omega, by go_num, hkw⟩
        case measure => simp [intOf]; omega
    · go_wp2
      go_ret
      exact ⟨⟨_, rfl⟩, hkw⟩
def mcs (id : ByteArray) (ver : Int) (ta : Option Addr) (tn tc : Nat) (da : Option Addr) (dn dc : Nat) (oa : Option Addr) (on oc : Nat) (gen : Int) (rack : ByteArray) (has : Bool) : Array Value :=
 #[.string id, .int .i16 ver, .slice ta tn tc, .slice da dn dc, .slice oa on oc, .int .i32 gen, .string rack, .bool has]
theorem mcs_form {w : World} {m : Mem} (h : MemAt w m) : ∃ ta tc da dc oa oc, (memCells m).toArray = mcs m.id m.ver ta m.tops.length tc da m.data.length dc oa m.owned.length oc m.gen m.rack m.has ∧
 SlStrs w (.slice ta m.tops.length tc) m.tops ∧ SlAt w 1 (.slice da m.data.length dc) m.data.length m.data ∧ ShrsAt w (.slice oa m.owned.length oc) m.owned := by
 obtain ⟨⟨⟨ta, tc, h1⟩, h2⟩, ⟨⟨da, dc, h3⟩, h4⟩, h5⟩ := h
 obtain ⟨oa, oc, h6⟩ := h5.form
 rw [h1] at h2
 rw [h3] at h4
 rw [h6] at h5
 exact ⟨ta, tc, da, dc, oa, oc, by simp [memCells, mcs, h1, h3, h6], ⟨⟨_, _, rfl⟩, h2⟩, h4, h5⟩
theorem box8 {w w' : World} {a0 a1 a2 a3 a4 a5 a6 a7 : Value} {T : TypeId} (k : Kept [] (w.alloc (.cells #[a0, a1, a2, a3, a4, a5, a6, a7] T)) w') :
 w'.heap[w.heap.size]? = some (.cells #[a0, a1, a2, a3, a4, a5, a6, a7] T (0, 0)) ∧ w'.cell? ⟨w.heap.size, 0, none⟩ = some a0 ∧ w'.cell? ⟨w.heap.size, 1, none⟩ = some a1 ∧ w'.cell? ⟨w.heap.size, 2, none⟩ = some a2 ∧ w'.cell? ⟨w.heap.size, 3, none⟩ = some a3 ∧
 w'.cell? ⟨w.heap.size, 4, none⟩ = some a4 ∧ w'.cell? ⟨w.heap.size, 5, none⟩ = some a5 ∧ w'.cell? ⟨w.heap.size, 6, none⟩ = some a6 ∧ w'.cell? ⟨w.heap.size, 7, none⟩ = some a7 := by
 have h := k.heap (heap_alloc_new w (.cells #[a0, a1, a2, a3, a4, a5, a6, a7] T)) (by simp)
 obtain ⟨h1, _⟩ := cells_of h
 exact ⟨h, h1 0 _ rfl, h1 1 _ rfl, h1 2 _ rfl, h1 3 _ rfl, h1 4 _ rfl, h1 5 _ rfl, h1 6 _ rfl, h1 7 _ rfl⟩
theorem fits3 (m : Mem) (w : World) (hm : MemAt w m) (h1 : m.tops.length ≤ maxLen) (h2 : m.owned.length ≤ maxLen) :
 Calls Tryz.prog 27 #[.agg (memCells m).toArray] w fun e w' => AnyBool e ∧ Kept [] w w' := by
 obtain ⟨ta, tc, da, dc, oa, oc, e, ht, hd, ho⟩ := mcs_form hm
 rw [e]
 unfold mcs
 have h4 := fun w' (k : Kept [] w w') => fits4 _ _ w' (ht.kept k (by simp)) h1
 have h5 := fun w' (k : Kept [] w w') => fits5 _ _ w' (ho.kept k (by simp) (by simp)) h2
 have H4 := Zhd h4; clear h4
 have H5 := Zhd h5; clear h5
 clear ht hd ho hm e
 generalize m.tops.length = tn at *
 generalize m.owned.length = on at *
 generalize m.data.length = dn at *
 have hk0 : ∀ o, Kept [] w (w.alloc o) := fun o => (Kept.refl _ _).alloc o
 have HK := Zhd hk0; clear hk0
 go_enter Tryz.func27, Tryz.ntmps27
 go_wp2_with (first
  | (go_at_call 51; refine (H4.out _ (HK.out _)).mono ?_; rintro e w1 ⟨⟨b1, rfl⟩, hk1⟩; obtain ⟨_, _, _, _, c3, c4, _, c6, _⟩ := box8 hk1; cases b1)
  | (go_at_call 13; refine (H5.out _ ((HK.out _).trans hk1 (by simp) (by simp))).mono ?_; rintro e w2 ⟨⟨b2, rfl⟩, hk2⟩; obtain ⟨_, _, _, _, _, _, _, d6, _⟩ := box8 (hk1.trans hk2 (U := []) (by simp) (by simp)); cases b2)
  | fail)
 all_goals
  go_ret
  first
   | exact ⟨⟨_, rfl⟩, (((HK.out _).trans hk1 (U := []) (by simp) (by simp))).trans hk2 (by simp) (by simp)⟩
   | exact ⟨⟨_, rfl⟩, (HK.out _).trans hk1 (by simp) (by simp)⟩
   | exact ⟨⟨_, rfl⟩, HK.out _⟩
end
section
open Go Go.Proofs Go.RowKit
section
variable {P : Program} {w : World} {E sz bytes : Nat} {z : Value} {T : TypeId}
def AppN (w w' : World) (E sz m : Nat) (ys : List Value) (v' : Value) : Prop :=
 ∃ a c, v' = .slice a m c ∧ (m = 0 → a = none ∧ c = 0) ∧ (m ≠ 0 → a = some ⟨w.heap.size, 0, none⟩) ∧ m ≤ c ∧ w'.ownsRow 0 E sz v' m ys ∧ Kept [] w w'
theorem run_app_nil (el : Elem P T E sz bytes z) {tx : TypeId} {ty : TypeId} {x : Value} {m : Nat} {ys : List Value} (hsrc : Src P sz tx x m ys w)
 (hb : (4 * m + 1024) * bytes ≤ 281474976710656) (hm : m ≤ 281474976710656) :
 ∃ v' w', (Builtin.append_ #[T, tx] ty #[.slice none 0 0, x]).run P w = .ok v' w' ∧ AppN w w' E sz m ys v' := by
 obtain ⟨v', w', h1, h2, h3, h4⟩ := run_app (ty := ty) el (World.ownsRow_nil w 0 E sz) hsrc (by simpa using hb) (by simpa using hm)
 by_cases hm0 : m = 0
 · subst hm0
   have hn : ys = [] := List.eq_nil_of_length_eq_zero (by simpa using hsrc.newsLen)
   subst hn
   obtain ⟨ht, ⟨i, hi, hz, hsz, hby⟩, hzs, hpos⟩ := el
   subst hsz
   subst hby
   refine ⟨.slice none 0 0, w, ?_, none, 0, rfl, by simp, by simp, by simp, World.ownsRow_nil w 0 E i.size, Kept.refl _ _⟩
   rcases hsrc.kind with ⟨e', hk⟩ | hk <;>
    simp [Builtin.append_, run_underlying ht, run_underlying hk, sizeOf, typeInfo, hi, hsrc.len, hsrc.cells]
 · rw [Nat.zero_add, List.nil_append] at h2
   refine ⟨v', w', h1, ?_⟩
   rcases h2.2 with ⟨rfl, e2⟩ | ⟨g, cap, cur, rfl, _, hg, hnc, _⟩
   · omega
   · have hgg : g = w.heap.size := by
      rcases h4 with ⟨q1, _⟩ | ⟨q1, _⟩
      · simp [Value.ownBlock] at q1
      · simpa [Value.ownBlock] using q1
     subst hgg
     exact ⟨_, _, rfl, fun h => absurd h hm0, fun _ => rfl, hnc, h2, by simpa [Value.ownBlock] using h3⟩
variable {ops : Array Oper} {o : Oper} {a : Act} {rest : List Oper} {K : Act → World → Prop} {Q : Exit → Act → World → Prop} {G : Prop}
theorem wp_appN {s x : Operand} {tx : TypeId} (ho : o.op = .call { callee := .builtin .append, args := #[s, x], argTypes := #[T, tx] }) (el : Elem P T E sz bytes z)
 {xv : Value} {m : Nat} {ys : List Value} (hs : a.eval s = .slice none 0 0) (hx : a.eval x = xv) (hsrc : Src P sz tx xv m ys w)
 (hb : (4 * m + 1024) * bytes ≤ 281474976710656) (hm : m ≤ 281474976710656)
 (h : ∀ v' w', AppN w w' E sz m ys v' → K (a.put o.dst v') w') : Oper.wp P o a w K Q := by
 obtain ⟨v', w', hrun, h1⟩ := run_app_nil (ty := o.type) el hsrc hb hm
 refine wp_val (w' := w') (v := v') ?_ (h _ _ h1)
 simp [execOp, ho, resolve, invoke, builtin, hs, hx, hrun, Result.andThen]
theorem sl_appN {s x : Operand} {tx : TypeId} (hgd : o.guard = none) (ho : o.op = .call { callee := .builtin .append, args := #[s, x], argTypes := #[T, tx] }) (el : Elem P T E sz bytes z)
 {xv : Value} {m : Nat} {ys : List Value} (hs : a.eval s = .slice none 0 0) (hx : a.eval x = xv) (hsrc : Src P sz tx xv m ys w)
 (hb : (4 * m + 1024) * bytes ≤ 281474976710656) (hm : m ≤ 281474976710656)
 (h : ∀ v' w', AppN w w' E sz m ys v' → K (a.put o.dst v') w') : if Region.wanted o (yielded ops a.tmps) = true then Oper.wp P o a w K Q else G :=
 sl_of hgd (wp_appN ho el hs hx hsrc hb hm h)
end
end
section
open Go Go.Proofs Go.RowKit
theorem AppN.kept {w w' : World} {E sz m : Nat} {ys : List Value} {v : Value} (h : AppN w w' E sz m ys v) : Kept [] w w' := by
 obtain ⟨a, c, rfl, h2, h3, h4, h5, h6⟩ := h
 exact h6
theorem AppN.form {w w' : World} {E sz m : Nat} {ys : List Value} {v : Value} (h : AppN w w' E sz m ys v) : ∃ a c, v = .slice a m c := by
 obtain ⟨a, c, rfl, h2, h3, h4, h5, h6⟩ := h
 exact ⟨a, c, rfl⟩
def DataAt (w : World) (v : Value) (data : List Value) : Prop := ∃ a c, v = .slice a data.length c ∧ SlAt w 1 v data.length data ∧ (data = [] ↔ a = none) ∧ (data = [] → c = 0) ∧ data.length ≤ c
theorem DataAt.kept {w w' : World} {v : Value} {data : List Value} {S : List Nat} (h : DataAt w v data) (k : Kept S w w') (hs : ∀ g, v.ownBlock = some g → g ∉ S) : DataAt w' v data := by
 obtain ⟨a, c, e, h1, h2⟩ := h
 exact ⟨a, c, e, h1.kept k hs, h2⟩
abbrev OwT := ByteArray × Nat × Value × List Int
def OwAt (w : World) (x : OwT) : Prop := w.heap[x.2.1]? = some (.cells #[.string x.1, x.2.2.1] 121 (0, 0)) ∧ SlInts w x.2.2.1 x.2.2.2
def footO (L : List OwT) : List Nat := L.flatMap fun x => x.2.1 :: x.2.2.1.ownBlock.toList
def ptrsO (L : List OwT) : List Value := L.map fun x => .pointer (some ⟨x.2.1, 0, none⟩)
def Rs.stuff (tv : Value) (tops : List ByteArray) (dv : Value) (data : List Value) (L : List OwT) : Res :=
 ⟨tv.ownBlock.toList ++ dv.ownBlock.toList ++ footO L, fun w => SlStrs w tv tops ∧ DataAt w dv data ∧ ∀ x ∈ L, OwAt w x, fun w w' S k hs h =>
   ⟨h.1.kept k (fun g hg => hs g (by simp [hg])), h.2.1.kept k (fun g hg => hs g (by simp [hg])), fun x hx =>
     ⟨k.heap (h.2.2 x hx).1 (hs _ (by
       simp only [Zap]; right
       exact List.mem_flatMap.2 ⟨x, hx, by simp⟩)),
       (h.2.2 x hx).2.kept k (fun g hg => hs g (by
         simp only [Zap]; right
         exact List.mem_flatMap.2 ⟨x, hx, by simp [hg]⟩))⟩⟩⟩
theorem infoOw : (Tryz.prog.info? 119).map (fun i => (i.zero, i.size, i.bytes)) = some (some (.pointer none), 1, 8) := by kernel_rfl
theorem elOw : Elem Tryz.prog 75 119 1 8 (.pointer none) := ⟨Tryz.underlying75, info_parts infoOw, rfl, by omega⟩
def owOf (x : Shr) : ByteArray × List Int := (x.top, x.parts)
def ow2 (L : List OwT) : List (ByteArray × List Int) := L.map fun x => (x.1, x.2.2.2)
def MetaF (w : World) (lo : Nat) (m : Mem) (u : Value) : Prop :=
 ∃ tv dv ov ra OL, u = .agg #[.int .i16 m.ver, tv, dv, ov, .int .i32 m.gen, .pointer ra] ∧ ow2 OL = m.owned.map owOf ∧
  Own lo w [Rs.stuff tv m.tops dv m.data OL, Rs.row 119 1 ov OL.length (ptrsO OL)] ∧ (m.has = false → ra = none) ∧ (m.has = true → ∃ b, ra = some ⟨b, 0, none⟩ ∧ lo ≤ b ∧ w.cell? ⟨b, 0, none⟩ = some (.string m.rack))
theorem stuff_snoc {B : Nat} {wr w1 w2 w3 w4 : World} {X : Nat} {o o' : Obj} {tv dv ov ov' pv : Value} {tops : List ByteArray} {data : List Value} {OL : List OwT} {top : ByteArray} {parts : List Int}
 (h : Own B wr [Rs.stuff tv tops dv data OL, Rs.row 119 1 ov OL.length (ptrsO OL), Rs.blk X o]) (hB : B ≤ wr.heap.size) (k1 : Kept [] wr w1) (hpv : SlInts w1 pv parts) (hfr : ∀ g, pv.ownBlock = some g → wr.heap.size ≤ g ∧ g < w1.heap.size)
 (e2 : w2 = (w1.alloc (.cells #[.string top, pv] 121)).alloc (.cells #[.pointer (some ⟨w1.heap.size, 0, none⟩)] 119))
 (hown : w3.ownsRow 0 119 1 ov' (OL.length + 1) (ptrsO OL ++ [.pointer (some ⟨w1.heap.size, 0, none⟩)])) (k3 : Kept ov.ownBlock.toList w2 w3) (hd : (ov'.ownBlock = ov.ownBlock ∧ w3.heap.size = w2.heap.size) ∨ (ov'.ownBlock = some w2.heap.size ∧ w3.heap.size = w2.heap.size + 1))
 (k4 : Kept [X] w3 w4) (hs4 : w4.heap.size = w3.heap.size) (hX : w4.heap[X]? = some o') :
 Own B w4 [Rs.stuff tv tops dv data (OL ++ [(top, w1.heap.size, pv, parts)]), Rs.row 119 1 ov' (OL ++ [(top, w1.heap.size, pv, parts)]).length (ptrsO (OL ++ [(top, w1.heap.size, pv, parts)])), Rs.blk X o'] := by
 have k2 : Kept [] w1 w2 := by subst e2; exact ((Kept.refl _ _).alloc _).alloc _
 have hb2 : w2.heap[w1.heap.size]? = some (.cells #[.string top, pv] 121 (0, 0)) := by subst e2; exact ha (heap_alloc_new w1 _)
 have hs2 : w2.heap.size = w1.heap.size + 2 := by subst e2; simp
 have s1 := k1.size
 clear e2
 have k12 : Kept [] wr w2 := k1.trans k2 (by simp) (by simp)
 have a1 : Own B w2 [Rs.stuff tv tops dv data (OL ++ [(top, w1.heap.size, pv, parts)]), Rs.row 119 1 ov OL.length (ptrsO OL), Rs.blk X o] := by
  refine Own.put (F1 := []) h k12 (by simp) ?_ ?_ hB
  · have h0 : (Rs.stuff tv tops dv data OL).holds w2 := (Rs.stuff tv tops dv data OL).stable _ _ _ k12 (by simp) (h.ok _ (by simp))
    refine ⟨h0.1, h0.2.1, fun x hx => ?_⟩
    rcases Zap.1 hx with hx | hx
    · exact h0.2.2 x hx
    · simp only [Zmc, Znn, or_false] at hx
      subst hx
      exact ⟨hb2, hpv.kept k2 (by simp)⟩
  · intro g hg
    simp only [Rs.stuff, footO, List.flatMap_append, List.flatMap_cons, List.flatMap_nil, List.append_nil, Zap, Zmc] at hg ⊢
    rcases hg with (hg | hg) | hg | hg | hg
    · exact .inl (.inl (.inl hg))
    · exact .inl (.inl (.inr hg))
    · exact .inl (.inr hg)
    · right; subst hg; omega
    · right; have := hfr g (by simpa using hg); omega
 have s3 := k3.size
 have a2 : Own B w3 [Rs.stuff tv tops dv data (OL ++ [(top, w1.heap.size, pv, parts)]), Rs.row 119 1 ov' (OL.length + 1) (ptrsO OL ++ [.pointer (some ⟨w1.heap.size, 0, none⟩)]), Rs.blk X o] := by
  refine Own.put (F1 := [_]) a1 k3 (fun g hg => .inl hg) hown ?_ (by omega)
  intro g hg
  simp only [Rs.row, Option.mem_toList] at hg ⊢
  rcases hd with ⟨h1, h2⟩ | ⟨h1, h2⟩
  · rw [h1] at hg; exact .inl hg
  · rw [h1] at hg; simp only [Option.some.injEq] at hg; right; omega
 have a3 : Own B w4 [Rs.stuff tv tops dv data (OL ++ [(top, w1.heap.size, pv, parts)]), Rs.row 119 1 ov' (OL.length + 1) (ptrsO OL ++ [.pointer (some ⟨w1.heap.size, 0, none⟩)]), Rs.blk X o'] :=
  Own.put (F1 := [_, _]) a2 k4 (fun g hg => .inl hg) hX (fun g hg => .inl hg) (by omega)
 simpa [ptrsO] using a3
end
end Go.Proofs.YticcnlpfmekagaaGreat
