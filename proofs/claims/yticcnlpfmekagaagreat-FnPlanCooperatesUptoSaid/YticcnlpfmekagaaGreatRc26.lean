/- Part 26 of the proof of the row: Meta3. -/
import Derived.Test.YticcnlpfmekagaaGreatRc00
import Derived.Test.YticcnlpfmekagaaGreatRc25
set_option linter.unusedVariables false
set_option linter.unusedSimpArgs false
set_option maxRecDepth 100000
set_option maxHeartbeats 8000000
namespace Go.Proofs.YticcnlpfmekagaaGreat
section
open Go Go.Proofs Go.RowKit
theorem AppN.data {w w' : World} {ys : List Value} {v : Value} (h : AppN w w' 5 1 ys.length ys v) (h1 : ∀ u ∈ ys, u.oneCell' = true) : DataAt w' v ys ∧ (∀ g, v.ownBlock = some g → g = w.heap.size) := by
 obtain ⟨a, c, rfl, h2, h3, h4, h5, h6⟩ := h
 refine ⟨⟨a, c, rfl, own_sl h5 h1, ⟨fun e => (h2 (by simp [e])).1, fun e => ?_⟩, fun e => (h2 (by simp [e])).2, h4⟩, fun g hg => ?_⟩
 · by_cases h : ys.length = 0
   · exact List.eq_nil_of_length_eq_zero h
   · have := h3 h; rw [e] at this; cases this
 · by_cases h : ys.length = 0
   · rw [(h2 h).1] at hg; simp [Value.ownBlock] at hg
   · rw [h3 h] at hg; simpa [Value.ownBlock] using hg.symm
theorem DataAt.lt {w : World} {v : Value} {data : List Value} (h : DataAt w v data) : ∀ g, v.ownBlock = some g → g < w.heap.size := by
 intro g hg
 obtain ⟨a, c, rfl, h1, h2⟩ := h
 rcases h1.2.2 with ⟨a', c', e, h3⟩ | ⟨b, off, cap, e, hc⟩
 · have h4 := h2.1.1 (List.eq_nil_of_length_eq_zero h3)
   subst h4
   simp [Value.ownBlock] at hg
 · cases e
   simp only [Value.ownBlock, Option.some.injEq] at hg
   subst hg
   cases data with
   | nil => have := h2.1.1 rfl; cases this
   | cons x xs => exact World.block_lt_of_cell? w _ (hc 0 x rfl)
theorem new_sl1' (w : World) (o : Obj) (E : TypeId) (a : Value) (h : a.oneCell' = true) : SlAt ((w.alloc o).alloc (.cells #[a] E)) 1 (.slice (some ⟨w.heap.size + 1, 0, none⟩) 1 1) 1 [a] := by
 have := new_sl1 (w.alloc o) E a h
 rwa [World.size_alloc] at this
theorem own3 {B : Nat} {w : World} {X : Nat} {tv dv : Value} {tops : List ByteArray} {data : List Value} {o : Obj} (h1 : SlStrs w tv tops) (h2 : DataAt w dv data) (hX : w.heap[X]? = some o) (hB : B ≤ X)
 (f1 : ∀ g, tv.ownBlock = some g → B ≤ g ∧ g < w.heap.size ∧ g ≠ X) (f2 : ∀ g, dv.ownBlock = some g → B ≤ g ∧ g < w.heap.size ∧ g ≠ X) :
 Own B w [Rs.stuff tv tops dv data [], Rs.row 119 1 (.slice none 0 0) 0 [], Rs.blk X o] := by
 have hl := lt_of_heap hX
 have hft : ∀ g ∈ (Rs.stuff tv tops dv data []).foot, B ≤ g ∧ g < w.heap.size ∧ g ≠ X := by
  intro g hg
  simp only [Rs.stuff, footO, List.flatMap_nil, List.append_nil, Zap, Option.mem_toList] at hg
  rcases hg with hg | hg
  · exact f1 g hg
  · exact f2 g hg
 refine ⟨fun R hR => ?_, fun R hR g hg => ?_, ?_⟩
 · simp only [Zmc, Znn, or_false] at hR
   rcases hR with rfl | rfl | rfl
   · exact ⟨h1, h2, by simp⟩
   · exact own_nil _ _
   · exact hX
 · simp only [Zmc, Znn, or_false] at hR
   rcases hR with rfl | rfl | rfl
   · have := hft g hg; omega
   · simp [Rs.row, Value.ownBlock] at hg
   · simp only [Rs.blk, Zmc, Znn, or_false] at hg; omega
 · simp only [List.pairwise_cons, Zmc, Znn, or_false, forall_eq_or_imp, forall_eq, false_implies, implies_true, List.Pairwise.nil, and_true]
   refine ⟨⟨fun g _ h => by simp [Rs.row, Value.ownBlock] at h, fun g hg h => ?_⟩, fun g hg => by simp [Rs.row, Value.ownBlock] at hg⟩
   simp only [Rs.blk, Zmc, Znn, or_false] at h
   exact (hft g hg).2.2 h
theorem own_beside {B : Nat} {w w' : World} {R Q : Res} {X : Nat} {o : Obj} (h : Own B w [R, Q, Rs.blk X o]) (k : Kept [X] w w') : Own B w' [R, Q] := by
 have h2 : Own B w [R, Q] := h.sub (by simp)
 have hd := h.dis
 simp only [List.pairwise_cons, Zmc, Znn, or_false, forall_eq_or_imp, forall_eq] at hd
 have hz := k.size
 refine ⟨fun T hT => ?_, fun T hT g hg => by have := h2.lo T hT g hg; omega, h2.dis⟩
 have hn : ∀ g ∈ T.foot, g ∉ [X] := by
  intro g hg hx
  simp only [Zmc, Znn, or_false] at hT
  rcases hT with rfl | rfl
  · exact hd.1.2 g hg hx
  · exact hd.2.1 g hg hx
 exact T.stable _ _ _ k hn (h2.ok T hT)
abbrev metaO (ver gen : Int) (tv dv ov rk : Value) : Obj := .cells #[.int .i16 ver, tv, dv, ov, .int .i32 gen, rk] 78 (0, 0)
theorem metadata_full (m : Mem) (w : World) (hm : MemAt w m) (hn : m.tops.length ≤ 1000000) (hdl : m.data.length ≤ 1000000) (hol : m.owned.length ≤ 1000) (hop : ∀ x ∈ m.owned, x.parts.length ≤ 1000000) :
 Calls Tryz.prog 45 #[.agg (memCells m).toArray] w fun e w' => ∃ u, e = .returned u ∧ MetaF w' w.heap.size m u ∧ Kept [] w w' := by
 obtain ⟨ta, tc, da, dc, oa, oc, e, ht, hd, ho⟩ := mcs_form hm
 rw [e]
 unfold mcs
 clear hm e
 obtain ⟨id, ver, tv, tops, dv, data, ov, owned, gen, rack, has⟩ := m
 simp only at *
 have hcl : ∀ w', Kept [] w w' → _ := fun w' k => clone_str (.slice ta tops.length tc) tops w' (ht.kept k (by simp)) (by omega)
 have HCL := Zhd hcl; clear hcl
 have hsd : ∀ w', Kept [] w w' → Src Tryz.prog 1 28 (.slice da data.length dc) data.length data w' := fun w' k => (hd.kept k (by simp)).src Tryz.underlying28
 have HSD := Zhd hsd; clear hsd
 have hd1 := hd.2.1
 have HD1 := Zhd hd1; clear hd1
 have HOW := Zhd (Zan ho hop); clear ho hop
 clear ht hd
 generalize htn : tops.length = tn at *
 generalize hon : owned.length = on at *
 generalize hdn : data.length = dn at *
 have HTN := Zhd (Zan htn (Zan hon hdn)); clear htn hon hdn
 go_enter Tryz.func45, Tryz.ntmps45
 go_upto_region 1 with fail
 have hk0 : Kept [] w ((w.alloc (.cells #[.string id, .int .i16 ver, .slice ta tn tc, .slice da dn dc, .slice oa on oc, .int .i32 gen, .string rack, .bool has] 30)).alloc (.cells #[.int .i16 0, .slice none 0 0, .slice none 0 0, .slice none 0 0, .int .i32 0, .pointer none] 78)) := ((Kept.refl _ _).alloc _).alloc _
 have hB := fun w' (k : Kept [] ((w.alloc (.cells #[.string id, .int .i16 ver, .slice ta tn tc, .slice da dn dc, .slice oa on oc, .int .i32 gen, .string rack, .bool has] 30)).alloc (.cells #[.int .i16 0, .slice none 0 0, .slice none 0 0, .slice none 0 0, .int .i32 0, .pointer none] 78)) w') => box8 (w := w) (w' := w') (((Kept.refl [] _).alloc _).trans k (U := []) (by simp) (by simp))
 have hB2 := fun w' (k : Kept [] ((w.alloc (.cells #[.string id, .int .i16 ver, .slice ta tn tc, .slice da dn dc, .slice oa on oc, .int .i32 gen, .string rack, .bool has] 30)).alloc (.cells #[.int .i16 0, .slice none 0 0, .slice none 0 0, .slice none 0 0, .int .i32 0, .pointer none] 78)) w') => k.heap (heap_alloc_new (w.alloc (.cells #[.string id, .int .i16 ver, .slice ta tn tc, .slice da dn dc, .slice oa on oc, .int .i32 gen, .string rack, .bool has] 30)) _) (by simp)
 have hMs : ((w.alloc (.cells #[.string id, .int .i16 ver, .slice ta tn tc, .slice da dn dc, .slice oa on oc, .int .i32 gen, .string rack, .bool has] 30)).alloc (.cells #[.int .i16 0, .slice none 0 0, .slice none 0 0, .slice none 0 0, .int .i32 0, .pointer none] 78)).heap.size = w.heap.size + 2 := by simp
 rw [World.size_alloc] at hB2
 generalize ((w.alloc (.cells #[.string id, .int .i16 ver, .slice ta tn tc, .slice da dn dc, .slice oa on oc, .int .i32 gen, .string rack, .bool has] 30)).alloc (.cells #[.int .i16 0, .slice none 0 0, .slice none 0 0, .slice none 0 0, .int .i32 0, .pointer none] 78)) = M at *
 have HB := Zhd hB; clear hB
 have HB2 := Zhd hB2; clear hB2
 have HK0 := Zhd hk0; clear hk0
 have HMS := Zhd hMs; clear hMs
 go_cut [3] (fun p wx => ∃ X tv' dv', p = .pointer (some ⟨X, 0, none⟩) ∧ Own M.heap.size wx [Rs.stuff tv' tops dv' data [], Rs.row 119 1 (.slice none 0 0) 0 [], Rs.blk X (metaO ver gen tv' dv' (.slice none 0 0) (.pointer none))] ∧ Kept [] M wx)
 case first =>
  have hS : ∀ w', Kept [] M w' → w'.cell? ⟨w.heap.size, 1, none⟩ = some (.int .i16 ver) ∧ w'.cell? ⟨w.heap.size, 2, none⟩ = some (.slice ta tn tc) ∧ w'.cell? ⟨w.heap.size, 3, none⟩ = some (.slice da dn dc) ∧ w'.cell? ⟨w.heap.size, 5, none⟩ = some (.int .i32 gen) := fun w' k => by
   obtain ⟨_, _, c1, c2, c3, _, c5, _⟩ := HB.out w' k
   exact ⟨c1, c2, c3, c5⟩
  have HS := Zhd hS; clear hS
  go_region_held3 (fun w' => w'.cell? ⟨w.heap.size, 1, none⟩ = some (.int .i16 ver) ∧ w'.cell? ⟨w.heap.size, 2, none⟩ = some (.slice ta tn tc) ∧ w'.cell? ⟨w.heap.size, 3, none⟩ = some (.slice da dn dc) ∧ w'.cell? ⟨w.heap.size, 5, none⟩ = some (.int .i32 gen))
   (first | with_reducible exact HS.out _ (Kept.refl _ _).drew | with_reducible exact HS.out _ hk1' | with_reducible exact HS.out _ hk2' | with_reducible exact HS.out _ ((Kept.refl _ _).alloc _).drew | with_reducible exact HS.out _ (hk1'.alloc _) | with_reducible exact HS.out _ (hk2'.alloc _) | with_reducible exact HS.out _ hk3' | fail)
   (first | (go_at_call 61
             refine (HCL.out _ HK0.out.drew).mono ?_
             rintro e w1 ⟨tv', rfl, ⟨⟨ta', tc', rfl⟩, htv⟩, hk1, hfr1⟩
             have hk1' : Kept [] M w1 := hk1.of_drew)
          | (go_at_call 61
             refine (HCL.out _ (HK0.out.alloc _).drew).mono ?_
             rintro e w1 ⟨tv', rfl, ⟨⟨ta', tc', rfl⟩, htv⟩, hk1, hfr1⟩
             have hk1' : Kept [] M w1 := ((Kept.refl [] M).alloc _).trans hk1.of_drew (by simp) (by simp)
             have hX : w1.heap[M.heap.size]? = some (.cells #[.int .i16 0, .slice none 0 0, .slice none 0 0, .slice none 0 0, .int .i32 0, .pointer none] 78 (0, 0)) := hk1.of_drew.heap (heap_alloc_new M _) (by simp))
          | (refine sl_appN rfl rfl elU8 rfl rfl (HSD.out _ (HK0.out.trans hk1' (by simp) (by simp))) (by omega) (by omega) ?_
             rintro dv' w2 happ
             have hk2 := happ.kept
             obtain ⟨xa, xc, rfl⟩ := happ.form
             have hk2' : Kept [] M w2 := hk1'.trans hk2 (by simp) (by simp)
             have hX2 : w2.heap[M.heap.size]? = some (.cells #[.int .i16 0, .slice none 0 0, .slice none 0 0, .slice none 0 0, .int .i32 0, .pointer none] 78 (0, 0)) := hk2.heap hX (by simp)
             have HX2 := Zhd hX2; clear hX2)
          | (refine sl_appN rfl rfl elU8 rfl rfl (HSD.out _ (HK0.out.trans hk1' (by simp) (by simp))) (by omega) (by omega) ?_
             rintro dv' w2 happ
             have hk2 := happ.kept
             obtain ⟨xa, xc, rfl⟩ := happ.form
             have hk2' : Kept [] M w2 := hk1'.trans hk2 (by simp) (by simp))
          | (refine sl_appN rfl rfl elU8 rfl rfl (HSD.out _ ((HK0.out.trans hk1' (by simp) (by simp)).alloc _)) (by omega) (by omega) ?_
             rintro dv' w2 happ
             have hk2 := happ.kept
             obtain ⟨xa, xc, rfl⟩ := happ.form
             have hk2' : Kept [] M w2 := (hk1'.alloc _).trans hk2 (by simp) (by simp)
             have hX2 : w2.heap[w1.heap.size]? = some (.cells #[.int .i16 0, .slice none 0 0, .slice none 0 0, .slice none 0 0, .int .i32 0, .pointer none] 78 (0, 0)) := hk2.heap (heap_alloc_new w1 _) (by simp)
             have HX2 := Zhd hX2; clear hX2)
          | (refine up_store6 (fun _ _ => rfl) HX2.out ?_
             intro w3 hX3 hk3 hs3
             have hk3' : Kept [] M w3 := hk2'.trans hk3 (by simp) (fun x hx hlt => absurd hlt (by have := hk1'.size; simp only [List.mem_singleton] at hx; omega)))
          | fail)
  · have hap := happ
    rw [← HTN.out.2.2] at hap
    obtain ⟨hda, hfd⟩ := hap.data HD1.out
    rw [HTN.out.2.2] at hda hfd
    have HE := Zhd (Zan hda (Zan hfd htv)); clear hda hfd htv hap happ
    go_wp2_with fail
    go_meet
    obtain ⟨hda, hfd, htv⟩ := HE.out
    have hs1 := hk1'.size
    have hs2 := hk2.size
    have ht2 : SlStrs w2 (.slice ta' tops.length tc') tops := (SlStrs.kept ⟨⟨_, _, rfl⟩, htv⟩ hk2 (by simp))
    refine ⟨w2.heap.size, _, _, rfl, own3 (ht2.kept ((Kept.refl [] _).alloc _) (by simp)) (hda.kept ((Kept.refl [] _).alloc _) (by simp)) (heap_alloc_new _ _) (by omega) (fun g hg => ?_) (fun g hg => ?_), hk2'.alloc _⟩
    · have := hfr1 g hg; simp only [World.size_drew, World.size_alloc] at *; omega
    · have := hfd g hg; have := hda.lt g hg; simp only [World.size_drew, World.size_alloc] at *; omega
  · have hap := happ
    rw [← HTN.out.2.2] at hap
    obtain ⟨hda, hfd⟩ := hap.data HD1.out
    rw [HTN.out.2.2] at hda hfd
    have HE := Zhd (Zan hda (Zan hfd (Zan htv hX3))); clear hda hfd htv hap happ hX3
    go_wp2_with fail
    go_meet
    obtain ⟨hda, hfd, htv, hX3⟩ := HE.out
    have hs1 := hk1'.size
    have hs2 := hk2.size
    have hs3 := hk3.size
    simp only [World.size_alloc] at hs2 hfd
    have ht2 : SlStrs w2 (.slice ta' tops.length tc') tops := (SlStrs.kept ⟨⟨_, _, rfl⟩, htv.alloc _⟩ hk2 (by simp))
    refine ⟨w1.heap.size, _, _, rfl, own3 (ht2.kept hk3 (fun g hg => ?_)) (hda.kept hk3 (fun g hg => ?_)) hX3 (by omega) (fun g hg => ?_) (fun g hg => ?_), hk3'⟩
    · have := hfr1 g hg; simp only [World.size_drew, List.mem_singleton] at *; omega
    · have := hfd g hg; simp only [List.mem_singleton]; omega
    · have := hfr1 g hg; simp only [World.size_drew, World.size_alloc] at *; omega
    · have := hfd g hg; have := hda.lt g hg; omega
  · have hap := happ
    rw [← HTN.out.2.2] at hap
    obtain ⟨hda, hfd⟩ := hap.data HD1.out
    rw [HTN.out.2.2] at hda hfd
    have HE := Zhd (Zan hda (Zan hfd (Zan htv hX3))); clear hda hfd htv hap happ hX3
    go_wp2_with fail
    go_meet
    obtain ⟨hda, hfd, htv, hX3⟩ := HE.out
    have hs1 := hk1.size
    have hs2 := hk2.size
    have hs3 := hk3.size
    simp only [World.size_alloc, World.size_drew] at hs1 hfr1
    have ht2 : SlStrs w2 (.slice ta' tops.length tc') tops := (SlStrs.kept ⟨⟨_, _, rfl⟩, htv⟩ hk2 (by simp))
    refine ⟨M.heap.size, _, _, rfl, own3 (ht2.kept hk3 (fun g hg => ?_)) (hda.kept hk3 (fun g hg => ?_)) hX3 (by omega) (fun g hg => ?_) (fun g hg => ?_), hk3'⟩
    · have := hfr1 g hg; simp only [List.mem_singleton]; omega
    · have := hfd g hg; simp only [List.mem_singleton]; omega
    · have := hfr1 g hg; omega
    · have := hfd g hg; have := hda.lt g hg; omega
 case rest =>
  obtain ⟨X, tv', dv', rfl, hown, hkm⟩ := hcut
  obtain ⟨_, c0, c1, c2, c3, c4, c5, c6, c7⟩ := HB.out _ hkm
  have HOWN := Zhd (Zan hown hkm); clear hown hkm
  have hms := HMS.out
  have hMw := HOWN.out.2.size
  go_wp2_with fail
  go_loopw [21] (fun i wr => ∃ (k : Nat) (OL : List OwT) (ov' : Value), i = .int .i64 k ∧ k ≤ on ∧ ow2 OL = (owned.take k).map owOf ∧ Own M.heap.size wr [Rs.stuff tv' tops dv' data OL, Rs.row 119 1 ov' OL.length (ptrsO OL), Rs.blk X (metaO ver gen tv' dv' ov' (.pointer none))] ∧ Kept [] M wr) (fun i _ => on - (intOf i).toNat)
  case atStart => exact ⟨0, [], .slice none 0 0, rfl, Nat.zero_le _, rfl, HOWN.out.1, HOWN.out.2⟩
  case round =>
   obtain ⟨k, OL, ov', rfl, hk, hOL, hown, hkw⟩ := hrel
   by_cases hlt : k < on
   · obtain ⟨x, hkx⟩ : ∃ x, owned[k]? = some x := ⟨_, List.getElem?_eq_getElem (by have := HTN.out.2.1; omega)⟩
     obtain ⟨g1, g2, g3⟩ := shr_get hkx
     have hxO : x ∈ owned := List.mem_of_getElem? hkx
     have hcs := HOW.out.1.cells
     rw [HTN.out.2.1] at hcs
     obtain ⟨_, hcase⟩ := hcs.cases
     rcases hcase with ⟨_, h0, _⟩ | ⟨g, off, hva, hcell⟩
     · omega
     cases hva
     have hk0w : Kept [] w wr := HK0.out.trans hkw (by simp) (by simp)
     have d0 := hk0w.cell (p := ⟨g, off + k * 3, none⟩) (hcell _ _ g1) (by simp)
     have d1 := hk0w.cell (p := ⟨g, off + (k * 3 + 1), none⟩) (hcell _ _ g2) (by simp)
     have d2 := hk0w.cell (p := ⟨g, off + (k * 3 + 2), none⟩) (hcell _ _ g3) (by simp)
     rw [← Nat.add_assoc] at d1 d2
     have hpx := HOW.out.1.parts x hxO
     have hpl := HOW.out.2 x hxO
     obtain ⟨⟨pa, pc, hval⟩, _⟩ := HOW.out.1.parts x hxO
     rw [hval] at d2 hpx
     have hcl2 := fun w' (k' : Kept [] wr w') => clone_i32 _ _ w' (hpx.kept (hk0w.trans k' (U := []) (by simp) (by simp)) (by simp)) (by omega)
     have HCL2 := Zhd hcl2; clear hcl2 hpx
     have hX := hown.ok (Rs.blk X (metaO ver gen tv' dv' ov' (.pointer none))) (by simp)
     have hrow := hown.ok (Rs.row 119 1 ov' OL.length (ptrsO OL)) (by simp)
     have hXl := lt_of_heap hX
     have hXB : M.heap.size ≤ X := (hown.lo (Rs.blk X (metaO ver gen tv' dv' ov' (.pointer none))) (by simp) X (by simp [Rs.blk])).1
     have HXB := Zhd hXB
     have hne : ∀ y, ov'.ownBlock = some y → y ≠ X ∧ M.heap.size ≤ y ∧ y < wr.heap.size := by
      intro y hy
      have h1 := hown.dis
      simp only [List.pairwise_cons, Zmc, Znn, or_false, forall_eq_or_imp, forall_eq] at h1
      have h2 := hown.lo (Rs.row 119 1 ov' OL.length (ptrsO OL)) (by simp) y (by simp [Rs.row, hy])
      refine ⟨fun e => h1.2.1 y (by simp [Rs.row, hy]) (by simp [Rs.blk, e]), h2⟩
     have hlO : OL.length = k := by have := congrArg List.length hOL; simp only [ow2, List.length_map, List.length_take] at this; have := HTN.out.2.1; omega
     have hlO2 : OL.length ≤ 1000 := by omega
     have HLO := Zhd hlO; clear hlO
     have HROW := Zhd hrow; clear hrow
     have HNE := Zhd hne; clear hne
     have HOL := Zhd hOL; clear hOL
     have HO := Zhd (Zan hown hkw); clear hown hkw
     have HKX := Zhd hkx; clear hkx
     have HXX := Zhd hX
     have x3 : (wr.alloc (.cells #[.string x.mem, .string x.top, .slice pa x.parts.length pc] 33)).cell? ⟨X, 3, none⟩ = some ov' := ca ((cells_of hX).1 3 _ rfl)
     have z3 : wr.frozen? ⟨X, 3, none⟩ = false := (cells_of hX).2 3
     clear hX hcell hcs g1 g2 g3 hval
     have hsz : X ≠ wr.heap.size := by omega
     go_upto_block 1 with fail
     go_cut [] (fun wx => ∃ OL2 ov2, ow2 OL2 = (owned.take (k + 1)).map owOf ∧ Own M.heap.size wx [Rs.stuff tv' tops dv' data OL2, Rs.row 119 1 ov2 OL2.length (ptrsO OL2), Rs.blk X (metaO ver gen tv' dv' ov2 (.pointer none))] ∧ Kept [] M wx)
     case first =>
      go_upto_region 5 with fail
      go_region_law
       (first
         | (go_simp
            go_at_call 62
            refine (HCL2.out _ ((Kept.refl [] wr).alloc _).drew).mono ?_
            rintro e w1 ⟨v1, rfl, hsl1, hk1, hg1, ⟨a1, c1, rfl, hc1⟩⟩
            have hk1' : Kept [] wr w1 := ((Kept.refl [] wr).alloc _).trans hk1.of_drew (by simp) (by simp)
            have x31 : w1.cell? ⟨X, 3, none⟩ = some ov' := hk1.of_drew.cell x3 (by simp)
            have x3a : ∀ o, (w1.alloc o).cell? ⟨X, 3, none⟩ = some ov' := fun o => ca x31
            have x3b : ∀ o o', ((w1.alloc o).alloc o').cell? ⟨X, 3, none⟩ = some ov' := fun o o' => ca (ca x31)
            have s11 : w1.cell? ⟨wr.heap.size, 1, none⟩ = some (.string x.top) := hk1.of_drew.cell (p := ⟨wr.heap.size, 1, none⟩) (by simp) (by simp)
            go_wp2_with fail)
         | (refine sl_app (v := ov') rfl rfl elOw rfl rfl (own_kept HROW.out ((hk1'.alloc _).alloc _) (by simp)) ((new_sl1' _ _ _ _ rfl).src Tryz.underlying75) (by omega) (by omega) ?_
            intro v' w3 hown3 hk3 hd3
            have hk13 : Kept ov'.ownBlock.toList wr w3 := ((hk1'.alloc _).alloc _).trans hk3 (by simp) (fun y hy _ => hy)
            have hX3 := hk13.heap HXX.out (fun h => (HNE.out X (by simpa using h)).1 rfl)
            have x33 : w3.cell? ⟨X, 3, none⟩ = some ov' := (cells_of hX3).1 3 _ rfl
            have z33 : w3.frozen? ⟨X, 3, none⟩ = false := (cells_of hX3).2 3
            have HX3 := Zhd hX3; clear hX3
            obtain ⟨va', vn', vc', rfl⟩ := own_form hown3)
         | fail)
      all_goals
       have hX4 := row_set HX3.out 3 (.slice va' vn' vc')
       have hk4 : Kept [X] w3 (w3.setCell ⟨X, 3, none⟩ (.slice va' vn' vc')) := (Kept.refl _ _).setCell _ (by simp)
       have hend := stuff_snoc (o' := metaO ver gen tv' dv' (.slice va' vn' vc') (.pointer none)) HO.out.1 (by have := HO.out.2.size; omega) hk1' hsl1 (fun y hy => by have := hg1 y hy; simp only [World.size_drew, World.size_alloc] at this; omega) rfl hown3 hk3 hd3 hk4 (by simp) hX4
       have hkf : Kept [] M (w3.setCell ⟨X, 3, none⟩ (.slice va' vn' vc')) := (HO.out.2.own hk13 (Nat.le_refl _) (fun y hy => (HNE.out y (by simpa using hy)).2.1)).own hk4 (Nat.le_refl _) (by simp; exact HXB.out)
       have HE := Zhd (Zan hend hkf); clear hend hkf hX4
       go_wp2_with fail
       go_meet
       refine ⟨_, _, ?_, HE.out.1, HE.out.2⟩
       obtain ⟨hk', hx'⟩ := List.getElem?_eq_some_iff.1 HKX.out
       rw [List.take_succ_eq_append_getElem hk', hx', List.map_append, ← HOL.out]
       simp [ow2, owOf]
     case rest =>
      obtain ⟨OL2, ov2, h1, h2, h3⟩ := hcut
      have HE := Zhd (Zan h1 (Zan h2 h3)); clear h1 h2 h3
      go_wp2_with fail
      go_roundw
      case rel => exact ⟨k + 1, OL2, ov2, by go_num, by omega, HE.out.1, HE.out.2.1, HE.out.2.2⟩
      case measure => simp [intOf]; omega
   · have hall : owned.take k = owned := List.take_of_length_le (by have := HTN.out.2.1; omega)
     rw [hall] at hOL
     obtain ⟨_, e0, e1, e2, e3, e4, e5, e6, e7⟩ := HB.out _ hkw
     have hM2 := HB2.out _ hkw
     have HM2 := Zhd hM2; clear hM2
     have hX := hown.ok (Rs.blk X (metaO ver gen tv' dv' ov' (.pointer none))) (by simp)
     have hXB := (hown.lo (Rs.blk X (metaO ver gen tv' dv' ov' (.pointer none))) (by simp) X (by simp [Rs.blk])).1
     have hst := hown.ok (Rs.stuff tv' tops dv' data OL) (by simp)
     obtain ⟨⟨ta', tc', rfl⟩, _⟩ := hst.1
     obtain ⟨da', dc', rfl, _, _⟩ := hst.2.1
     obtain ⟨oa', on', oc', rfl⟩ := own_form (hown.ok (Rs.row 119 1 ov' OL.length (ptrsO OL)) (by simp))
     have hsub : Own M.heap.size wr [Rs.stuff (.slice ta' tops.length tc') tops (.slice da' data.length dc') data OL, Rs.row 119 1 (.slice oa' on' oc') OL.length (ptrsO OL)] := hown.sub (by simp)
     have hxo : ∀ wb, Kept [X] wr wb → Own M.heap.size wb [Rs.stuff (.slice ta' tops.length tc') tops (.slice da' data.length dc') data OL, Rs.row 119 1 (.slice oa' on' oc') OL.length (ptrsO OL)] := fun wb k => own_beside hown k
     have HXO := Zhd hxo; clear hxo
     have HO := Zhd (Zan hOL (Zan hsub (Zan hkw hX))); clear hOL hsub hst hown hall
     have hws := hkw.size
     cases has with
     | false =>
       obtain ⟨x0, x1, x2, x3, x4, x5⟩ : wr.cell? ⟨X, 0, none⟩ = some (.int .i16 ver) ∧ wr.cell? ⟨X, 1, none⟩ = some (.slice ta' tops.length tc') ∧ wr.cell? ⟨X, 2, none⟩ = some (.slice da' data.length dc') ∧ wr.cell? ⟨X, 3, none⟩ = some (.slice oa' on' oc') ∧ wr.cell? ⟨X, 4, none⟩ = some (.int .i32 gen) ∧ wr.cell? ⟨X, 5, none⟩ = some (.pointer none) := by
        obtain ⟨h1, _⟩ := cells_of hX
        exact ⟨h1 0 _ rfl, h1 1 _ rfl, h1 2 _ rfl, h1 3 _ rfl, h1 4 _ rfl, h1 5 _ rfl⟩
       clear hX hkw
       go_wp2_with (first | (refine up_store6 (fun _ _ => rfl) HM2.out ?_; intro w2 hw2 hk2 hs2) | fail)
       refine bodyPost_ret (results_cell_row rfl _ _ (w.heap.size + 1) 78 _ (0, 0) _ rfl hw2 Tryz.underlying78 rfl info78) rfl ?_
       refine ⟨_, rfl, ⟨_, _, _, _, OL, rfl, HO.out.1, (HO.out.2.1.kept hk2 (by simp; omega)).low (by omega), fun _ => rfl, fun h => by cases h⟩, ?_⟩
       exact (HK0.out.trans HO.out.2.2.1 (U := []) (by simp) (by simp)).trans hk2 (by simp) (by simp)
     | true =>
       have y5 : (wr.alloc (.cells #[.string rack] 9)).cell? ⟨X, 5, none⟩ = some (.pointer none) := ca ((cells_of hX).1 5 _ rfl)
       have z5 : wr.frozen? ⟨X, 5, none⟩ = false := (cells_of hX).2 5
       have hxl := lt_of_heap hX
       have hne : X ≠ wr.heap.size := by omega
       clear hX hkw
       go_upto_region 10 with fail
       have hXb := ha (o := .cells #[.string rack] 9) (row_set HO.out.2.2.2 5 (.pointer (some ⟨wr.heap.size, 0, none⟩)))
       have hkb : Kept [X] wr ((wr.setCell ⟨X, 5, none⟩ (.pointer (some ⟨wr.heap.size, 0, none⟩))).alloc (.cells #[.string rack] 9)) := ((Kept.refl _ _).setCell _ (by simp)).alloc _
       have hrb : ((wr.setCell ⟨X, 5, none⟩ (.pointer (some ⟨wr.heap.size, 0, none⟩))).alloc (.cells #[.string rack] 9)).cell? ⟨wr.heap.size, 0, none⟩ = some (.string rack) := by
        have h := (cells_of (heap_alloc_new (wr.setCell ⟨X, 5, none⟩ (.pointer (some ⟨wr.heap.size, 0, none⟩))) (.cells #[.string rack] 9))).1 0 _ rfl
        simpa using h
       generalize ((wr.setCell ⟨X, 5, none⟩ (.pointer (some ⟨wr.heap.size, 0, none⟩))).alloc (.cells #[.string rack] 9)) = wb at *
       obtain ⟨x0, x1, x2, x3, x4, x5⟩ : wb.cell? ⟨X, 0, none⟩ = some (.int .i16 ver) ∧ wb.cell? ⟨X, 1, none⟩ = some (.slice ta' tops.length tc') ∧ wb.cell? ⟨X, 2, none⟩ = some (.slice da' data.length dc') ∧ wb.cell? ⟨X, 3, none⟩ = some (.slice oa' on' oc') ∧ wb.cell? ⟨X, 4, none⟩ = some (.int .i32 gen) ∧ wb.cell? ⟨X, 5, none⟩ = some (.pointer (some ⟨wr.heap.size, 0, none⟩)) := by
        obtain ⟨h1, _⟩ := cells_of hXb
        exact ⟨h1 0 _ rfl, h1 1 _ rfl, h1 2 _ rfl, h1 3 _ rfl, h1 4 _ rfl, h1 5 _ rfl⟩
       have hM2b := hkb.heap HM2.out (by simp; omega)
       have HM2b := Zhd hM2b; clear hM2b
       have HRB := Zhd (Zan hkb hrb); clear hkb hrb hXb
       go_wp2_with (first | (refine up_store6 (fun _ _ => rfl) HM2b.out ?_; intro w2 hw2 hk2 hs2) | fail)
       refine bodyPost_ret (results_cell_row rfl _ _ (w.heap.size + 1) 78 _ (0, 0) _ rfl hw2 Tryz.underlying78 rfl info78) rfl ?_
       have hown2 : Own M.heap.size wb [Rs.stuff (.slice ta' tops.length tc') tops (.slice da' data.length dc') data OL, Rs.row 119 1 (.slice oa' on' oc') OL.length (ptrsO OL)] := HXO.out wb HRB.out.1
       refine ⟨_, rfl, ⟨_, _, _, _, OL, rfl, HO.out.1, (hown2.kept hk2 (by simp; omega)).low (by omega), (fun h => by cases h), fun _ => ⟨wr.heap.size, rfl, by omega, hk2.cell HRB.out.2 (by simp; omega)⟩⟩, ?_⟩
       exact ((HK0.out.trans HO.out.2.2.1 (U := []) (by simp) (by simp)).trans HRB.out.1 (U := []) (by simp) (by simp; omega)).trans hk2 (by simp) (by simp)
end
end Go.Proofs.YticcnlpfmekagaaGreat
