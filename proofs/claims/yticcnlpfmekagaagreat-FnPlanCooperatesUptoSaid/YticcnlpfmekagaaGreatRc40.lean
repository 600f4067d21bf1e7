/- Part 40 of the proof of the row: PreC. -/
import Derived.Test.YticcnlpfmekagaaGreatRc00
import Derived.Test.YticcnlpfmekagaaGreatRc22
import Derived.Test.YticcnlpfmekagaaGreatRc37
set_option linter.unusedVariables false
set_option linter.unusedSimpArgs false
set_option maxRecDepth 100000
set_option maxHeartbeats 8000000
namespace Go.Proofs.YticcnlpfmekagaaGreat
section
open Go Go.Proofs Go.RowKit Go.Lib
open Classical
def CoIs (w : World) (u : Value) (parts : List TP) (gen : Int) : Prop :=
 ∀ w1, Kept [] w w1 → Calls Tryz.prog 235 #[u, .bool true] w1 fun e w' => ∃ m, e = .returned (.tuple #[.iface 438 (.pointer (some ⟨m, 0, none⟩)), .nilIface]) ∧ w1.heap.size ≤ m ∧ CoAt w' w1.heap.size m parts gen ∧ Kept [] w1 w'
structure MdOkC (w : World) (x : Md) : Prop where
 shape : ∃ (ver g : Int) (ta oa da : Option Addr) (tn tc dn dc on oc : Nat) (ra : Option Addr), x.val = .agg #[.int .i16 ver, .slice ta tn tc, .slice da dn dc, .slice oa on oc, .int .i32 g, .pointer ra] ∧ CoIs w x.val x.parts x.gen
 gen : isI32 x.gen
def Rs.udC (m : Nat) (gen : Int) (v : Value) (N : Nat) (ps : List TP) : Res where
 foot := m :: v.ownBlock.toList
 holds := fun w => w.heap[m]? = some (.cells #[.int .i32 gen, v] 440 (0, 0)) ∧ w.ownsRow 0 384 2 v N (ps.flatMap encTp)
 stable := fun w w' S k hs h => ⟨k.heap h.1 (hs m (by simp)), own_kept h.2 k (fun g hg => hs g (by simp [hg]))⟩
def PreInC (w : World) (m : Nat) (gen : Int) (v : Value) (N : Nat) (ps : List TP) (name : ByteArray) (dn : List (TP × Int × ByteArray)) (r9 rc rv : Nat) (R : List Res) (i : Value) (wr : World) : Prop :=
 ∃ (k : Nat) (L : List Gm), i = .int .i64 k ∧ k ≤ N ∧ (L.map fun x => (x.1, x.2.2)).Perm (dn ++ (ps.take k).map fun p => (p, gen, name)) ∧
  St [] w wr [Rs.udC m gen v N ps, Rs.gms L, Rs.map r9 isTp (rawG L), Rs.map rv isTp [], Rs.map rc isStr []] R
theorem prep_co (rm : Nat) (Ms : List Md) (w : World) (how : Ow w [Rs.map rm isStr (rawMd Ms)]) (hok : ∀ x ∈ Ms, MdOkC w x) (hnd : (Ms.flatMap (·.parts)).Nodup) (hlen : (Ms.flatMap (·.parts)).length ≤ 100000) :
 Calls Tryz.prog 229 #[.map (some rm), .bool true] w (PrePost w Ms) := by
 have hst0 : St [] w w [] [Rs.map rm isStr (rawMd Ms)] := St.start0 how
 have hmt1 := coParts.m
 have hmt2 := coHas.m
 have hmt3 := coGen.m
 have HOK := Zhd (Zan hok (Zan hnd hlen)); clear hok hnd hlen how
 go_enter Tryz.func229, Tryz.ntmps229
 go_wp2_with (first
  | (refine wl_mkmap (V := isTp) rfl rfl hst2 ?_
     intro r9 w3 hst3 h9)
  | (refine wl_mkmap (V := isTp) rfl rfl hst1 ?_
     intro rv w2 hst2 hv)
  | (refine wl_mkmap (V := isStr) rfl rfl hst0 ?_
     intro rc w1 hst1 hc)
  | (refine wl_rngR 0 rfl rfl rfl Tryz.underlying74 hst3 rfl (by simp [Rs.map]) (hst3.r 0 rfl) ?_
     intro it w4 hst4 hit)
  | fail)
 simp only [Zs0] at hst4
 have hst5 := hst4.push (X := Rs.gms []) (Kept.refl _ _) ⟨by simp, by simp⟩ (by simp [Rs.gms])
 have hfit : w.heap.size ≤ it := by have := hst3.size; omega
 have HFIT := Zhd hfit; clear hfit hit h9 hv hc hst0 hst1 hst2 hst3 hst4
 have h10 : PreInv w rm it r9 rc rv Ms w4 := ⟨[], Ms, [], .refl _, by simp, hst5⟩
 have H10 := Zhd h10; clear h10 hst5
 try go_frame
 go_loopw [10] (fun _ wr => PreInv w rm it r9 rc rv Ms wr) (fun _ wr => leftOf wr it rm)
 case atStart => exact H10.out
 case round =>
  obtain ⟨Dn, Lf, L, hperm, hL, hst⟩ := hrel
  by_cases hlf : rawMd Lf = []
  · have h0 := rawMd_nil hlf
    subst h0
    have hit0 : IterAt wr it rm (rawMd Ms) [] := (hst.r 0 rfl).2.1
    have hst1 := (((hst.noR).front 3 rfl).mapRows 384 2)
    simp only [Ze0, Ze1] at hst1
    rw [List.append_nil] at hperm
    have hLM : (L.map fun x => (x.1, x.2.2)).Perm (Ms.flatMap fun x => x.parts.map fun p => (p, x.gen, x.name)) := hL.trans (hperm.flatMap_right _)
    have HLM := Zhd hLM; clear hLM hL hperm hst
    go_wp2_with (first
     | (refine wl_nx0 rfl rfl rfl hit0 ?_)
     | (refine wl_rng 2 rfl rfl rfl Tryz.underlying395 hst1 rfl (by simp [Rs.map]) (hst1.m 2 rfl) ?_
        intro it2 w5 hst2 hit2)
     | fail)
    simp only [Zs0, Zs1] at hst2
    have h20 : PreOut w r9 it2 rc rv L w5 := ⟨[], L, [], .refl _, by simp, by simp, hst2⟩
    have H20 := Zhd h20; clear h20 hst2 hst1 hit2 hit0
    try go_frame
    go_loopw [21] (fun _ wr => PreOut w r9 it2 rc rv L wr) (fun _ wr => leftOf wr it2 r9)
    case atStart => exact H20.out
    case round =>
     obtain ⟨Dg, Lg, A, hg, hA, hne, hst⟩ := hrel
     by_cases hlg : rawG Lg = []
     · obtain rfl : Lg = [] := by simpa [rawG] using hlg
       have hit3 : IterAt wr it2 r9 (rawG L) [] := (hst.m 2 rfl).2.1
       have hst5 := (hst.drop 2).drop 1
       simp only [Ze0, Ze1] at hst5
       rw [List.append_nil] at hg
       have hfp : (A.flatMap fun y => y.2.2.map fun p => (y.1, p)).Perm (Ms.flatMap fun x => x.parts.map fun p => (x.name, p)) := by
        refine (hA.trans (hg.map _)).trans ?_
        have h1 := HLM.out.map fun z : TP × Int × ByteArray => (z.2.2, z.1)
        simp only [List.map_map, List.map_flatMap] at h1
        exact h1
       have HF := Zhd (Zan hfp (Zan hne hst5)); clear hfp hne hst5 hA hg hst
       go_wp2_with (first | (refine wl_nx0 rfl rfl rfl hit3 ?_) | fail)
       go_ret3
       exact ⟨rc, rv, A, rfl, HF.out.1, HF.out.2.1, HF.out.2.2⟩
     · obtain ⟨wB, rfl⟩ : ∃ wB, wB = wr := ⟨_, rfl⟩
       have HL := Zhd (Zan hg (Zan hA hne)); clear hg hA hne
       go_wp2_with (first
        | (refine wl_nx1 2 (by simp [Rs.map]) rfl rfl rfl hst rfl hlg ?_
           intro k v l1 l2 w6 hsp hst2 hent
           simp only [Zs0, Zs1] at hst2
           obtain ⟨G1, x, G2, rfl, rfl, rfl, rfl, rfl⟩ := rawG_split hsp
           obtain ⟨p, b, gen, name⟩ := x
           have hxL : ((p, b, gen, name) : Gm) ∈ L := HL.out.1.mem_iff.1 (by simp)
           have hfb : b ∈ (Rs.gms L).foot := List.mem_map.2 ⟨_, hxL, rfl⟩
           have hmb := fun w' (h : (Rs.gms L).holds w') => h.1 _ hxL
           have HS := Zhd (Zan hsp (Zan hxL hmb)); clear hsp hxL hmb)
        | (refine wl_entry rfl rfl rfl hent ?_)
        | (refine wl_rng 2 rfl rfl rfl Tryz.underlying401 (hst2.blk _) rfl hfb (HS.out.2.2 _ ((hst2.blk _).m 2 rfl)) ?_
           intro it3 w7 hst3 hit3)
        | fail)
       simp only [Zs0, Zs1] at hst3
       generalize w6.heap.size = bx at hst3 ⊢
       have hst3b := (((hst3.front 4 rfl).front 4 rfl).front 4 rfl).front 4 rfl
       simp only [Ze0, Ze1] at hst3b
       have hst4 := hst3b.nilrow 3 1
       have h30 : PreG w rc A L b gen name hfb it3 [itG r9 L (rawG G1 ++ rawG G2) it2, Rs.map rv isTp [], Rs.blk bx (.cells #[.string p.1, .int .i32 p.2] 384 (0, 0))] (.slice none 0 0) w7 := ⟨[(.int .i64 gen, .string name)], 0, [], .inl ⟨rfl, rfl, rfl⟩, hst4⟩
       have H30 := Zhd h30; clear h30 hst4 hst3b hst3 hst2 hent hit3
       go_loopw [23] (fun v wr => PreG w rc A L b gen name hfb it3 [itG r9 L (rawG G1 ++ rawG G2) it2, Rs.map rv isTp [], Rs.blk bx (.cells #[.string p.1, .int .i32 p.2] 384 (0, 0))] v wr) (fun _ wr => leftOf wr it3 b)
       case atStart => exact H30.out
       case round =>
        obtain ⟨lf, n, xs, hcase, hst5⟩ := hrel
        clear H30
        rcases hcase with ⟨rfl, rfl, rfl⟩ | ⟨rfl, rfl, rfl⟩
        · obtain ⟨wC, rfl⟩ : ∃ wC, wC = wr := ⟨_, rfl⟩
          go_wp2_with (first
           | (refine wl_nx1 2 hfb rfl rfl rfl hst5 rfl (by simp) ?_
              intro kx vx l1 l2 w8 hsp2 hst6 hent2
              simp only [Zs0, Zs1] at hst6
              obtain ⟨rfl, rfl, he, _⟩ := single_split hsp2
              rw [Prod.mk.injEq] at he
              obtain ⟨rfl, rfl⟩ := he
              clear hsp2)
           | (refine wl_entry rfl rfl rfl hent2 ?_)
           | (refine wl_build1 (x := .int .i64 gen) rfl rfl rfl (build_int gen _) ?_)
           | (refine wl_push 0 rfl rfl elInt rfl rfl (hst6.alloc _) rfl ((new_int _ gen).src Tryz.underlying37) (by omega) (by omega) ?_
              intro v' w9 hst7
              simp only [Zs0, List.nil_append] at hst7)
           | fail)
          refine ⟨⟨[], 1, [.int .i64 gen], .inr ⟨rfl, rfl, rfl⟩, hst7⟩, ?_⟩
          have h1 : IterAt w9 it3 b _ [] := (hst7.m 2 rfl).2.1
          have h2 : IterAt wC it3 b _ _ := (hst5.m 2 rfl).2.1
          rw [h1.leftOf, h2.leftOf]
          simp
        · obtain ⟨gI, cI, rfl⟩ := own_some (hst5.m 0 rfl) (by omega)
          have hit5 : IterAt wr it3 b [(.int .i64 gen, .string name)] [] := (hst5.m 2 rfl).2.1
          have hst6 := hst5.weak 2 rfl (X' := Rs.gms L) (fun h => h.1) (fun g hg => List.mem_append_left [it3] hg)
          simp only [Zs0, Zs1] at hst6
          have cI1 := fun o => (own_cell (j := 0) (u := .int .i64 gen) ((hst6.alloc o).m 0 rfl) rfl).1
          have hmade := fun o => (hst6.alloc o).made 384 2 1 [.string p.1, .int .i32 p.2] rfl (by decide)
          have cbx := fun o => (hst6.alloc o).cell2 5 rfl
          have hgm := fun o => HS.out.2.2 _ ((hst6.alloc o).m 2 rfl)
          have hrev := rev_any (some ⟨gI, 0, none⟩) 1 cI wr
          have hsrt := sort_one wr.heap.size (some ⟨gI, 0, none⟩) cI (wr.alloc (.cells #[.iface 404 (.slice (some ⟨gI, 0, none⟩) 1 cI)] 443)) (by simp [go_sem])
          have HR := Zhd (Zan hrev hsrt); clear hrev hsrt
          by_cases hin : name ∈ A.map (·.1)
          · obtain ⟨⟨nm', v, ps⟩, hyA, rfl⟩ := List.mem_map.1 hin
            clear hin
            obtain ⟨A1, A2, rfl⟩ := List.append_of_mem hyA
            clear hyA
            have hin2 : (Value.string nm', v) ∈ rawR (rowsT (A1 ++ (nm', v, ps) :: A2)) := cur_in (x := (nm', v, ps)) (by simp)
            have hmap := fun o => (show RowsAt (wr.alloc o) isStr rc 384 2 (rowsT (A1 ++ (nm', v, ps) :: A2)) from (hst6.alloc o).m 1 rfl).map
            have hpsb : ps.length ≤ 100000 := by
             have h1 := HL.out.2.1.length_eq
             have h2 := HL.out.1.length_eq
             have h3 := HLM.out.length_eq
             have h4 := HOK.out.2.2
             simp only [List.length_flatMap, List.length_map, List.map_append, List.map_cons, List.sum_append, List.sum_cons, List.length_append] at h1 h2 h3 h4
             omega
            have e0 : rowsT (A1 ++ (nm', v, ps) :: A2) = rowsT A1 ++ (.string nm', v, ps.flatMap encTp) :: rowsT A2 := by simp [rowsT, rowT]
            unfold Rs.cur at hst6
            rw [e0] at hst6
            have hb1 : ∀ n, (ps.flatMap encTp).length = n * 2 → (4 * (n + 1) + 1024) * 24 ≤ 281474976710656 ∧ n + 1 ≤ 281474976710656 := fun n hn => by
             rw [encs_len] at hn; omega
            have HM := Zhd (Zan hin2 hb1); clear hin2 hb1 hpsb
            go_wp2_with (first
             | (refine wl_nx0 rfl rfl rfl hit5 ?_)
             | (go_at_call 236; refine HR.out.1.mono ?_; rintro e w9 ⟨rfl, rfl⟩)
             | (go_at_call 185; refine HR.out.2.mono ?_; rintro e w9 ⟨rfl, rfl⟩)
             | (refine wl_lk (kv := .int .i64 gen) (vv := .string nm') rfl rfl rfl rfl (keyT_int Tryz.underlying3) Tryz.underlying401 (hgm _) (by simp) ?_)
             | (refine wl_lk2 (kv := .string nm') (vv := v) rfl rfl rfl rfl (keyT_str Tryz.underlying9) Tryz.underlying378 (hmap _) HM.out.1 ?_)
             | (refine wl_lk (kv := .string nm') (vv := v) rfl rfl rfl rfl (keyT_str Tryz.underlying9) Tryz.underlying378 (hmap _) HM.out.1 ?_)
             | (refine wl_build1 (x := tpV p) rfl rfl rfl (build_tp p _) ?_
                have hst7 := (hst6.alloc (.cells #[.iface 404 (.slice (some ⟨gI, 0, none⟩) 1 cI)] 443)).alloc (.cells #[.string p.1, .int .i32 p.2] 384))
             | (refine wl_rowapp (E := 384) (sz := 2) (v := v) (kv := .string nm') 1 rfl rfl rfl rfl elTp rfl rfl (fun _ => rfl) (fun _ => rfl) (fun _ => rfl) (keyT_str Tryz.underlying9) Tryz.underlying378 hst7 rfl ((new_tp _ p).src Tryz.underlying375) HM.out.2 ?_
                intro nv w10 hst8
                simp only [Zs0, Zs1] at hst8)
             | fail)
            have hst9 := (hst8.drop 5).drop 0
            simp only [Ze0, Ze1, ← rawG_append] at hst9
            have e1 : rowsT A1 ++ (.string nm', nv, ps.flatMap encTp ++ [.string p.1, .int .i32 p.2]) :: rowsT A2 = rowsT (A1 ++ (nm', nv, ps ++ [p]) :: A2) := by simp [rowsT, rowT, encTp]
            rw [e1] at hst9
            have h1 : IterAt w10 it2 r9 (rawG L) (rawG (G1 ++ G2)) := (hst9.m 2 rfl).2.1
            have h2 : IterAt wB it2 r9 (rawG L) (rawG (G1 ++ (p, b, gen, nm') :: G2)) := (hst.m 2 rfl).2.1
            refine ⟨⟨Dg ++ [(p, b, gen, nm')], G1 ++ G2, A1 ++ (nm', nv, ps ++ [p]) :: A2, perm_step HL.out.1, ?_, ?_, hst9⟩, ?_⟩
            · have h3 := HL.out.2.1.append_right [(nm', p)]
              rw [List.map_append]
              refine List.Perm.trans ?_ h3
              simp only [List.flatMap_append, List.flatMap_cons, List.map_append, List.map_cons, List.map_nil, List.append_assoc]
              refine List.Perm.append_left _ (List.Perm.append_left _ ?_)
              exact List.perm_append_comm
            · intro y hy
              rcases Zap.1 hy with hy | hy
              · exact HL.out.2.2 y (by simp [hy])
              · rcases Zmc.1 hy with rfl | hy
                · simp
                · exact HL.out.2.2 y (by simp [hy])
            · rw [h1.leftOf, h2.leftOf]; simp [rawG]
          · have hmiss : ∀ u, (Value.string name, u) ∉ rawR (rowsT A) := fun u hu => by
             obtain ⟨y, hy, e⟩ := List.mem_map.1 hu
             obtain ⟨z, hz, rfl⟩ := List.mem_map.1 hy
             rw [Prod.mk.injEq] at e
             simp only [rowT, Value.string.injEq] at e
             exact hin (e.1 ▸ List.mem_map_of_mem hz)
            have hnk : Value.string name ∉ (rowsT A).map (·.1) := fun hu => by
             obtain ⟨y, hy, e⟩ := List.mem_map.1 hu
             obtain ⟨z, hz, rfl⟩ := List.mem_map.1 hy
             simp only [rowT, Value.string.injEq] at e
             exact hin (e ▸ List.mem_map_of_mem hz)
            have HM := Zhd (Zan hmiss hnk); clear hmiss hnk hin
            go_wp2_with (first
             | (refine wl_nx0 rfl rfl rfl hit5 ?_)
             | (go_at_call 236; refine HR.out.1.mono ?_; rintro e w9 ⟨rfl, rfl⟩)
             | (go_at_call 185; refine HR.out.2.mono ?_; rintro e w9 ⟨rfl, rfl⟩)
             | (refine wl_lk (kv := .int .i64 gen) (vv := .string name) rfl rfl rfl rfl (keyT_int Tryz.underlying3) Tryz.underlying401 (hgm _) (by simp) ?_)
             | (refine wl_lkN2 (kv := .string name) (vv := .slice none 0 0) rfl rfl rfl rfl (keyT_str Tryz.underlying9) Tryz.underlying378 (show RowsAt _ isStr rc 384 2 (rowsT A) from (hst6.alloc _).m 1 rfl).map ⟨_, rfl⟩ HM.out.1 (Tryz.zeroValue375 _) ?_)
             | (refine wl_build1 (x := tpV p) rfl rfl rfl (build_tp p _) ?_
                have hst7 := hmade (.cells #[.iface 404 (.slice (some ⟨gI, 0, none⟩) 1 cI)] 443))
             | (refine wl_rownew (E := 384) (sz := 2) (n := 1) (kv := .string name) (v := .slice (some ⟨(wr.alloc (.cells #[.iface 404 (.slice (some ⟨gI, 0, none⟩) 1 cI)] 443)).heap.size, 0, none⟩) 1 1) 1 rfl rfl rfl rfl rfl (keyT_str Tryz.underlying9) Tryz.underlying378 ⟨_, rfl⟩ hst7 rfl HM.out.2 ?_
                intro w10 hst8
                simp only [Zs0, Zs1] at hst8)
             | fail)
            have hst9 := (hst8.drop 5).drop 0
            simp only [Ze0, Ze1, ← rawG_append] at hst9
            generalize (Value.slice (some ⟨(wr.alloc (.cells #[.iface 404 (.slice (some ⟨gI, 0, none⟩) 1 cI)] 443)).heap.size, 0, none⟩) 1 1) = nv at hst9
            have e1 : rowsT A ++ [(.string name, nv, [.string p.1, .int .i32 p.2])] = rowsT (A ++ [(name, nv, [p])]) := by simp [rowsT, rowT, encTp]
            rw [e1] at hst9
            have h1 : IterAt w10 it2 r9 (rawG L) (rawG (G1 ++ G2)) := (hst9.m 2 rfl).2.1
            have h2 : IterAt wB it2 r9 (rawG L) (rawG (G1 ++ (p, b, gen, name) :: G2)) := (hst.m 2 rfl).2.1
            refine ⟨⟨Dg ++ [(p, b, gen, name)], G1 ++ G2, A ++ [(name, nv, [p])], perm_step HL.out.1, ?_, ?_, hst9⟩, ?_⟩
            · rw [List.flatMap_append, List.map_append]
              exact HL.out.2.1.append_right _
            · intro y hy
              rcases Zap.1 hy with hy | hy
              · exact HL.out.2.2 y hy
              · simp only [Zmc, Znn, or_false] at hy
                subst hy; simp
            · rw [h1.leftOf, h2.leftOf]; simp [rawG]
  · obtain ⟨wB, rfl⟩ : ∃ wB, wB = wr := ⟨_, rfl⟩
    have HL := Zhd (Zan hperm hL); clear hperm hL
    go_wp2_with (first
     | (refine wl_nx1R 0 (by simp [Rs.map]) rfl rfl rfl hst rfl hlf HFIT.out ?_
        intro k v l1 l2 w5 hsp hst2 hent
        simp only [Zs0] at hst2
        obtain ⟨L1, x, L2, rfl, rfl, rfl, rfl, rfl⟩ := rawMd_split hsp
        have hxM : x ∈ Ms := HL.out.1.mem_iff.1 (by simp)
        obtain ⟨⟨ver, gg, ta, oa, da, tn, tc, dn, dc, on, oc, ra, hval, hud⟩, hgen⟩ := HOK.out.1 x hxM
        rw [hval] at hent
        rw [hval] at hud
        have hud2 := hud
        have HS := Zhd (Zan hsp (Zan hxM (Zan hud2 (Zan hgen hval)))); clear hsp hxM hud hud2 hgen hval)
     | (refine wl_entry rfl rfl rfl hent ?_)
     | (go_at_call 235
        refine (HS.out.2.2.1 _ (hst2.alloc _).kept).mono ?_
        rintro e w6 ⟨m, rfl, hm, ⟨pv, N, ps, q1, q2, q3, q4, q5⟩, hk6⟩
        have hst3 := (hst2.alloc _).push (X := Rs.udC m x.gen pv N ps) hk6 ⟨q1, q4⟩ (fun g hg => by
         simp only [Rs.udC, Zmc] at hg
         rcases hg with rfl | hg
         · exact ⟨hm, lt_of_heap q1⟩
         · exact q5 g (by simpa using hg))
        obtain ⟨pa, pn, pc, rfl⟩ := own_form q4
        obtain rfl := own_len q4
        have HU := Zhd (Zan q2 q3); clear hm q1 q2 q3 q4 q5 hk6)
     | (go_at_call 423
        refine (co_parts m _ x.gen _ (hst3.m 0 rfl).1 ⟨_, _, _, rfl⟩).mono ?_
        rintro e w7 ⟨rfl, rfl⟩)
     | fail)
    have hps := HU.out.2
    have h20 : PreInC w m x.gen (.slice pa pn pc) pn ps x.name (Dn.flatMap fun x => x.parts.map fun p => (p, x.gen, x.name)) r9 rc rv [itMd rm Ms (rawMd L1 ++ rawMd L2) it] (.int .i64 0) w7 := ⟨0, L, rfl, Nat.zero_le _, by simpa using HL.out.2, hst3⟩
    have H20 := Zhd h20; clear h20 hst3 hst2 hent
    go_loopw [50] (fun i wr => PreInC w m x.gen (.slice pa pn pc) pn ps x.name (Dn.flatMap fun x => x.parts.map fun p => (p, x.gen, x.name)) r9 rc rv [itMd rm Ms (rawMd L1 ++ rawMd L2) it] i wr) (fun i _ => pn - (intOf i).toNat)
    case atStart => exact H20.out
    case round =>
     obtain ⟨k, L', rfl, hk, hL', hst4⟩ := hrel
     clear H20
     by_cases hkn : k < pn
     · obtain ⟨q, hq⟩ : ∃ q, ps[k]? = some q := ⟨_, List.getElem?_eq_getElem (by rw [HU.out.1]; exact hkn)⟩
       obtain ⟨g0, c0, ev⟩ := own_some (hst4.m 0 rfl).2 (by omega)
       cases ev
       obtain ⟨g1, g2⟩ := tp_get hq
       have c1 := (own_cell (hst4.m 0 rfl).2 g1).1
       have c2 := (own_cell (hst4.m 0 rfl).2 g2).1
       have hmi := rawG_miss (pre_miss HOK.out.2.1 HL.out.1 hps hq hL')
       have hki : (k : Int) < (pn : Int) := by omega
       have hpb : pn ≤ 100000 := by
        have h1 := HU.out.1
        have h2 := hps.length_eq
        have h3 := HOK.out.2.2
        have h4 : x.parts.length ≤ (Ms.flatMap (·.parts)).length := by
         obtain ⟨A1, A2, rfl⟩ := List.append_of_mem HS.out.2.1
         simp only [List.flatMap_append, List.flatMap_cons, List.length_append]; omega
        omega
       have HN := Zhd (Zan hmi (Zan hL' hq)); clear hmi hL' hq g1 g2
       go_wp2_with (first
        | (refine wl_lkN2 (kv := tpV q) (vv := .map none) rfl rfl rfl rfl keyT_tp Tryz.underlying395 (show MapAt _ isTp r9 _ from (hst4.alloc _).m 2 rfl) ⟨_, _, rfl⟩ HN.out.1 (Tryz.zeroValue401 _) ?_)
        | (go_at_call 422
           refine (co_has _ _).mono ?_
           rintro e w8 ⟨rfl, rfl⟩)
        | (go_at_call 421
           refine (co_gen m _ x.gen HS.out.2.2.2.1 _ ((hst4.alloc _).m 0 rfl).1).mono ?_
           rintro e w9 ⟨rfl, rfl⟩)
        | (refine wl_mkmap (V := isInt .i64) rfl rfl (hst4.alloc _) ?_
           intro rg w10 hst5 hrg)
        | (refine wl_ins 0 rfl rfl rfl rfl rfl (keyT_int Tryz.underlying3) Tryz.underlying401 hst5 rfl ⟨_, rfl⟩ ?_
           intro w11 hst6
           simp only [Zs0] at hst6
           rw [putE_miss (by simp), List.nil_append] at hst6)
        | (refine wl_upd (kv := tpV q) (vv := .map (some rg)) 3 rfl rfl rfl rfl rfl keyT_tp Tryz.underlying395 hst6 rfl ⟨_, _, rfl⟩ ?_
           intro w12 hst7
           simp only [Zs0, Zs1] at hst7
           rw [putE_miss HN.out.1] at hst7)
        | fail)
       have hst8 := (hst7.front 2 rfl).front 1 rfl
       simp only [Ze0, Ze1] at hst8
       have hst9 := (St.addG (x := (q, rg, x.gen, x.name)) hst8).front 1 rfl
       simp only [Ze0, Ze1] at hst9
       have e9 : rawG L' ++ [(tpV q, .map (some rg))] = rawG (L' ++ [(q, rg, x.gen, x.name)]) := rawG_snoc L' (q, rg, x.gen, x.name)
       rw [e9] at hst9
       refine ⟨⟨k + 1, L' ++ [(q, rg, x.gen, x.name)], by go_num, by omega, ?_, hst9⟩, by simp [intOf]; omega⟩
       obtain ⟨hk1, e1⟩ := List.getElem?_eq_some_iff.1 HN.out.2.2
       rw [List.take_succ_eq_append_getElem hk1, e1, List.map_append, List.map_append, ← List.append_assoc]
       exact HN.out.2.1.append (.refl _)
     · obtain rfl : k = pn := by omega
       rw [List.take_of_length_le (by rw [HU.out.1]; exact Nat.le_refl _)] at hL'
       have hst5 := hst4.drop 0
       simp only [Ze0] at hst5
       have e : rawMd L1 ++ rawMd L2 = rawMd (L1 ++ L2) := by rw [rawMd_append]
       simp only [e] at hst5
       have hfin : PreInv w rm it r9 rc rv Ms wr := ⟨Dn ++ [x], L1 ++ L2, L', by
        refine List.Perm.trans ?_ HL.out.1
        rw [List.append_assoc]
        exact List.Perm.append_left _ (by simpa using (List.perm_middle (l₁ := L1) (l₂ := L2) (a := x)).symm), by
        refine hL'.trans ?_
        rw [List.flatMap_append]
        refine List.Perm.append_left _ ?_
        simp only [List.flatMap_cons, List.flatMap_nil, List.append_nil]
        exact hps.map _, hst5⟩
       have hle : leftOf wr it rm < leftOf wB it rm := by
        have h1 : IterAt wr it rm (rawMd Ms) (rawMd (L1 ++ L2)) := (hst5.r 0 rfl).2.1
        have h2 : IterAt wB it rm (rawMd Ms) _ := (hst.r 0 rfl).2.1
        rw [h1.leftOf, h2.leftOf, HS.out.1, ← e]
        simp
       have HF := Zhd (Zan hfin hle); clear hfin hle hst5 hst4
       go_wp2_with fail
       exact HF.out
end
end Go.Proofs.YticcnlpfmekagaaGreat
