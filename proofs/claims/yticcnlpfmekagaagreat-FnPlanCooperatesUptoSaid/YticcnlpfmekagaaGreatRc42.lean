/- Part 42 of the proof of the row: PlanC. -/
import Derived.Test.YticcnlpfmekagaaGreatRc00
import Derived.Test.YticcnlpfmekagaaGreatRc41
set_option linter.unusedVariables false
set_option linter.unusedSimpArgs false
set_option maxRecDepth 100000
set_option maxHeartbeats 8000000
namespace Go.Proofs.YticcnlpfmekagaaGreat
section
open Go Go.Proofs Go.RowKit Go.Lib
open Classical
theorem plan_coop (sp rm rt : Nat) (Xs : List Md) (D : Tops) (w : World) (how : Ow w ([Rs.blk sp (stratO 3)] ++ [Rs.map rm isStr (rawMd Xs), Rs.tops rt D])) (hin : PlInC Xs D) (hmd : ∀ x ∈ Xs, MdTopC sp w D x) :
 Calls Tryz.prog 228 #[.pointer (some ⟨sp, 0, none⟩), .map (some rm), .map (some rt)] w (PlanPostC sp w Xs D) := by
 have hst0 : St [sp] w w [Rs.blk sp (stratO 3)] [Rs.map rm isStr (rawMd Xs), Rs.tops rt D] := by
  have := St.start how
  simpa [foots, Rs.blk] using this
 have hb0 : ∀ o o', ((w.alloc o).alloc o').heap[sp]? = some (.cells #[.map none, .map none, .bool true, .int .i32 (-1)] 181 (0, 0)) := fun o o' => ((hst0.alloc o).alloc o').m 0 rfl
 have hc0 := fun o o' => (cells_of (hb0 o o')).1 0 _ rfl
 have hc1 := fun o o' => (cells_of (hb0 o o')).1 1 _ rfl
 have hf0 := fun o o' => (cells_of (hb0 o o')).2
 have hmk := @run_makeMap Tryz.prog
 have hnX : (Xs.map (·.name)).Nodup := rawMd_names (hst0.r 0 rfl)
 have hspw : sp < w.heap.size := lt_of_heap (hst0.m 0 rfl : w.heap[sp]? = some (stratO 3))
 have HIN := Zhd (Zan hin (Zan hmd (Zan hnX hspw))); clear hin hmd how hb0 hnX hspw
 go_enter Tryz.func228, Tryz.ntmps228
 go_upto_region 2 with fail
 have hst1 := (((hst0.newmap isTp).newmap isStr).blkSet 2 rfl 0 (.map (some (w.heap.size + 1)))).blkSet 2 rfl 1 (.map (some w.heap.size))
 simp only [Zs0, Zs1, World.size_alloc] at hst1
 generalize (((w.alloc (.map #[] 0)).alloc (.map #[] 0)).setCell ⟨sp, 0, none⟩ (.map (some (w.heap.size + 1)))).setCell ⟨sp, 1, none⟩ (.map (some w.heap.size)) = w1 at hst1 ⊢
 obtain ⟨MV, hMV⟩ : ∃ MV, MV = movM sp (w.heap.size + 1) w.heap.size true [] [] [] [] := ⟨_, rfl⟩
 have hst2 : St [sp] w w1 MV [Rs.map rm isStr (rawMd Xs), Rs.tops rt D] := by rw [hMV]; exact movM_newC hst1
 have hsp : w1.heap[sp]? = some (.cells #[.map (some (w.heap.size + 1)), .map (some w.heap.size), .bool true, .int .i32 (-1)] 181 (0, 0)) := hst1.m 2 rfl
 obtain ⟨rb, hrb⟩ : ∃ rb, rb = w.heap.size + 1 := ⟨_, rfl⟩
 obtain ⟨rs, hrs⟩ : ∃ rs, rs = w.heap.size := ⟨_, rfl⟩
 rw [← hrb, ← hrs] at hMV hsp
 have HMV := Zhd hMV
 clear hmk hc0 hc1 hf0 hst0 hst1 hMV hrb hrs
 have hs2 := (cells_of hsp).1 2 _ rfl
 simp only [List.getElem_toArray, List.getElem_cons_succ, List.getElem_cons_zero] at hs2
 have hpre := prep_co rm Xs w1 (hst2.ow.right.sub (by simp)) (fun x hx => (HIN.out.2.1 x hx).ok hst2.kept) HIN.out.1.nd (by have h1 := HIN.out.1.plen; have h2 := HIN.out.1.t1; omega)
 have HPRE := Zhd hpre; clear hpre hsp
 go_upto_region 6 with (first
  | (go_at_call 229
     refine HPRE.out.mono ?_
     rintro e w2 ⟨rc, rv, A, rfl, hAp, hAne, hst3⟩
     have hst4 : St [sp] w w2 (Rs.cur rc A :: Rs.map rv isTp [] :: MV) [Rs.map rm isStr (rawMd Xs), Rs.tops rt D] := St.call (M1 := []) hst2 hst3
     have hcm : MapAt w2 isStr rc (rawR (rowsT A)) := (show RowsAt w2 isStr rc 384 2 (rowsT A) from hst4.m 0 rfl).map
     have HA := Zhd (Zan hAp hAne); clear hAp hAne hst3 hst2)
  | (refine wl_len rfl rfl rfl Tryz.underlying378 hcm ?_)
  | fail)
 clear hcm hs2
 generalize (((rawR (rowsT A)).length : Int) == 0) = fr
 go_wp2_with (first
  | (refine wl_mkmap (V := isTp) rfl rfl hst4 ?_
     intro rk w3 hst5 hrk)
  | (refine wl_rngR 1 rfl rfl rfl Tryz.underlying90 hst5 rfl (tops_foot rt D) (show TopsAt _ rt D from hst5.r 1 rfl).map ?_
     intro it w4 hst6 hit)
  | fail)
 simp only [Zs0, Zs1] at hst6
 have hst7 := hst6.mapRows 9 1
 have hfit : w.heap.size ≤ it := by have := hst5.size; omega
 have HFIT := Zhd hfit; clear hfit hit hrk hst4 hst5 hst6
 have h10 : PA1 sp w rk it rt D (Rs.cur rc A :: Rs.map rv isTp [] :: MV) (Rs.map rm isStr (rawMd Xs)) w4 := ⟨[], D, [], .refl _, .refl _, by simp, hst7⟩
 have H10 := Zhd h10; clear h10 hst7
 try go_frame
 go_loopw [13] (fun _ wr => PA1 sp w rk it rt D (Rs.cur rc A :: Rs.map rv isTp [] :: MV) (Rs.map rm isStr (rawMd Xs)) wr) (fun _ wr => leftOf wr it rt)
 case atStart => exact H10.out
 case round =>
  obtain ⟨Dn, Lf, B, hperm, hB, hBe, hst⟩ := hrel
  by_cases hlf : rawT Lf = []
  · have h0 := rawT_nil hlf
    subst h0
    have hit0 : IterAt wr it rt (rawT D) [] := (hst.r 1 rfl).2.1
    have hstt := hst.weakR 1 rfl (X' := Rs.tops rt D) (fun h => h.1) (fun g hg => List.mem_append_left [it] hg)
    simp only [Zs0, Zs1] at hstt
    rw [List.append_nil] at hperm
    have hBT : (B.map (·.1)).Perm (topTps D) := hB.trans (topTps_perm hperm)
    have HB := Zhd (Zan hBT hBe); clear hBT hBe hB hperm hst H10
    have hcm : MapAt wr isStr rm (rawMd Xs) := hstt.r 0 rfl
    go_wp2_with (first
     | (refine wl_nx0 rfl rfl rfl hit0 ?_)
     | (refine wl_len rfl rfl rfl Tryz.underlying74 hcm ?_)
     | (refine wl_mkmapN (V := isStr) rfl rfl rfl Tryz.underlying378 hstt ?_
        intro rp w3 hst5 hrp)
     | (refine wl_rngR 0 rfl rfl rfl Tryz.underlying74 hst5 rfl (by simp [Rs.map]) (hst5.r 0 rfl) ?_
        intro it2 w4 hst6 hit2)
     | fail)
    simp only [Zs0, Zs1] at hst6
    have hst7 := hst6.mapRows 384 2
    have hfit2 : w.heap.size ≤ it2 := by have := hst5.size; omega
    have HFIT2 := Zhd hfit2; clear hfit2 hit2 hrp hstt hst5 hst6 hit0 hcm
    have h20 : PB1J MV sp w rm rt rk rp rc rv it2 Xs D (B.map (·.1)) A w4 := ⟨[], Xs, [], B, [], .refl _, rfl, by simp, rfl, HB.out.2, by simp, by simp, by rw [List.append_nil]; exact hst7⟩
    have H20 := Zhd h20; clear h20 hst7
    generalize hK : B.map (·.1) = K at *
    have HK := Zhd (show K.Perm (topTps D) from HB.out.1); clear hK HB
    try go_frame
    go_loopw [18] (fun _ wr => PB1J MV sp w rm rt rk rp rc rv it2 Xs D K A wr) (fun _ wr => leftOf wr it2 rm)
    case atStart => exact H20.out
    case round =>
     obtain ⟨Dn, Lf, Pp, B, E, hperm, hPk, hPt, hBk, hBn, hE, hEA, hst⟩ := hrel
     clear H20
     by_cases hlf : rawMd Lf = []
     · obtain rfl := rawMd_nil hlf
       have hit2 : IterAt wr it2 rm (rawMd Xs) [] := (hst.r 0 rfl).2.1
       have hstt := hst.weakR 0 rfl (X' := Rs.map rm isStr (rawMd Xs)) (fun h => h.1) (fun g hg => List.mem_append_left [it2] hg)
       simp only [Zs0] at hstt
       rw [List.append_nil] at hperm
       have hA1 : ((A ++ E).map (·.1)).Nodup := cur_keys (show RowsAt wr isStr rc 384 2 (rowsT (A ++ E)) from hstt.m 2 rfl)
       have hpre := pre_ok HIN.out.2.2.1 hA1 HA.out.1 HA.out.2 hperm hE hEA
       have hPp : (Pp.map (·.1)).Perm (Xs.map (·.name)) := by rw [hPk]; exact hperm.map _
       have hBf : ∀ y ∈ B, y.2.2.Perm (Xs.map (·.name)) := fun y hy => by rw [hBn y hy]; exact hperm.map _
       generalize A ++ E = A1 at *
       have HB := Zhd (Zan hpre (Zan hPp (Zan hPt (Zan hBk (Zan hBf hA1))))); clear hpre hPp hPt hBk hBf hperm hPk hBn hE hEA hst hA1
       have hc1 : MapAt wr isStr rc (rawR (rowsT A1)) := (show RowsAt wr isStr rc 384 2 (rowsT A1) from hstt.m 2 rfl).map
       go_wp2_with (first
        | (refine wl_nx0 rfl rfl rfl hit2 ?_)
        | (refine wl_len rfl rfl rfl Tryz.underlying378 hc1 ?_)
        | (refine wl_mkmapN (V := isTp) rfl rfl rfl Tryz.underlying387 hstt ?_
           intro rq w3 hst5 hrq
           have hk1 : MapAt w3 isTp rk (rawR (rowsS B)) := (show RowsAt w3 isTp rk 9 1 (rowsS B) from hst5.m 2 rfl).map)
        | (refine wl_len rfl rfl rfl Tryz.underlying382 hk1 ?_)
        | (refine wl_mkmapN (V := isTp) rfl rfl rfl Tryz.underlying388 hst5 ?_
           intro ru w4 hst6 hru
           have hk2 : MapAt w4 isTp rk (rawR (rowsS B)) := (show RowsAt w4 isTp rk 9 1 (rowsS B) from hst6.m 3 rfl).map)
        | (refine wl_rng 3 rfl rfl rfl Tryz.underlying382 hst6 rfl (cur_footS rk B) hk2 ?_
           intro it3 w5 hst7 hit3)
        | fail)
       simp only [Zs0, Zs1] at hst7
       have hst8 := (hst7.front 3 rfl).front 1 rfl
       simp only [Ze0, Ze1] at hst8
       clear hst7 hst6 hst5 hstt hc1 hk1 hk2 hrq hru hit3 hit2 HFIT2
       have h30 : PC1 sp w rk it3 ru B (Rs.map rq isTp [] :: Rs.cur rp Pp :: Rs.cur rc A1 :: Rs.map rv isTp [] :: MV) [Rs.map rm isStr (rawMd Xs), Rs.tops rt D] w5 := ⟨[], B, .refl _, hst8⟩
       have H30 := Zhd h30; clear h30 hst8
       try go_frame
       go_loopw [31] (fun _ wr => PC1 sp w rk it3 ru B (Rs.map rq isTp [] :: Rs.cur rp Pp :: Rs.cur rc A1 :: Rs.map rv isTp [] :: MV) [Rs.map rm isStr (rawMd Xs), Rs.tops rt D] wr) (fun _ wr => leftOf wr it3 rk)
       case atStart => exact H30.out
       case round =>
        obtain ⟨Dn, Lf, hperm, hst⟩ := hrel
        clear H30
        by_cases hlf3 : rawR (rowsS Lf) = []
        · obtain rfl := rawS_nil hlf3
          have hit3 : IterAt wr it3 rk (rawR (rowsS B)) [] := (hst.m 1 rfl).2.1
          have hst1 := hst.weak 1 rfl (X' := Rs.p2c rk B) (fun h => h.1) (fun g hg => List.mem_append_left [it3] hg)
          simp only [Zs0, Zs1] at hst1
          rw [List.append_nil] at hperm
          have hUn : (Dn.map (·.1)).Perm K := by rw [← HB.out.2.2.2.1]; exact hperm.map _
          generalize Dn.map (·.1) = Un0 at *
          have HU := Zhd hUn; clear hUn hperm hst
          have hc1 : MapAt wr isStr rc (rawR (rowsT A1)) := (show RowsAt wr isStr rc 384 2 (rowsT A1) from hst1.m 4 rfl).map
          go_wp2_with (first
           | (refine wl_nx0 rfl rfl rfl hit3 ?_)
           | (refine wl_rng 4 rfl rfl rfl Tryz.underlying378 hst1 rfl (cur_foot rc A1) hc1 ?_
              intro it4 w5 hst2 hit4)
           | fail)
          simp only [Zs0, Zs1] at hst2
          have hst3 := ((hst2.front 4 rfl).front 3 rfl).front 2 rfl
          simp only [Ze0, Ze1] at hst3
          clear hst2 hst1 hc1 hit3 hit4
          have hAn : (A1.flatMap (·.2.2)).Nodup := HB.out.1.tot.nodup_iff.2 HIN.out.1.nd
          have hAK : ∀ p ∈ A1.flatMap (·.2.2), p ∈ K := fun p hp => by
           obtain ⟨x, hx, hp⟩ := List.mem_flatMap.1 (HB.out.1.tot.mem_iff.1 hp)
           exact HK.out.mem_iff.2 (HIN.out.1.sub x hx p hp)
          have hKn : K.Nodup := HK.out.nodup_iff.2 HIN.out.1.tn
          have hAb : ∀ x ∈ A1, x.2.2.length ≤ 1000 := fun x hx => by
           have h1 := sub_len hAn hAK
           have h2 := HK.out.length_eq
           have h3 := HIN.out.1.t1
           obtain ⟨C1, C2, rfl⟩ := List.append_of_mem hx
           simp only [List.flatMap_append, List.flatMap_cons, List.length_append] at h1
           omega
          have HA1 := Zhd (Zan hAn (Zan hAK (Zan hKn hAb))); clear hAn hAK hKn hAb
          have h40 : PD1J sp w rc it4 ru rq A1 K (Rs.p2c rk B :: Rs.cur rp Pp :: Rs.map rv isTp [] :: MV) [Rs.map rm isStr (rawMd Xs), Rs.tops rt D] (.slice none 0 0) w5 :=
           ⟨rfl, [], A1, A1, [], Un0, .refl _, rfl, fun _ h => h, fun _ h => .inl h, by simpa using HU.out, (fun x hx => by cases hx), hst3⟩
          have H40 := Zhd h40; clear h40 hst3
          try go_frame
          go_loopw [32] (fun v wr => PD1J sp w rc it4 ru rq A1 K (Rs.p2c rk B :: Rs.cur rp Pp :: Rs.map rv isTp [] :: MV) [Rs.map rm isStr (rawMd Xs), Rs.tops rt D] v wr) (fun _ wr => leftOf wr it4 rc)
          case atStart => exact H40.out
          case round =>
           obtain ⟨rfl, Dn, Lf, A2, lq, Un, hperm, hasg, hLA, hnil, hUn, hLq, hst⟩ := hrel
           clear H40
           by_cases hlf4 : rawR (rowsT Lf) = []
           · obtain rfl := rawR_nil hlf4
             have hit4 : IterAt wr it4 rc (rawR (rowsT A2)) [] := (hst.m 2 rfl).2.1
             have hst1 := hst.weak 2 rfl (X' := Rs.cur rc A2) (fun h => h.1) (fun g hg => List.mem_append_left [it4] hg)
             simp only [Zs0, Zs1] at hst1
             rw [List.append_nil] at hperm
             have hN : Nils A2 := fun x hx h => by
              rcases hnil x hx with h1 | h1
              · cases h1
              · exact h1 h
             have hUK : (Un ++ A1.flatMap (·.2.2)).Perm K := (List.Perm.append_left _ (hperm.flatMap_right (·.2.2)).symm).trans hUn
             have e1 : A2.map (·.1) = A1.map (·.1) := by rw [← asgT_keys, hasg, asgT_keys]
             have e2 : A2.flatMap (·.2.2) = A1.flatMap (·.2.2) := by rw [← asgT_flat, hasg, asgT_flat]
             have e3 : A2.map (·.2.2.length) = A1.map (·.2.2.length) := by rw [← asgT_loads, hasg, asgT_loads]
             have hrow2 : ∀ x ∈ Xs, ∀ ps, (x.name, ps) ∈ asgT A2 → ps.Perm x.parts := fun x hx ps h => by
              rw [hasg] at h
              obtain ⟨v, hv⟩ := asgT_mem.1 h
              exact HB.out.1.row x hx v ps hv
             have hab : ∀ x ∈ A2, x.2.2.length ≤ 1000 := fun x hx => by
              have h1 : x.2.2.length ∈ A2.map (·.2.2.length) := List.mem_map_of_mem hx
              rw [e3] at h1
              obtain ⟨y, hy, h2⟩ := List.mem_map.1 h1
              rw [← h2]; exact HA1.out.2.2.2 y hy
             have hnear2 : LqOk A2 lq := hLq.fin hperm hasg
             have hkp2 : (A2.map (·.1)).Perm (Xs.map (·.name)) := by rw [e1]; exact HB.out.1.keys
             have hfl2 : (A2.flatMap (·.2.2)).Nodup ∧ ∀ p ∈ A2.flatMap (·.2.2), p ∈ K := by rw [e2]; exact ⟨HA1.out.1, HA1.out.2.1⟩
             rw [← e2] at hUK
             have H2 := Zhd (Zan hN (Zan hUK (Zan hrow2 (Zan hab (Zan hnear2 (Zan hkp2 hfl2)))))); clear hN hUK hrow2 hab hnear2 hkp2 hfl2 hLq hasg hLA hnil hUn hperm e1 e2 e3 hst
             go_wp2_with (first
              | (refine wl_nx0 rfl rfl rfl hit4 ?_)
              | (refine wl_rng 0 rfl rfl rfl Tryz.underlying388 hst1 rfl (by simp [Rs.map]) (hst1.m 0 rfl) ?_
                 intro it5 w5 hst2 hit5)
              | fail)
             simp only [Zs0, Zs1] at hst2
             have hst3 := hst2.nilrow 384 2
             have h50 : PE1 sp w ru it5 Un (Rs.map rq isTp lq :: Rs.cur rc A2 :: Rs.p2c rk B :: Rs.cur rp Pp :: Rs.map rv isTp [] :: MV) [Rs.map rm isStr (rawMd Xs), Rs.tops rt D] (.slice none 0 0) w5 := ⟨0, [], Un, rfl, .refl _, hst3⟩
             have H50 := Zhd h50; clear h50 hst3 hst2 hst1 hit4 hit5
             try go_frame
             go_loopw [32] (fun v wr => PE1 sp w ru it5 Un (Rs.map rq isTp lq :: Rs.cur rc A2 :: Rs.p2c rk B :: Rs.cur rp Pp :: Rs.map rv isTp [] :: MV) [Rs.map rm isStr (rawMd Xs), Rs.tops rt D] v wr) (fun _ wr => leftOf wr it5 ru)
             case atStart => exact H50.out
             case round =>
              obtain ⟨na, acc, Lf, hna, hacc, hst⟩ := hrel
              clear H50
              have hlen : na + Lf.length ≤ 1000 := by
               have h1 := hacc.length_eq
               have h2 := H2.out.2.1.length_eq
               have h3 := HK.out.length_eq
               have h4 := HIN.out.1.t1
               simp only [List.length_append] at h1 h2
               omega
              by_cases hlf5 : UnT Lf = []
              · obtain rfl : Lf = [] := by simpa [UnT] using hlf5
                have hit5 : IterAt wr it5 ru (UnT Un) [] := (hst.m 1 rfl).2.1
                have hst1 := hst.drop 1
                simp only [Ze0, Ze1] at hst1
                rw [List.append_nil] at hacc
                have hst2 := (((hst1.front 4 rfl).front 5 rfl).front 4 rfl).front 5 rfl
                simp only [Ze0, Ze1] at hst2
                clear hst1 hst
                obtain ⟨np, hnp⟩ : ∃ np, (topTps D).length = np := ⟨_, rfl⟩
                obtain ⟨N, hBN⟩ : ∃ N, B.length = N := ⟨_, rfl⟩
                obtain ⟨n, hnl⟩ : ∃ n, A2.length = n := ⟨_, rfl⟩
                have hnX : n = Xs.length := by have := H2.out.2.2.2.2.2.1.length_eq; simp only [List.length_map] at this; omega
                have hBK : B.length = K.length := by rw [← HB.out.2.2.2.1, List.length_map]
                have hKl := HK.out.length_eq
                have hid : IdOk n B (Xs.map (·.name)) := ⟨HB.out.2.2.2.2.1, HIN.out.2.2.1, by rw [List.length_map, hnX], by have := HIN.out.1.n1; omega, by have := HIN.out.1.n2; omega⟩
                have hsok : SrtOk n np N A2 B Pp (Xs.map (·.name)) (topTps D) := ⟨hid, HB.out.2.2.1, HIN.out.1.tn, hnp, by have := HIN.out.1.t0; omega, by have := HIN.out.1.t1; omega, hBN, by have := HIN.out.1.t1; omega, by have := HIN.out.1.n2; omega, H2.out.2.2.2.1, H2.out.1, fun x hx p hp => by
                 rw [HB.out.2.2.2.1]; exact H2.out.2.2.2.2.2.2.2 p (List.mem_flatMap.2 ⟨x, hx, hp⟩), H2.out.2.2.2.2.2.2.1⟩
                have hsrt := sort231 fr rc rv rk rp n np N A2 B Pp (Xs.map (·.name)) (topTps D) wr (hst2.ow.sub (by simp)) hsok
                have hnn : n ≤ 1000 ∧ 0 < n := ⟨hid.small, hid.pos⟩
                have HSR := Zhd (Zan hsrt (Zan hnl (Zan hnX (Zan hBN (Zan hna (Zan hacc hnn)))))); clear hsrt hnl hnX hBN hsok hid hnp hBK hKl hlen hna hacc hnn
                go_upto_region 66 with (first
                 | (refine wl_nx0 rfl rfl rfl hit5 ?_)
                 | (go_at_call 231
                    refine HSR.out.1.mono ?_
                    rintro e w6 ⟨v2, zs, rfl, hzs, hst3⟩
                    have hst4 := St.call (M1 := []) hst2 hst3
                    simp only [List.cons_append, List.nil_append] at hst4
                    have hso := sort_cur rc A2 w6 (hst4.m 2 rfl) (by have := HSR.out.2.1; have := HSR.out.2.2.2.2.2.2.1; omega) (fun x hx => by have := H2.out.2.2.2.1 x hx; omega)
                    rw [HSR.out.2.1] at hso
                    have HSO := Zhd hso; clear hso hst2 hst3)
                 | (go_at_call 232
                    refine HSO.out.mono ?_
                    rintro e w7 ⟨gi, ci, L, rfl, hL, hst5⟩
                    have hst6 := St.call (M1 := []) hst4 hst5
                    simp only [List.cons_append, List.nil_append] at hst6
                    have hst7 := ((((((hst6.front 6 rfl).front 3 rfl).front 6 rfl).front 4 rfl).front 4 rfl).front 7 rfl).front 6 rfl
                    simp only [Ze0, Ze1] at hst7
                    have hzl : N = zs.length := by rw [hzs.length_eq, List.length_map]; exact HSR.out.2.2.2.1.symm
                    have hst7b : St [sp] w w7 (bjM sp rb rs rc rq N n gi ci true v2 A2 lq zs L [] [] [] [] ++ [Rs.cur rp Pp, Rs.p2c rk B, Rs.row 384 2 u32 na (acc.flatMap encTp), Rs.map rv isTp []]) [Rs.map rm isStr (rawMd Xs), Rs.tops rt D] := by
                     rw [HMV.out] at hst7
                     exact hst7.perm (((((List.perm_append_comm (l₁ := [Rs.cur rp Pp, Rs.p2c rk B, Rs.row 384 2 u32 na (acc.flatMap encTp), Rs.map rv isTp []]) (l₂ := movM sp rb rs true [] [] [] [])).cons _).cons _).cons _).cons _)
                    have hpok : PfOk n N (A2.map (·.1)) (topTps D) zs B Pp := coop_ok HIN.out.1 H2.out.2.2.2.2.2.1 HIN.out.2.2.1 HB.out.2.1 HB.out.2.2.1 HB.out.2.2.2.1 HB.out.2.2.2.2.1 HK.out hzs hzl HSR.out.2.1 HSR.out.2.2.1 HSR.out.2.2.2.2.2.2.2 HSR.out.2.2.2.2.2.2.1
                    have hall : (allOf (asgT A2) ++ acc).Perm (topTps D) := by
                     rw [asgT_flat3]
                     exact List.perm_append_comm.trans (((HSR.out.2.2.2.2.2.1.append_right _).trans H2.out.2.1).trans HK.out)
                    have hbal := balance_all sp rb rs rc rq rp rk rv N na n gi ci true v2 u32 A2 Pp B lq acc zs (topTps D) (A2.map (·.1)) L w7 hst7b.ow.left hpok hL rfl hall H2.out.2.2.2.2.1 H2.out.1 HIN.out.1.t0
                     (fun x hx => ⟨(H2.out.2.2.2.2.2.1.trans HB.out.2.1.symm).mem_iff.2 (List.mem_map_of_mem hx), HB.out.2.2.1 x hx⟩) (HB.out.2.1.trans H2.out.2.2.2.2.2.1.symm) HSR.out.2.2.2.2.1
                    have HBA := Zhd hbal; clear hbal hst4 hst5 hst6 hst7)
                 | (go_at_call 233
                    refine HBA.out.mono ?_
                    rintro e w8 ⟨A3, E3, D3, I3, Mv3, rfl, hkeys3, hall3, hst8⟩
                    have hst9 := St.call (M1 := bjM sp rb rs rc rq N n gi ci true v2 A2 lq zs L [] [] [] []) hst7b hst8)
                 | fail)
                have hst10 : St [sp] w w8 [Rs.cur rc A3, Rs.stratC sp] [Rs.map rm isStr (rawMd Xs), Rs.tops rt D] := movM_oldC hst9
                have hc3 : MapAt w8 isStr rc (rawR (rowsT A3)) := (show RowsAt w8 isStr rc 384 2 (rowsT A3) from hst10.m 0 rfl).map
                have hA3K : (A3.flatMap (·.2.2)).Perm K := by
                 rw [asgT_flat3] at hall3
                 exact hall3.trans HK.out.symm
                have hkn3 : (A3.map (·.1)).Perm (Xs.map (·.name)) := by rw [hkeys3]; exact H2.out.2.2.2.2.2.1
                have HDE := Zhd (Zan hkn3 hA3K); clear hst9 hst7b hst8 hzl hpok hzs hL hA3K hkeys3 hall3 hkn3 hall
                go_wp2_with (first
                 | (refine wl_len rfl rfl rfl Tryz.underlying378 hc3 ?_)
                 | (refine wl_mkmapN (V := isStr) rfl rfl rfl Tryz.underlying82 hst10 ?_
                    intro p w9 hst11 hp
                    have hc4 : MapAt w9 isStr rc (rawR (rowsT A3)) := (show RowsAt w9 isStr rc 384 2 (rowsT A3) from hst11.m 1 rfl).map)
                 | (refine wl_rng 1 rfl rfl rfl Tryz.underlying378 hst11 rfl (cur_foot rc A3) hc4 ?_
                    intro it6 w10 hst12 hit6)
                 | fail)
                simp only [Zs0, Zs1] at hst12
                have hst13 : St [sp] w w10 (Rs.innerD [] :: Rs.map p isStr [] :: [itC rc A3 (rawR (rowsT A3)) it6, Rs.stratC sp]) [Rs.map rm isStr (rawMd Xs), Rs.tops rt D] := hst12.push (Kept.refl _ _) (by simp [Rs.innerD, footP]) (by simp [Rs.innerD, footP])
                have hst14 := hst13.front 1 rfl
                simp only [Ze0, Ze1] at hst14
                have h60 : PF1C sp w p rc it6 A3 [Rs.map rm isStr (rawMd Xs), Rs.tops rt D] w10 := ⟨[], A3, [], .refl _, ⟨rfl, by simp⟩, hst14⟩
                have H60 := Zhd h60; clear h60 hst14 hst13 hst12 hst11 hst10 hc3 hc4 hp hit6 hit5
                try go_frame
                go_loopw [44] (fun _ wr => PF1C sp w p rc it6 A3 [Rs.map rm isStr (rawMd Xs), Rs.tops rt D] wr) (fun _ wr => leftOf wr it6 rc)
                case atStart => exact H60.out
                case round =>
                 obtain ⟨Dn, Lf, P, hperm, hdn, hst⟩ := hrel
                 clear H60
                 by_cases hlf6 : rawR (rowsT Lf) = []
                 · obtain rfl := rawR_nil hlf6
                   have hit6 : IterAt wr it6 rc (rawR (rowsT A3)) [] := (hst.m 2 rfl).2.1
                   have hk3 : (A3.map (·.1)).Nodup := cur_keys (show RowsAt wr isStr rc 384 2 (rowsT A3) from (hst.m 2 rfl).1)
                   obtain ⟨ta, tb, hsp⟩ := (show ∃ a b, wr.heap[sp]? = some (.cells #[a, b, .bool true, .int .i32 (-1)] 181 (0, 0)) from hst.m 3 rfl)
                   have hs2 := (cells_of hsp).1 2 _ rfl
                   simp only [List.getElem_toArray, List.getElem_cons_succ, List.getElem_cons_zero] at hs2
                   rw [List.append_nil] at hperm
                   obtain ⟨hao, hkP, hkp, hfl⟩ := plan_adj hst HIN.out.1 HIN.out.2.1 HIN.out.2.2.1 hperm hdn hk3 (HDE.out.2.trans HK.out) HDE.out.1
                   have hadj := adjust_any p rm P Xs (rowPl P) (ownMd Xs) wr (hst.ow.sub (List.Sublist.cons_cons _ (List.Sublist.cons_cons _ (List.Sublist.cons _ (List.Sublist.cons _ (List.Sublist.cons_cons _ (List.nil_sublist _))))))) hao
                   have HFN := Zhd (Zan hadj (Zan hst (Zan hao (Zan hkP (Zan hkp hfl))))); clear hadj hao hkP hkp hfl hsp hk3 hperm hdn hst
                   go_wp2_with (first
                    | (refine wl_nx0 rfl rfl rfl hit6 ?_)
                    | (go_at_call 234
                       refine HFN.out.1.mono ?_
                       rintro e w9 ⟨P', rfl, hS, hstF⟩)
                    | fail)
                   go_ret2
                   exact plan_endC HFN.out.2.1 HIN.out.2.2.2 HIN.out.1 HFN.out.2.2.1 HFN.out.2.2.2.1 HFN.out.2.2.2.2.1 HFN.out.2.2.2.2.2 hS hstF
                 · obtain ⟨wC, rfl⟩ : ∃ wC, wC = wr := ⟨_, rfl⟩
                   have hmn : ∀ L1 x L2, Lf = L1 ++ x :: L2 → x.1 ∉ P.map (·.1) := fun L1 x L2 e => by
                    subst e
                    rw [hdn.1]
                    have h1 := (hperm.map (·.1)).nodup_iff.2 (cur_keys (show RowsAt wC isStr rc 384 2 (rowsT A3) from (hst.m 2 rfl).1))
                    rw [List.map_append, List.nodup_append] at h1
                    intro h
                    exact h1.2.2 _ h x.1 (by simp) rfl
                   have HL6 := Zhd (Zan hperm (Zan hdn hmn)); clear hperm hdn hmn
                   go_upto_region 70 with (first
                    | (refine wl_nx1 2 (cur_foot rc A3) rfl rfl rfl hst rfl hlf6 ?_
                       intro k v l1 l2 w3 hsp hst2 hent
                       simp only [Zs0, Zs1] at hst2
                       obtain ⟨L1, x, L2, rfl, rfl, rfl, rfl, rfl⟩ := rawR_split hsp
                       obtain ⟨m, rv0, ps⟩ := x
                       have hx3 : (m, rv0, ps) ∈ A3 := HL6.out.1.mem_iff.1 (by simp)
                       obtain ⟨_, xa, xc, hxv⟩ := cur_row (show RowsAt w3 isStr rc 384 2 (rowsT A3) from (hst2.m 2 rfl).1) hx3
                       simp only at hxv
                       subst hxv
                       obtain ⟨pn, hpn⟩ : ∃ pn, ps.length = pn := ⟨_, rfl⟩
                       rw [hpn] at hent
                       have HS6 := Zhd (Zan hsp (Zan hx3 hpn)); clear hsp hx3 hpn)
                    | (refine wl_entry rfl rfl rfl hent ?_)
                    | fail)
                   clear hent
                   have e8 : rawR (rowsT L1) ++ rawR (rowsT L2) = rawR (rowsT (L1 ++ L2)) := by rw [rowsT_append, rawR_append]
                   simp only [e8] at hst2
                   have hpnb : pn ≤ 1000 := by
                    have h1 := HDE.out.2.length_eq
                    have h2 := HK.out.length_eq
                    have h3 := HIN.out.1.t1
                    have h4 := HS6.out.2.2
                    obtain ⟨C1, C2, e⟩ := List.append_of_mem HS6.out.2.1
                    rw [e] at h1
                    simp only [List.flatMap_append, List.flatMap_cons, List.length_append] at h1
                    omega
                   have hfin : ∀ (r : Nat) (I : Tops) (w' : World), (topTps I).Perm ps → (∀ y ∈ I, y.2.2 ≠ []) → St [sp] w w' [Rs.map p isStr (rawP P ++ [(.string m, .map (some r))]), Rs.inn r I, Rs.innerD P, itC rc A3 (rawR (rowsT (L1 ++ L2))) it6, Rs.stratC sp] [Rs.map rm isStr (rawMd Xs), Rs.tops rt D] →
                    PF1C sp w p rc it6 A3 [Rs.map rm isStr (rawMd Xs), Rs.tops rt D] w' ∧ leftOf w' it6 rc < leftOf wC it6 rc := fun r I w' h1 h0 h2 => by
                    have h3 := (h2.front 2 rfl).front 2 rfl
                    simp only [Ze0, Ze1] at h3
                    rw [rawP_snoc P m r I] at h3
                    have h4 := (St.innerJoinD m h3).front 1 rfl
                    simp only [Ze0, Ze1] at h4
                    refine ⟨⟨Dn ++ [(m, .slice xa ps.length xc, ps)], L1 ++ L2, P ++ [(m, r, I)], perm_step HL6.out.1, HL6.out.2.1.snoc m _ ps r I h1 h0, h4⟩, ?_⟩
                    have g1 : IterAt w' it6 rc _ (rawR (rowsT (L1 ++ L2))) := (h4.m 2 rfl).2.1
                    have g2 : IterAt wC it6 rc _ _ := (hst.m 2 rfl).2.1
                    rw [g1.leftOf, g2.leftOf, HS6.out.1, ← e8]
                    simp
                   have HFI := Zhd hfin; clear hfin e8
                   by_cases hp0 : pn = 0
                   · subst hp0
                     have hps : ps = [] := List.eq_nil_of_length_eq_zero HS6.out.2.2
                     have hmi := rawP_miss (HL6.out.2.2 L1 _ L2 rfl)
                     have HMI := Zhd (Zan hmi hps); clear hmi hps
                     go_wp2_with (first
                      | (refine wl_mkmap (V := isStr) rfl rfl hst2 ?_
                         intro r w4 hst3 hr)
                      | (refine wl_upd (kv := .string m) (vv := .map (some r)) 1 rfl rfl rfl rfl rfl (keyT_str Tryz.underlying9) Tryz.underlying82 hst3 rfl ⟨_, rfl⟩ ?_
                         intro w5 hst4
                         simp only [Zs0, Zs1] at hst4
                         rw [putE_miss HMI.out.1] at hst4)
                      | fail)
                     have hst5 := (hst4.mapRows 21 1).front 1 rfl
                     simp only [Ze0, Ze1] at hst5
                     have hres := HFI.out r [] w5 (by rw [HMI.out.2]; exact .refl _) (by simp) hst5
                     first
                      | exact hres
                      | (refine ⟨?_, hres.2⟩; (repeat apply Exists.intro); exact ⟨hres.1, rfl⟩)
                   · have hpf : ((pn : Int) == 0) = false := by simpa using hp0
                     have h70 : PF2C sp w p P m ps pn (itC rc A3 (rawR (rowsT (L1 ++ L2))) it6) [Rs.map rm isStr (rawMd Xs), Rs.tops rt D] (.int .i64 0) w3 := ⟨0, rfl, Nat.zero_le _, .inl ⟨rfl, hst2⟩⟩
                     have H70 := Zhd h70; clear h70 hst2
                     go_wp2_with fail
                     try go_frame
                     go_loopw [263] (fun i wr => PF2C sp w p P m ps pn (itC rc A3 (rawR (rowsT (L1 ++ L2))) it6) [Rs.map rm isStr (rawMd Xs), Rs.tops rt D] i wr) (fun i _ => pn - (intOf i).toNat)
                     case atStart => exact H70.out
                     case round =>
                      obtain ⟨k, rfl, hk, hcase⟩ := hrel
                      clear H70
                      by_cases hkn : k < pn
                      · obtain ⟨q, hq⟩ : ∃ q, ps[k]? = some q := ⟨_, List.getElem?_eq_getElem (by rw [HS6.out.2.2]; exact hkn)⟩
                        have hRA : RowsAt wr isStr rc 384 2 (rowsT A3) := by
                         rcases hcase with ⟨_, h⟩ | ⟨_, r, I, _, _, h⟩
                         · exact (h.m 2 rfl).1
                         · exact (h.m 3 rfl).1
                        have hown := (cur_row hRA HS6.out.2.1).1
                        simp only [HS6.out.2.2] at hown
                        obtain ⟨g0, c0, ev⟩ := own_some hown (by omega)
                        cases ev
                        obtain ⟨g1, g2⟩ := tp_get hq
                        have c1 := (own_cell hown g1).1
                        have c2 := (own_cell hown g2).1
                        have hki : (k : Int) < (pn : Int) := by omega
                        have htk := take_snoc hq
                        have hmi := rawP_miss (HL6.out.2.2 L1 _ L2 rfl)
                        have HN := Zhd (Zan htk hmi); clear htk hmi hown hRA g1 g2 hq
                        rcases hcase with ⟨h0, hst3⟩ | ⟨h0, r, I, hI, hI0, hst3⟩
                        · have H0 := Zhd h0; clear h0
                          have hst4 := ((hst3.alloc (.cells #[.string q.1, .int .i32 q.2] 384)).made 21 1 1 [.int .i32 q.2] rfl (by decide)).front 1 rfl
                          simp only [Ze0, Ze1, World.size_alloc] at hst4
                          go_wp2_with (first
                           | (refine wl_build1 (x := .int .i32 q.2) rfl rfl rfl (build_i32 q.2 _) ?_)
                           | (go_at_call 93
                              refine (add_new p m q.1 q.2 _ 1 (rawP P) _ (hst4.ow.sub (by simp)) HN.out.2).mono ?_
                              rintro e w5 ⟨rfl, r, v, hst5⟩
                              have hst6 := (St.call (M1 := [Rs.map p isStr (rawP P)]) hst4 (by simpa [foots, Rs.map] using hst5)).drop 2)
                           | fail)
                          simp only [List.cons_append, List.nil_append, Ze0, Ze1] at hst6
                          refine ⟨⟨k + 1, by go_num, by omega, .inr ⟨by omega, r, [(q.1, v, [q.2])], ?_, by simp, hst6⟩⟩, by simp [intOf]; omega⟩
                          rw [HN.out.1, H0.out]
                          simp [topTps, tpsOf]
                        · have hst4 := (((hst3.alloc (.cells #[.string q.1, .int .i32 q.2] 384)).made 21 1 1 [.int .i32 q.2] rfl (by decide)).front 2 rfl).front 2 rfl
                          simp only [Ze0, Ze1, World.size_alloc] at hst4
                          have hIb : ∀ x ∈ I, x.2.2.length ≤ 1000 := fun x hx => by
                           have h1 := parts_le hx
                           have h2 := hI.length_eq
                           rw [List.length_take] at h2; omega
                          have HI := Zhd (Zan hI (Zan hIb hI0)); clear hI hIb hI0
                          go_wp2_with (first
                           | (refine wl_build1 (x := .int .i32 q.2) rfl rfl rfl (build_i32 q.2 _) ?_)
                           | (go_at_call 93
                              refine (add_more p r m q.1 q.2 _ 1 (rawP P ++ [(.string m, .map (some r))]) I _ (hst4.ow.sub (by simp)) (by simp) HI.out.2.1).mono ?_
                              rintro e w5 ⟨rfl, I', hI', hI2, hst5⟩
                              have hst6 := (St.call (M1 := [Rs.map p isStr (rawP P ++ [(.string m, .map (some r))]), Rs.inn r I]) hst4 hst5).drop 2)
                           | fail)
                          simp only [List.cons_append, List.nil_append, Ze0, Ze1] at hst6
                          refine ⟨⟨k + 1, by go_num, by omega, .inr ⟨by omega, r, I', ?_, fun y hy => (hI2 y hy).elim id (HI.out.2.2 y), hst6⟩⟩, by simp [intOf]; omega⟩
                          rw [HN.out.1]
                          exact hI'.trans (HI.out.1.append_right _)
                      · obtain rfl : k = pn := by omega
                        rcases hcase with ⟨h0, _⟩ | ⟨_, r, I, hI, hI0, hst3⟩
                        · exact absurd h0 hp0
                        · rw [List.take_of_length_le (by rw [HS6.out.2.2]; exact Nat.le_refl _)] at hI
                          have hres := HFI.out r I wr hI hI0 hst3
                          have HRS := Zhd hres; clear hres hst3 hI
                          go_wp2_with fail
                          exact HRS.out
              · obtain ⟨wC, rfl⟩ : ∃ wC, wC = wr := ⟨_, rfl⟩
                have HL4 := Zhd (Zan hacc hna); clear hacc hna
                have hnb : na ≤ 1000 := by omega
                clear hlen
                go_wp2_with (first
                 | (refine wl_nx1 1 (by simp [Rs.map]) rfl rfl rfl hst rfl hlf5 ?_
                    intro kx vx l1 l2 w6 hsp hst6 hent
                    simp only [Zs0, Zs1] at hst6
                    obtain ⟨A4, p, B4, rfl, rfl, rfl, rfl, rfl⟩ := unT_split hsp
                    have HS4 := Zhd hsp; clear hsp)
                 | (refine wl_entry rfl rfl rfl hent ?_)
                 | (refine wl_build1 (x := tpV p) rfl rfl rfl (build_tp p _) ?_)
                 | (refine wl_push 0 rfl rfl elTp rfl rfl ((hst6.alloc _).alloc _) rfl ((new_tp _ p).src Tryz.underlying375) (by omega) (by omega) ?_
                    intro v' w7 hst7
                    simp only [Zs0, Zs1] at hst7
                    rw [enc_snoc] at hst7)
                 | fail)
                rw [← unT_append] at hst7
                refine ⟨⟨na + 1, acc ++ [p], A4 ++ B4, by simp [HL4.out.2], perm_step HL4.out.1, hst7⟩, ?_⟩
                rw [(hst7.m 1 rfl).2.1.leftOf, (hst.m 1 rfl).2.1.leftOf, HS4.out, unT_append]
                simp
           · obtain ⟨wB, rfl⟩ : ∃ wB, wB = wr := ⟨_, rfl⟩
             have HL := Zhd (Zan hperm (Zan hasg (Zan hLA (Zan hnil (Zan hUn hLq))))); clear hperm hasg hLA hnil hUn hLq
             go_wp2_with (first
              | (refine wl_nx1 2 (cur_foot rc A2) rfl rfl rfl hst rfl hlf4 ?_
                 intro k v l1 l2 w3 hsp hst2 hent
                 simp only [Zs0, Zs1] at hst2
                 obtain ⟨L1, x, L2, rfl, rfl, rfl, rfl, rfl⟩ := rawR_split hsp
                 obtain ⟨m, rv0, ps⟩ := x
                 have hx2 : (m, rv0, ps) ∈ A2 := HL.out.2.2.1 _ (by simp)
                 obtain ⟨_, xa, xc, hxv⟩ := cur_row (show RowsAt w3 isStr rc 384 2 (rowsT A2) from (hst2.m 2 rfl).1) hx2
                 simp only at hxv
                 subst hxv
                 obtain ⟨pn, hpn⟩ : ∃ pn, ps.length = pn := ⟨_, rfl⟩
                 rw [hpn] at hent
                 have HS := Zhd (Zan hsp (Zan hx2 hpn)); clear hsp hx2 hpn)
              | (refine wl_entry rfl rfl rfl hent ?_)
              | fail)
             have hst3 := hst2.nilrow 384 2
             have h50 : PD2J Dn m sp w ru rq K (Dn.flatMap (·.2.2)) ps pn (itC rc A2 (rawR (rowsT L1) ++ rawR (rowsT L2)) it4) (Rs.p2c rk B :: Rs.cur rp Pp :: Rs.map rv isTp [] :: MV) [Rs.map rm isStr (rawMd Xs), Rs.tops rt D] (.slice none 0 0) (.slice none 0 0) (.int .i64 0) w3 :=
              ⟨rfl, 0, lq, Un, rfl, Nat.zero_le _, fun _ => rfl, by simpa using HL.out.2.2.2.2.1, LqOk.zero HL.out.2.2.2.2.2, hst3⟩
             have H50 := Zhd h50; clear h50 hst3 hst2 hent
             go_loopw [32, 35, 180] (fun v vk i wr => PD2J Dn m sp w ru rq K (Dn.flatMap (·.2.2)) ps pn (itC rc A2 (rawR (rowsT L1) ++ rawR (rowsT L2)) it4) (Rs.p2c rk B :: Rs.cur rp Pp :: Rs.map rv isTp [] :: MV) [Rs.map rm isStr (rawMd Xs), Rs.tops rt D] v vk i wr) (fun _ _ i _ => pn - (intOf i).toNat)
             case atStart => exact H50.out
             case round =>
              obtain ⟨rfl, k, lq2, Un2, rfl, hk, hvk, hUn2, hLq2, hst4⟩ := hrel
              clear H50
              by_cases hkn : k < pn
              · obtain ⟨q, hq⟩ : ∃ q, ps[k]? = some q := ⟨_, List.getElem?_eq_getElem (by rw [HS.out.2.2]; exact hkn)⟩
                have hown := (cur_row (show RowsAt wr isStr rc 384 2 (rowsT A2) from (hst4.m 3 rfl).1) HS.out.2.1).1
                simp only [HS.out.2.2] at hown
                obtain ⟨g0, c0, ev⟩ := own_some hown (by omega)
                cases ev
                obtain ⟨g1, g2⟩ := tp_get hq
                have c1 := (own_cell hown g1).1
                have c2 := (own_cell hown g2).1
                have hki : (k : Int) < (pn : Int) := by omega
                have hxA1 : ∃ v, (m, v, ps) ∈ A1 := ⟨.slice (some ⟨g0, 0, none⟩) ps.length xc, HL.out.1.mem_iff.1 (by simp)⟩
                obtain ⟨xv1, hxA1⟩ := hxA1
                have hpb : pn ≤ 1000 := by rw [← HS.out.2.2]; exact HA1.out.2.2.2 _ hxA1
                have hqp : q ∈ ps := List.mem_of_getElem? hq
                have hqK : q ∈ K := HA1.out.2.1 q (List.mem_flatMap.2 ⟨_, hxA1, hqp⟩)
                have hqD : q ∉ Dn.flatMap (·.2.2) ++ ps.take k := fun h => by
                 have h1 := (HL.out.1.flatMap_right (·.2.2)).nodup_iff.2 HA1.out.1
                 rw [List.flatMap_append, List.flatMap_append, List.flatMap_cons, List.nodup_append, List.nodup_append, List.nodup_append] at h1
                 obtain ⟨_, ⟨_, ⟨h2, _, _⟩, _⟩, h3⟩ := h1
                 rcases Zap.1 h with h | h
                 · exact h3 q h q (by simp [hqp]) rfl
                 · exact take_new h2 hq h
                have hqU : q ∈ Un2 := (Zap.1 (hUn2.mem_iff.2 hqK)).resolve_right hqD
                have hLq3 := hLq2.step hq hqD
                obtain ⟨U1, U2, rfl⟩ := List.append_of_mem hqU
                have hUd : (U1 ++ q :: U2).Nodup := (List.nodup_append.1 (hUn2.nodup_iff.2 HA1.out.2.2.1)).1
                have hdel : delE (UnT (U1 ++ q :: U2)) (tpV q) = UnT (U1 ++ U2) := by
                 have e : UnT (U1 ++ q :: U2) = UnT U1 ++ (tpV q, .bool true) :: UnT U2 := by simp [UnT]
                 have h1 := unT_nodup hUd
                 rw [e] at h1 ⊢
                 rw [delE_hit h1, unT_append]
                obtain ⟨⟨q', vb, ms⟩, hyB, hq'⟩ := List.mem_map.1 (show q ∈ B.map (·.1) by rw [HB.out.2.2.2.1]; exact hqK)
                simp only at hq'
                subst hq'
                have hlb := p2c_in hyB
                have hkm := fun o => (show RowsAt (wr.alloc o) isTp rk 9 1 (rowsS B) from (hst4.alloc o).m 4 rfl).map
                obtain ⟨xm, hxm, hxn⟩ := List.mem_map.1 (HB.out.1.keys.mem_iff.1 (List.mem_map_of_mem (f := fun x : Rw => x.1) hxA1))
                simp only at hxn
                subst hxn
                obtain ⟨⟨ver, gg, ta, oa, da, tn, tc, dn, dc, on, oc, ra, tl, hval, htl, hud⟩, hgen⟩ := HIN.out.2.1 xm hxm
                have hlm : (Value.string xm.name, Value.agg #[.int .i16 ver, .slice ta tn tc, .slice da dn dc, .slice oa on oc, .int .i32 gg, .pointer ra]) ∈ rawMd Xs := List.mem_map.2 ⟨xm, hxm, by rw [hval]⟩
                have hqt : q'.1 ∈ tl := by
                 obtain ⟨⟨t1, v1, xs1⟩, hxD, hq2⟩ := List.mem_flatMap.1 (HK.out.mem_iff.1 hqK)
                 obtain ⟨n1, _, rfl⟩ := List.mem_map.1 hq2
                 exact htl.mem_iff.2 (List.mem_map.2 ⟨_, hxD, rfl⟩)
                have hcon := fun w' (k' : Kept [sp] w w') => cont_str ta tn tc q'.1 tl w' (hud w' k').1 (by obtain ⟨⟨_, _, e⟩, _⟩ := (hud w' k').1; cases e; rfl) hqt (by
                 obtain ⟨⟨_, _, e⟩, _⟩ := (hud w' k').1
                 cases e
                 have h1 := htl.length_eq
                 have h2 := HIN.out.1.dl
                 rw [List.length_map] at h1; omega)
                have htk := take_snoc hq
                have hfd := field78 (.int .i16 ver) (.slice ta tn tc) (.slice da dn dc) (.slice oa on oc) (.int .i32 gg) (.pointer ra)
                have HN := Zhd (Zan hdel (Zan hlb (Zan hkm (Zan hlm (Zan hcon (Zan htk (Zan hUn2 hLq3))))))); clear hdel hlb hkm hlm hcon htk hUn2 hLq2 hLq3 hqD hud htl hval hgen hqt hqU hqK hqp hUd hown hq g1 g2 hvk hxA1 hyB hxm
                go_wp2_with (first
                 | (refine wl_lk2 (kv := tpV q') (vv := vb) rfl rfl rfl rfl keyT_tp Tryz.underlying382 (HN.out.2.2.1 _) HN.out.2.1 ?_)
                 | (refine wl_del (kv := tpV q') 2 rfl rfl rfl rfl keyT_tp Tryz.underlying388 (hst4.blk (.cells #[.string q'.1, .int .i32 q'.2] 384)) rfl ⟨_, _, rfl⟩ ?_
                    intro w6 hst5
                    simp only [Zs0, Zs1] at hst5
                    rw [HN.out.1] at hst5
                    obtain ⟨cb0, cb1⟩ := hst5.cell2 0 rfl)
                 | (refine wl_upd (kv := tpV q') (vv := .string xm.name) 3 rfl rfl rfl rfl rfl keyT_tp Tryz.underlying387 hst5 rfl ⟨_, _, rfl⟩ ?_
                    intro w7 hst6
                    simp only [Zs0, Zs1] at hst6
                    obtain ⟨cd0, cd1⟩ := hst6.cell2 0 rfl
                    have hmm : MapAt w7 isStr rm (rawMd Xs) := hst6.r 0 rfl)
                 | (refine wl_lk (kv := .string xm.name) rfl rfl rfl rfl (keyT_str Tryz.underlying9) Tryz.underlying74 hmm HN.out.2.2.2.1 ?_)
                 | (go_at_call 230
                    refine (HN.out.2.2.2.2.1 w7 hst6.kept).mono ?_
                    rintro e w8 ⟨rfl, rfl⟩)
                 | (refine wl_build1 (x := tpV q') rfl rfl rfl (build_tp q' _) ?_)
                 | (refine wl_push 1 rfl rfl elTp rfl rfl (hst6.alloc _) rfl ((new_tp _ q').src Tryz.underlying375) (by omega) (by omega) ?_
                    intro nv w9 hst7
                    simp only [Zs0, Zs1] at hst7
                    rw [enc_snoc, ← HN.out.2.2.2.2.2.1] at hst7)
                 | fail)
                have hst8 := hst7.drop 0
                simp only [Ze0] at hst8
                refine ⟨⟨rfl, k + 1, _, U1 ++ U2, by go_num, by omega, fun h => absurd h (by omega), ?_, HN.out.2.2.2.2.2.2.2, hst8⟩, by simp [intOf]; omega⟩
                rw [HN.out.2.2.2.2.2.1]
                refine List.Perm.trans ?_ HN.out.2.2.2.2.2.2.1
                have h1 : (U1 ++ q' :: U2 ++ (Dn.flatMap (·.2.2) ++ ps.take k)).Perm (q' :: (U1 ++ U2 ++ (Dn.flatMap (·.2.2) ++ ps.take k))) := by
                 simp
                refine List.Perm.trans ?_ h1.symm
                rw [← List.append_assoc (Dn.flatMap (·.2.2)), ← List.append_assoc (U1 ++ U2)]
                exact List.perm_append_singleton _ _
              · obtain rfl : k = pn := by omega
                have e5 : ps.take k = ps := List.take_of_length_le (by rw [HS.out.2.2]; exact Nat.le_refl _)
                rw [e5] at hUn2 hst4 hLq2
                obtain ⟨C1, C2, hC⟩ := List.append_of_mem HS.out.2.1
                subst hC
                have hnx := pd_next (vk := u35) HB.out.2.2.2.2.2 HL.out.1 HL.out.2.1 HL.out.2.2.1 HL.out.2.2.2.1 (fun e => hvk (by rw [← HS.out.2.2, e]; rfl))
                have e6 := rowsT_mid C1 C2 m (.slice xa ps.length xc) ps
                have hr6 : rc ∈ (Rs.rows isStr rc 384 2 (rowsT C1 ++ (.string m, .slice xa ps.length xc, ps.flatMap encTp) :: rowsT C2)).foot := by simp [Rs.rows]
                have hst5 := hst4.weak 3 rfl (X' := Rs.it (Rs.rows isStr rc 384 2 (rowsT C1 ++ (.string m, .slice xa ps.length xc, ps.flatMap encTp) :: rowsT C2)) rc (rawR (rowsT C1 ++ (.string m, .slice xa ps.length xc, ps.flatMap encTp) :: rowsT C2)) (rawR (rowsT L1) ++ rawR (rowsT L2)) it4 hr6)
                 (fun h => by rw [← itR_eq e6 (cur_foot rc _) hr6]; exact h) (fun g hg => by rw [← itR_eq e6 (cur_foot rc _) hr6] at hg; exact hg)
                simp only [Zs0, Zs1] at hst5
                have HX := Zhd (Zan hnx (Zan hUn2 hLq2)); clear hnx hUn2 hLq2 hst4 e6 hvk
                go_wp2_with (first
                 | (refine wl_rowset (E := 384) (sz := 2) (kv := .string m) (v' := u35) (ys := ps.flatMap encTp) 2 (by simp [Rs.rows]) rfl rfl rfl rfl rfl (keyT_str Tryz.underlying9) Tryz.underlying378 hst5 rfl HX.out.1.1 ?_
                    intro w8 hst8
                    simp only [Zs0, Zs1] at hst8)
                 | fail)
                have e7 := (rowsT_mid C1 C2 m u35 ps).symm
                have hq7 := itR_eq (it := it4) (left := rawR (rowsT L1) ++ rawR (rowsT L2)) e7 (by simp [Rs.rows]) (cur_foot rc _)
                rw [hq7] at hst8
                have hst9 : St [sp] w w8 (Rs.map ru isTp (UnT Un2) :: Rs.map rq isTp lq2 :: itC rc (C1 ++ (m, u35, ps) :: C2) (rawR (rowsT L1) ++ rawR (rowsT L2)) it4 :: (Rs.p2c rk B :: Rs.cur rp Pp :: Rs.map rv isTp [] :: MV)) [Rs.map rm isStr (rawMd Xs), Rs.tops rt D] := hst8
                have e8 : rawR (rowsT L1) ++ rawR (rowsT L2) = rawR (rowsT (L1 ++ L2)) := by rw [rowsT_append, rawR_append]
                simp only [e8] at hst9
                have hfin : PD1J sp w rc it4 ru rq A1 K (Rs.p2c rk B :: Rs.cur rp Pp :: Rs.map rv isTp [] :: MV) [Rs.map rm isStr (rawMd Xs), Rs.tops rt D] (.slice none 0 0) w8 :=
                 ⟨rfl, Dn ++ [(m, .slice xa ps.length xc, ps)], L1 ++ L2, _, lq2, Un2, perm_step HL.out.1, HX.out.1.2.1, HX.out.1.2.2.1, HX.out.1.2.2.2, by simpa using HX.out.2.1, HX.out.2.2.val, hst9⟩
                have h1 : IterAt w8 it4 rc _ (rawR (rowsT (L1 ++ L2))) := (hst9.m 2 rfl).2.1
                have h2 : IterAt wB it4 rc _ _ := (hst.m 2 rfl).2.1
                have hle : leftOf w8 it4 rc < leftOf wB it4 rc := by
                 rw [h1.leftOf, h2.leftOf, HS.out.1, ← e8]
                 simp
                first
                 | exact ⟨hfin, hle⟩
                 | (refine ⟨?_, hle⟩; (repeat apply Exists.intro); exact ⟨hfin, rfl⟩)
        · obtain ⟨wB, rfl⟩ : ∃ wB, wB = wr := ⟨_, rfl⟩
          have HL := Zhd hperm; clear hperm
          go_wp2_with (first
           | (refine wl_nx1 1 (cur_footS rk B) rfl rfl rfl hst rfl hlf3 ?_
              intro k v l1 l2 w3 hsp hst2 hent
              simp only [Zs0, Zs1] at hst2
              obtain ⟨L1, x, L2, rfl, rfl, rfl, rfl, rfl⟩ := rawS_split hsp
              obtain ⟨p, pv, nm⟩ := x
              have hmi : p ∉ Dn.map (·.1) := fun hp => by
               have hk := (HL.out.map (·.1)).nodup_iff.2 (p2c_keys (show RowsAt w3 isTp rk 9 1 (rowsS B) from (hst2.m 1 rfl).1))
               rw [List.map_append, List.nodup_append] at hk
               exact hk.2.2 p hp p (by simp) rfl
              have HM := Zhd (Zan hmi hsp); clear hmi hsp)
           | (refine wl_entry rfl rfl rfl hent ?_)
           | (refine wl_upd (kv := tpV p) (vv := .bool true) 0 rfl rfl rfl rfl rfl keyT_tp Tryz.underlying388 (hst2.alloc _) rfl ⟨_, _, rfl⟩ ?_
              intro w5 hst5
              simp only [Zs0] at hst5
              rw [putE_miss (unT_miss HM.out.1), unT_snoc] at hst5)
           | fail)
          have e : rawR (rowsS L1) ++ rawR (rowsS L2) = rawR (rowsS (L1 ++ L2)) := by rw [rowsS_append, rawR_append]
          rw [e] at hst5
          refine ⟨⟨Dn ++ [(p, pv, nm)], L1 ++ L2, perm_step HL.out, by simpa using hst5⟩, ?_⟩
          have h1 : IterAt w5 it3 rk (rawR (rowsS B)) (rawR (rowsS (L1 ++ L2))) := (hst5.m 1 rfl).2.1
          have h2 : IterAt wB it3 rk (rawR (rowsS B)) _ := (hst.m 1 rfl).2.1
          rw [h1.leftOf, h2.leftOf, HM.out.2, ← e]
          simp
     · obtain ⟨wB, rfl⟩ : ∃ wB, wB = wr := ⟨_, rfl⟩
       have HL := Zhd (Zan hperm (Zan hPk (Zan hPt (Zan hBk (Zan hBn (Zan hE hEA)))))); clear hperm hPk hPt hBk hBn hE hEA
       go_wp2_with (first
        | (refine wl_nx1R 0 (by simp [Rs.map]) rfl rfl rfl hst rfl hlf HFIT2.out ?_
           intro k v l1 l2 w5 hsp hst2 hent
           simp only [Zs0] at hst2
           obtain ⟨L1, x, L2, rfl, rfl, rfl, rfl, rfl⟩ := rawMd_split hsp
           have hxM : x ∈ Xs := HL.out.1.mem_iff.1 (by simp)
           obtain ⟨⟨ver, gg, ta, oa, da, tn, tc, dn, dc, on, oc, ra, tl, hval, htl, hud⟩, hgen⟩ := HIN.out.2.1 x hxM
           rw [hval] at hent
           have hnm : x.name ∉ Pp.map (·.1) := by rw [HL.out.2.1]; exact name_new HIN.out.2.2.1 HL.out.1
           have hst2b := hst2.blk (.cells #[.int .i16 ver, .slice ta tn tc, .slice da dn dc, .slice oa on oc, .int .i32 gg, .pointer ra] 78)
           have HS := Zhd (Zan hsp (Zan hxM (Zan hud (Zan hval (Zan htl hnm))))); clear hsp hxM hud hgen hval htl hnm)
        | (refine wl_entry rfl rfl rfl hent ?_)
        | (refine wl_mkslice 0 rfl rfl rfl rfl elTp hst2b (by omega) (by unfold maxLen; omega) ?_
           intro g w6 hst3 hg)
        | (refine wl_rownew (E := 384) (sz := 2) (n := 0) (xs := []) (kv := .string x.name) (v := .slice (some ⟨g, 0, none⟩) 0 0) 1 rfl rfl rfl rfl rfl (keyT_str Tryz.underlying9) Tryz.underlying378 ⟨_, rfl⟩ hst3 rfl (keysT_string HS.out.2.2.2.2.2) ?_
           intro w7 hst4
           simp only [Zs0, Zs1] at hst4
           have cl := (cells_of (show w7.heap[w5.heap.size]? = some (.cells #[.int .i16 ver, .slice ta tn tc, .slice da dn dc, .slice oa on oc, .int .i32 gg, .pointer ra] 78 (0, 0)) from hst4.m 0 rfl)).1 1 _ rfl
           simp only [List.getElem_toArray, List.getElem_cons_succ, List.getElem_cons_zero] at cl)
        | fail)
       have hst5 := hst4.drop 0
       simp only [Ze0] at hst5
       generalize (Value.slice (some ⟨g, 0, none⟩) 0 0) = v0 at hst5
       have e0 : rowsT Pp ++ [(.string x.name, v0, [])] = rowsT (Pp ++ [(x.name, v0, [])]) := by simp [rowsT, rowT]
       rw [e0] at hst5
       have htn : tl.length = tn := by
        obtain ⟨⟨a, c, e⟩, _⟩ := (HS.out.2.2.1 w7 hst5.kept).1
        cases e; rfl
       have HTN := Zhd htn; clear htn
       have h30 : PB2 (PBS sp w rk rp Pp x.name (Dn.map (·.name)) K (Rs.cur rc (A ++ E) :: Rs.map rv isTp [] :: MV) [itMd rm Xs (rawMd L1 ++ rawMd L2) it2, Rs.tops rt D]) D tl tn (.int .i64 0) w7 :=
        ⟨0, rfl, Nat.zero_le _, v0, B, HL.out.2.2.2.1, fun y hy => ⟨fun h => absurd h (by simp [doneT]), fun _ => HL.out.2.2.2.2.1 y hy⟩, by simpa [doneT] using hst5⟩
       have H30 := Zhd h30; clear h30 hst5 hst4 hst3 hst2 hst2b hent cl e0
       go_loopw [106] (fun i wr => PB2 (PBS sp w rk rp Pp x.name (Dn.map (·.name)) K (Rs.cur rc (A ++ E) :: Rs.map rv isTp [] :: MV) [itMd rm Xs (rawMd L1 ++ rawMd L2) it2, Rs.tops rt D]) D tl tn i wr) (fun i _ => tn - (intOf i).toNat)
       case atStart => exact H30.out
       case round =>
        obtain ⟨k, rfl, hk, v, B', hBk', hB', hst6⟩ := hrel
        clear H30
        by_cases hkn : k < tn
        · obtain ⟨t, ht⟩ : ∃ t, tl[k]? = some t := ⟨_, List.getElem?_eq_getElem (by rw [HTN.out]; exact hkn)⟩
          have hpt := (HS.out.2.2.1 wr hst6.kept).1.2
          rw [HTN.out] at hpt
          obtain ⟨b, off, cap, hv, hcells⟩ : ∃ b off cap, Value.slice ta tn tc = .slice (some ⟨b, off, none⟩) tn cap ∧ ∀ j u, (strs tl)[j]? = some u → wr.cell? ⟨b, off + j, none⟩ = some u := by
           rcases hpt.2.2 with ⟨_, _, _, h0⟩ | h
           · omega
           · exact h
          simp only [Value.slice.injEq] at hv
          obtain ⟨rfl, _, rfl⟩ := hv
          have c1 := hcells k (.string t) (strs_get ht)
          have hki : (k : Int) < (tn : Int) := by omega
          have htb : tn ≤ 1000 := by have h1 := HS.out.2.2.2.2.1.length_eq; have h2 := HIN.out.1.dl; rw [HTN.out, List.length_map] at h1; omega
          obtain ⟨⟨t', xv, xs⟩, hxD, rfl⟩ := List.mem_map.1 (HS.out.2.2.2.2.1.mem_iff.1 (List.mem_of_getElem? ht))
          have hTD : TopsAt wr rt D := hst6.r 1 rfl
          obtain ⟨⟨xa, xc, hxv⟩, hxs, _⟩ := hTD.parts _ hxD
          simp only at hxv hxs ht c1
          subst hxv
          have hmt := hTD.map
          have hin : (Value.string t', Value.slice xa xs.length xc) ∈ rawT D := List.mem_map.2 ⟨_, hxD, rfl⟩
          obtain ⟨xn, hxn⟩ : ∃ xn, xs.length = xn := ⟨_, rfl⟩
          rw [hxn] at hxs hin
          have hsn := doneT_snoc (D := D) ht
          rw [rowD_mem HIN.out.1.dk hxD] at hsn
          have HM := Zhd (Zan ht (Zan hxD (Zan hxn hsn))); clear ht hxD hsn hTD hxs hpt hcells
          have h40 : PB3 (PBS sp w rk rp Pp x.name (Dn.map (·.name)) K (Rs.cur rc (A ++ E) :: Rs.map rv isTp [] :: MV) [itMd rm Xs (rawMd L1 ++ rawMd L2) it2, Rs.tops rt D]) (doneT D (tl.take k)) t' xs xn (.int .i64 0) wr :=
           ⟨0, rfl, Nat.zero_le _, v, B', hBk', fun y hy => by simpa [tpsOf] using hB' y hy, by simpa [tpsOf] using hst6⟩
          have H40 := Zhd h40; clear h40 hB' hst6
          go_wp2_with (first
           | (refine wl_lk2 (kv := .string t') (vv := .slice xa xn xc) rfl rfl rfl rfl (keyT_str Tryz.underlying9) Tryz.underlying90 hmt hin ?_)
           | (refine wl_lk (kv := .string t') (vv := .slice xa xn xc) rfl rfl rfl rfl (keyT_str Tryz.underlying9) Tryz.underlying90 hmt hin ?_)
           | fail)
          clear hmt hin c1
          go_loopw [121] (fun i wr => PB3 (PBS sp w rk rp Pp x.name (Dn.map (·.name)) K (Rs.cur rc (A ++ E) :: Rs.map rv isTp [] :: MV) [itMd rm Xs (rawMd L1 ++ rawMd L2) it2, Rs.tops rt D]) (doneT D (tl.take k)) t' xs xn i wr) (fun i _ => xn - (intOf i).toNat)
          case atStart => exact H40.out
          case round =>
           obtain ⟨j, rfl, hj, v2, B2, hBk2, hB2, hst7⟩ := hrel
           clear H40
           by_cases hjn : j < xn
           · obtain ⟨n, hn⟩ : ∃ n, xs[j]? = some n := ⟨_, List.getElem?_eq_getElem (by rw [HM.out.2.2.1]; exact hjn)⟩
             have hpt := ((show TopsAt wr rt D from hst7.r 1 rfl).parts _ HM.out.2.1).2.1
             simp only [HM.out.2.2.1] at hpt
             obtain ⟨b2, off2, cap2, hv, hcells⟩ : ∃ b off cap, Value.slice xa xn xc = .slice (some ⟨b, off, none⟩) xn cap ∧ ∀ j u, (i32s xs)[j]? = some u → wr.cell? ⟨b, off + j, none⟩ = some u := by
              rcases hpt.2.2 with ⟨_, _, _, h0⟩ | h
              · omega
              · exact h
             simp only [Value.slice.injEq] at hv
             obtain ⟨rfl, _, rfl⟩ := hv
             have c1 := hcells j (.int .i32 n) (by simp [i32s, hn])
             have hji : (j : Int) < (xn : Int) := by omega
             have hxb : xn ≤ 1000 := by
              have h1 := HIN.out.1.t1
              obtain ⟨D1, D2, e⟩ := List.append_of_mem HM.out.2.1
              have h2 := HM.out.2.2.1
              have h3 : (topTps D).length = (topTps D1).length + (xs.length + (topTps D2).length) := by rw [e]; simp [topTps, tpsOf]
              omega
             have hnew := done_new (j := j) (n := n) HIN.out.1.dk HIN.out.1.tn HS.out.2.2.2.2.1 HM.out.1 HM.out.2.1 hn
             have hpK : ((t', n) : TP) ∈ B2.map (·.1) := by
              rw [hBk2]
              exact HK.out.mem_iff.2 (List.mem_flatMap.2 ⟨_, HM.out.2.1, List.mem_map.2 ⟨n, List.mem_of_getElem? hn, rfl⟩⟩)
             obtain ⟨⟨p', vb, ms⟩, hyB, hp'⟩ := List.mem_map.1 hpK
             simp only at hp'
             subst hp'
             obtain rfl : ms = Dn.map (·.name) := (hB2 _ hyB).2 hnew
             obtain ⟨C1, C2, rfl⟩ := List.append_of_mem hyB
             clear hyB hpK
             have hsn := tpsOf_snoc (doneT D (tl.take k)) t' xs j n hn
             generalize hdn : doneT D (tl.take k) ++ tpsOf (t', xs.take j) = done at *
             have hdl : done.length ≤ 100000 := by
              have h1 := congrArg List.length hdn
              have h2 : (doneT D (tl.take k)).length ≤ (doneT D tl).length := by
               have e : doneT D tl = doneT D (tl.take k) ++ doneT D (tl.drop k) := by unfold doneT; rw [← List.flatMap_append, List.take_append_drop]
               rw [e, List.length_append]; omega
              rw [(doneT_perm HIN.out.1.dk HS.out.2.2.2.2.1).length_eq] at h2
              have h3 := HIN.out.1.t1
              simp only [List.length_append, tpsOf_len, List.length_take] at h1
              omega
             have hnl : (Dn.map (·.name)).length ≤ 1000 := by
              have h1 := HL.out.1.length_eq
              have h2 := HIN.out.1.n2
              simp only [List.length_append] at h1
              rw [List.length_map]; omega
             have e0 : rowsT (Pp ++ [(x.name, v2, done)]) = rowsT Pp ++ (.string x.name, v2, done.flatMap encTp) :: [] := by simp [rowsT, rowT]
             unfold Rs.cur at hst7
             rw [e0] at hst7
             have e1 : rowsS (C1 ++ ((t', n), vb, Dn.map (·.name)) :: C2) = rowsS C1 ++ (tpV (t', n), vb, strs (Dn.map (·.name))) :: rowsS C2 := by simp [rowsS, rowS]
             unfold Rs.p2c at hst7
             rw [e1] at hst7
             have hmp := fun o => (show RowsAt (wr.alloc o) isStr rp 384 2 _ from (hst7.alloc o).m 0 rfl).map
             have hin2 : (Value.string x.name, v2) ∈ rawR (rowsT Pp ++ (.string x.name, v2, done.flatMap encTp) :: []) := by rw [rawR_append, rawR_cons]; simp
             have hb1 : ∀ m, (done.flatMap encTp).length = m * 2 → (4 * (m + 1) + 1024) * 24 ≤ 281474976710656 ∧ m + 1 ≤ 281474976710656 := fun m hm => by
              rw [encs_len] at hm; omega
             have hin3 : (tpV (t', n), vb) ∈ rawR (rowsS C1 ++ (tpV (t', n), vb, strs (Dn.map (·.name))) :: rowsS C2) := by rw [rawR_append, rawR_cons]; simp
             have HN := Zhd (Zan hsn (Zan hnew (Zan hB2 (Zan hBk2 (Zan hin2 (Zan hb1 (Zan hin3 (Zan hnl hdn)))))))); clear hsn hnew hB2 hBk2 hn hpt hcells hin2 hb1 hin3 hnl hdl hdn
             go_wp2_with (first
              | (refine wl_lk (kv := .string x.name) (vv := v2) rfl rfl rfl rfl (keyT_str Tryz.underlying9) Tryz.underlying378 (hmp _) HN.out.2.2.2.2.1 ?_)
              | (refine wl_build1 (x := tpV (t', n)) rfl rfl rfl (build_tp (t', n) _) ?_
                 have hst8 := (hst7.blk (.cells #[.string t', .int .i32 n] 384)).alloc (.cells #[.string t', .int .i32 n] 384))
              | (refine wl_rowapp (E := 384) (sz := 2) (v := v2) (kv := .string x.name) 1 rfl rfl rfl rfl elTp rfl rfl (fun _ => rfl) (fun _ => rfl) (fun _ => rfl) (keyT_str Tryz.underlying9) Tryz.underlying378 hst8 rfl ((new_tp _ (t', n)).src Tryz.underlying375) HN.out.2.2.2.2.2.1 ?_
                 intro nv w10 hst9
                 simp only [Zs0, Zs1] at hst9
                 have cb := hst9.cell2 0 rfl
                 obtain ⟨cb0, cb1⟩ := cb)
              | (refine wl_build1 (x := .string x.name) rfl rfl rfl (build_str x.name _) ?_
                 have hst10 := (hst9.made 9 1 1 [.string x.name] rfl (by decide)).front 3 rfl
                 simp only [Ze0, Ze1] at hst10
                 obtain ⟨nb, hst11⟩ := hst10.rowOut
                 have hnb : nb = (Dn.map (·.name)).length := by
                  have h1 := (show World.ownsRow _ 0 9 1 vb nb (strs (Dn.map (·.name))) from hst11.m 1 rfl).1
                  simpa [strs] using h1.symm
                 have hnb2 : nb ≤ 1000 := by rw [hnb]; exact HN.out.2.2.2.2.2.2.2.1
                 clear hnb)
              | (refine wl_ment (kv := tpV (t', n)) (vv := vb) 0 rfl rfl rfl rfl keyT_tp Tryz.underlying382 hst11 rfl HN.out.2.2.2.2.2.2.1 ?_
                 intro st w11 hst12
                 simp only [Zs0, Zs1] at hst12
                 have hsrc := ((own_sl (show w11.ownsRow 0 9 1 (.slice (some ⟨w10.heap.size, 0, none⟩) 1 1) 1 [.string x.name] from hst12.m 3 rfl) (by intro u hu; simp at hu; subst hu; rfl)).src Tryz.underlying27)
                 have hmr : MapAt w11 isTp rk _ := (hst12.m 0 rfl).1)
              | (refine wl_push (v := vb) 1 rfl rfl elStr rfl rfl hst12 rfl hsrc (by omega) (by omega) ?_
                 intro nv2 w12 hst13
                 simp only [Zs0, Zs1] at hst13)
              | (refine wl_estore (vv := nv2) 0 rfl rfl rfl rfl rfl hst13 rfl ?_
                 intro w13 hst14
                 simp only [Zs0, Zs1] at hst14)
              | fail)
             all_goals
              have e2 := rawR_put (v' := nv2) (ys := strs (Dn.map (·.name)) ++ [.string x.name]) hmr
              rw [e2] at hst14
              have h15 := ((St.rowIn hst14).drop 1).drop 1
              simp only [Ze0, Ze1] at h15
              have h16 := h15.front 1 rfl
              simp only [Ze0, Ze1] at h16
              have e3 : rowsT Pp ++ [(.string x.name, nv, done.flatMap encTp ++ [.string t', .int .i32 n])] = rowsT (Pp ++ [(x.name, nv, done ++ [(t', n)])]) := by simp [rowsT, rowT, encTp]
              have e4 : rowsS C1 ++ (tpV (t', n), nv2, strs (Dn.map (·.name)) ++ [.string x.name]) :: rowsS C2 = rowsS (C1 ++ ((t', n), nv2, Dn.map (·.name) ++ [x.name]) :: C2) := by simp [rowsS, rowS, strs]
              rw [e3, e4] at h16
              refine ⟨⟨j + 1, by go_num, by omega, nv, _, ?_, fun y hy => ?_, by rw [← HN.out.1]; exact h16⟩, by simp [intOf]; omega⟩
              · rw [← HN.out.2.2.2.1]; simp
              · rw [← HN.out.1]
                exact pb_step (by have h1 := HK.out.nodup_iff.2 HIN.out.1.tn; rw [← HN.out.2.2.2.1] at h1; simpa using h1) HN.out.2.2.1 y hy
           · obtain rfl : j = xn := by omega
             have e5 : xs.take j = xs := List.take_of_length_le (by rw [HM.out.2.2.1]; exact Nat.le_refl _)
             rw [e5, ← HM.out.2.2.2] at hB2 hst7
             have hfin : PB2 (PBS sp w rk rp Pp x.name (Dn.map (·.name)) K (Rs.cur rc (A ++ E) :: Rs.map rv isTp [] :: MV) [itMd rm Xs (rawMd L1 ++ rawMd L2) it2, Rs.tops rt D]) D tl tn (.int .i64 ((k : Nat) + 1)) wr := ⟨k + 1, by go_num, by omega, v2, B2, hBk2, hB2, hst7⟩
             have HFN := Zhd hfin; clear hfin hB2 hst7
             go_wp2_with fail
             exact ⟨HFN.out, by simp [intOf]; omega⟩
        · obtain rfl : k = tn := by omega
          have e5 : tl.take k = tl := List.take_of_length_le (by rw [HTN.out]; exact Nat.le_refl _)
          rw [e5] at hB' hst6
          have hdp := doneT_perm HIN.out.1.dk HS.out.2.2.2.2.1
          have hB3 : ∀ y ∈ B', y.2.2 = (Dn ++ [x]).map (·.name) := fun y hy => by
           have h1 : y.1 ∈ K := by rw [← hBk']; exact List.mem_map_of_mem hy
           rw [List.map_append]
           exact (hB' y hy).1 (hdp.mem_iff.2 (HK.out.mem_iff.1 h1))
          have hPt' : ∀ y ∈ Pp ++ [(x.name, v, doneT D tl)], y.2.2.Perm (topTps D) := fun y hy => by
           rcases Zap.1 hy with hy | hy
           · exact HL.out.2.2.1 y hy
           · simp only [Zmc, Znn, or_false] at hy
             subst hy; exact hdp
          have e6 : rawMd L1 ++ rawMd L2 = rawMd (L1 ++ L2) := by rw [rawMd_append]
          simp only [e6] at hst6
          have hfin : ∀ (E' : List Rw) (w' : World), (∀ y ∈ E', y.2.2 = [] ∧ y.1 ∈ (Dn ++ [x]).map (·.name)) → (∀ m ∈ (Dn ++ [x]).map (·.name), m ∈ (A ++ E').map (·.1)) →
           St [sp] w w' (Rs.cur rp (Pp ++ [(x.name, v, doneT D tl)]) :: Rs.p2c rk B' :: Rs.cur rc (A ++ E') :: Rs.map rv isTp [] :: MV) [itMd rm Xs (rawMd (L1 ++ L2)) it2, Rs.tops rt D] →
           PB1J MV sp w rm rt rk rp rc rv it2 Xs D K A w' ∧ leftOf w' it2 rm < leftOf wB it2 rm := fun E' w' h1 h2 h3 => by
           refine ⟨⟨Dn ++ [x], L1 ++ L2, _, B', E', perm_step HL.out.1, by rw [List.map_append, List.map_append, HL.out.2.1]; rfl, hPt', hBk', hB3, h1, h2, h3⟩, ?_⟩
           have g1 : IterAt w' it2 rm (rawMd Xs) (rawMd (L1 ++ L2)) := (h3.r 0 rfl).2.1
           have g2 : IterAt wB it2 rm (rawMd Xs) _ := (hst.r 0 rfl).2.1
           rw [g1.leftOf, g2.leftOf, HS.out.1, ← e6]
           simp
          have HFI := Zhd hfin; clear hfin hB3 hPt' hdp hB'
          have hE1 := HL.out.2.2.2.2.2.1
          have hE2 := HL.out.2.2.2.2.2.2
          by_cases hin : x.name ∈ (A ++ E).map (·.1)
          · obtain ⟨⟨m1, v1, p1⟩, hy, e7⟩ := List.mem_map.1 hin
            simp only at e7
            subst e7
            have hlk := cur_in hy
            have hmp : MapAt wr isStr rc (rawR (rowsT (A ++ E))) := (show RowsAt wr isStr rc 384 2 (rowsT (A ++ E)) from hst6.m 2 rfl).map
            have hres := HFI.out E wr (fun y hy => ⟨(hE1 y hy).1, by rw [List.map_append]; exact List.mem_append_left _ (hE1 y hy).2⟩) (fun m hm => by
             rw [List.map_append] at hm
             rcases Zap.1 hm with hm | hm
             · exact hE2 m hm
             · simp only [List.map_cons, List.map_nil, Zmc, Znn, or_false] at hm
               subst hm; exact hin) hst6
            have HRS := Zhd hres; clear hres hE1 hE2 hin hst6
            go_wp2_with (first
             | (refine wl_lk2 (kv := .string x.name) (vv := v1) rfl rfl rfl rfl (keyT_str Tryz.underlying9) Tryz.underlying378 hmp hlk ?_)
             | fail)
            exact HRS.out
          · have hmp : MapAt wr isStr rc (rawR (rowsT (A ++ E))) := (show RowsAt wr isStr rc 384 2 (rowsT (A ++ E)) from hst6.m 2 rfl).map
            have hmiss : ∀ u, (Value.string x.name, u) ∉ rawR (rowsT (A ++ E)) := fun u hu => by
             obtain ⟨y, hy, e⟩ := List.mem_map.1 hu
             rw [Prod.mk.injEq] at e
             exact keysT_string hin (List.mem_map.2 ⟨y, hy, e.1⟩)
            have HE := Zhd (Zan hE1 (Zan hE2 (Zan hin hmiss))); clear hE1 hE2 hin hmiss
            go_wp2_with (first
             | (refine wl_lkN2 (kv := .string x.name) (vv := .slice none 0 0) rfl rfl rfl rfl (keyT_str Tryz.underlying9) Tryz.underlying378 hmp ⟨_, rfl⟩ HE.out.2.2.2 (Tryz.zeroValue375 _) ?_)
             | (refine wl_mkslice 0 rfl rfl rfl rfl elTp hst6 (by omega) (by unfold maxLen; omega) ?_
                intro g2 w8 hst8 hg2)
             | (refine wl_rownew (E := 384) (sz := 2) (n := 0) (xs := []) (kv := .string x.name) (v := .slice (some ⟨g2, 0, none⟩) 0 0) 2 rfl rfl rfl rfl rfl (keyT_str Tryz.underlying9) Tryz.underlying378 ⟨_, rfl⟩ hst8 rfl (keysT_string HE.out.2.2.1) ?_
                intro w9 hst9
                simp only [Zs0, Zs1] at hst9)
             | fail)
            have e8 : rowsT (A ++ E) ++ [(.string x.name, .slice (some ⟨g2, 0, none⟩) 0 0, [])] = rowsT (A ++ (E ++ [(x.name, .slice (some ⟨g2, 0, none⟩) 0 0, [])])) := by simp [rowsT, rowT]
            rw [e8] at hst9
            refine HFI.out _ w9 (fun y hy => ?_) (fun m hm => ?_) hst9
            · rcases Zap.1 hy with hy | hy
              · exact ⟨(HE.out.1 y hy).1, by rw [List.map_append]; exact List.mem_append_left _ (HE.out.1 y hy).2⟩
              · simp only [Zmc, Znn, or_false] at hy
                subst hy; exact ⟨rfl, by simp⟩
            · rw [List.map_append] at hm
              rcases Zap.1 hm with hm | hm
              · have h1 := HE.out.2.1 m hm
                rw [List.map_append] at h1 ⊢
                rcases Zap.1 h1 with h1 | h1
                · exact List.mem_append_left _ h1
                · exact List.mem_append_right _ (by rw [List.map_append]; exact List.mem_append_left _ h1)
              · simp only [List.map_cons, List.map_nil, Zmc, Znn, or_false] at hm
                subst hm; simp
  · obtain ⟨wB, rfl⟩ : ∃ wB, wB = wr := ⟨_, rfl⟩
    have HL := Zhd (Zan hperm (Zan hB hBe)); clear hperm hB hBe H10
    go_wp2_with (first
     | (refine wl_nx1R 1 (tops_foot rt D) rfl rfl rfl hst rfl hlf HFIT.out ?_
        intro k v l1 l2 w3 hsp hst2 hent
        simp only [Zs0, Zs1] at hst2
        obtain ⟨L1, x, L2, rfl, rfl, rfl, rfl, rfl⟩ := rawT_split hsp
        obtain ⟨top, xv, xs⟩ := x
        have hxT : (top, xv, xs) ∈ D := HL.out.1.mem_iff.1 (by simp)
        obtain ⟨⟨xa, xc, hxv⟩, hxs, _⟩ := (show TopsAt w3 rt D from (hst2.r 1 rfl).1).parts _ hxT
        simp only at hxv hxs
        subst hxv
        obtain ⟨xn, hxn⟩ : ∃ xn, xs.length = xn := ⟨_, rfl⟩
        rw [hxn] at hxs hent
        have HS := Zhd (Zan hsp (Zan hxT hxn)); clear hsp hxT hxs)
     | (refine wl_entry rfl rfl rfl hent ?_)
     | fail)
    have h20 : PA2 sp w rk (topTps Dn) top xs xn (Rs.cur rc A :: Rs.map rv isTp [] :: MV) [Rs.map rm isStr (rawMd Xs), itTops rt D (rawT L1 ++ rawT L2) it] (.int .i64 0) w3 := ⟨0, B, rfl, Nat.zero_le _, by simpa [tpsOf] using HL.out.2.1, HL.out.2.2, hst2⟩
    have H20 := Zhd h20; clear h20 hst2 hent
    go_loopw [80] (fun i wr => PA2 sp w rk (topTps Dn) top xs xn (Rs.cur rc A :: Rs.map rv isTp [] :: MV) [Rs.map rm isStr (rawMd Xs), itTops rt D (rawT L1 ++ rawT L2) it] i wr) (fun i _ => xn - (intOf i).toNat)
    case atStart => exact H20.out
    case round =>
     obtain ⟨k, B', rfl, hk, hB', hBe', hst3⟩ := hrel
     clear H20
     by_cases hkn : k < xn
     · obtain ⟨n, hn⟩ : ∃ n, xs[k]? = some n := ⟨_, List.getElem?_eq_getElem (by rw [HS.out.2.2]; exact hkn)⟩
       have hpt := ((show TopsAt wr rt D from (hst3.r 1 rfl).1).parts _ HS.out.2.1).2.1
       simp only [HS.out.2.2] at hpt
       obtain ⟨b, off, cap, hv, hcells⟩ : ∃ b off cap, Value.slice xa xn xc = .slice (some ⟨b, off, none⟩) xn cap ∧ ∀ j u, (i32s xs)[j]? = some u → wr.cell? ⟨b, off + j, none⟩ = some u := by
        rcases hpt.2.2 with ⟨_, _, _, h0⟩ | h
        · omega
        · exact h
       simp only [Value.slice.injEq] at hv
       obtain ⟨rfl, _, rfl⟩ := hv
       have c1 := hcells k (.int .i32 n) (by simp [i32s, hn])
       have hki : (k : Int) < (xn : Int) := by omega
       have hxb : xn ≤ 1000 := by
        have h1 := HIN.out.1.t1
        obtain ⟨D1, D2, e⟩ := List.append_of_mem HS.out.2.1
        have h2 := HS.out.2.2
        have h3 : (topTps D).length = (topTps D1).length + (xs.length + (topTps D2).length) := by rw [e]; simp [topTps, tpsOf]
        omega
       have hnew : (tpV (top, n)) ∉ (rowsS B').map (·.1) := rowsS_keys (fun h => tops_new HIN.out.1.tn HL.out.1 hn (hB'.mem_iff.1 h))
       have hsn := tpsOf_snoc (topTps Dn) top xs k n hn
       have hmd0 := hst3.made 9 1 0 [] rfl (by decide)
       have HN := Zhd (Zan hnew (Zan hsn (Zan hB' hBe'))); clear hnew hsn hB' hBe' hn hpt hcells
       go_wp2_with (first
        | (refine wl_rownew (E := 9) (sz := 1) (n := 0) (xs := []) (kv := tpV (top, n)) (v := .slice (some ⟨wr.heap.size, 0, none⟩) 0 0) 0 rfl rfl rfl rfl rfl keyT_tp Tryz.underlying382 ⟨_, _, rfl⟩ hmd0 rfl HN.out.1 ?_
           intro w7 hst7
           simp only [Zs0] at hst7)
        | fail)
       have e1 : rowsS B' ++ [(tpV (top, n), .slice (some ⟨wr.heap.size, 0, none⟩) 0 0, [])] = rowsS (B' ++ [((top, n), .slice (some ⟨wr.heap.size, 0, none⟩) 0 0, [])]) := by simp [rowsS, rowS, strs]
       rw [e1] at hst7
       refine ⟨⟨k + 1, _, by go_num, by omega, ?_, ?_, hst7⟩, by simp [intOf]; omega⟩
       · rw [← HN.out.2.1, List.map_append]
         exact HN.out.2.2.1.append_right _
       · intro x hx
         rcases Zap.1 hx with hx | hx
         · exact HN.out.2.2.2 x hx
         · simp only [Zmc, Znn, or_false] at hx; subst hx; rfl
     · obtain rfl : k = xn := by omega
       rw [List.take_of_length_le (by rw [HS.out.2.2]; exact Nat.le_refl _)] at hB'
       have e : rawT L1 ++ rawT L2 = rawT (L1 ++ L2) := by rw [rawT_append]
       rw [e] at hst3
       have hps2 : topTps Dn ++ tpsOf (top, xs) = topTps (Dn ++ [(top, .slice xa k xc, xs)]) := by rw [topTps_append]; simp [topTps]
       rw [hps2] at hB'
       have h1 : IterAt wr it rt (rawT D) (rawT (L1 ++ L2)) := (hst3.r 1 rfl).2.1
       have h2 : IterAt wB it rt (rawT D) _ := (hst.r 1 rfl).2.1
       have hle : leftOf wr it rt < leftOf wB it rt := by
        rw [h1.leftOf, h2.leftOf, HS.out.1, ← e]
        simp
       have hfin : PA1 sp w rk it rt D (Rs.cur rc A :: Rs.map rv isTp [] :: MV) (Rs.map rm isStr (rawMd Xs)) wr := ⟨Dn ++ [(top, .slice xa k xc, xs)], L1 ++ L2, B', by
        have h5 := HL.out.1
        rw [HS.out.2.2] at h5
        exact perm_step h5, hB', hBe', hst3⟩
       have HFN := Zhd (Zan hfin hle); clear hfin hle h1 h2 hst3 hB' hBe'
       go_wp2_with fail
       exact HFN.out
end
end Go.Proofs.YticcnlpfmekagaaGreat
