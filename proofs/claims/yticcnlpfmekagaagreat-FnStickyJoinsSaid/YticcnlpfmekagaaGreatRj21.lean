/- Part 21 of the proof of the row: DecV, Ud, UdB. -/
import Derived.Test.YticcnlpfmekagaaGreatRj00
import Derived.Test.YticcnlpfmekagaaGreatRj20
set_option linter.unusedVariables false
set_option linter.unusedSimpArgs false
set_option maxRecDepth 100000
set_option maxHeartbeats 8000000
namespace Go.Proofs.YticcnlpfmekagaaGreat
section
open Go Go.Proofs Go.RowKit
def v1Bytes (D : List (ByteArray × List Int)) (gen : Int) : List Value := be32 D.length ++ D.flatMap encTP ++ be32 (gen % 4294967296)
def V1At (w : World) (lo m : Nat) (D : List (ByteArray × List Int)) (gen : Int) : Prop :=
 ∃ (r : Nat) (v : Value) (N : Nat) (ps : List TP), w.heap[m]? = some (.cells #[.map (some r), .int .i32 gen, v] 377 (0, 0)) ∧ ps.length = N ∧ ps.Perm (D.flatMap tpsOf) ∧ w.ownsRow 0 384 2 v N (ps.flatMap encTp) ∧ (∀ y, v.ownBlock = some y → lo ≤ y ∧ y < w.heap.size)
theorem topTps_tops2 (T : Tops) : topTps T = (tops2 T).flatMap tpsOf := by simp [topTps, tops2, List.flatMap_map]
theorem v1_decode (b g off cap m : Nat) (gen : Int) (D : List (ByteArray × List Int)) (w : World) (hd : Dec w b g off cap (v1Bytes D gen) 0)
 (hm : w.heap[m]? = some (.cells #[.map none, .int .i32 0, .slice none 0 0] 377 (0, 0))) (hmb : m ≠ b) (hmg : m ≠ g) (hgen : isI32 gen) (hnd : (D.map (·.1)).Nodup) (hD : ∀ x ∈ D, TPOk x) (hDl : D.length ≤ 1000000) (htot : (D.flatMap tpsOf).length ≤ 100000) (hgw : g < w.heap.size) :
 Calls Tryz.prog 406 #[.pointer (some ⟨m, 0, none⟩), .iface 215 (.pointer (some ⟨b, 0, none⟩))] w fun e w' => e = .returned .nilIface ∧ V1At w' w.heap.size m D gen ∧ Dec w' b g off cap (v1Bytes D gen) (v1Bytes D gen).length ∧ Kept [b, m] w w' := by
 have hmt2 := rdArr.m
 have hnl2 := rdArr.n
 have hcf2 := rdArr.c
 have hmt3 := rdStr.m
 have hnl3 := rdStr.n
 have hcf3 := rdStr.c
 have hmt4 := rdInts.m
 have hnl4 := rdInts.n
 have hcf4 := rdInts.c
 have hmt5 := rdI32.m
 have hnl5 := rdI32.n
 have hcf5 := rdI32.c
 have hmk : ∀ w : World, (Instr.makeMap 90 (some (.int .i64 D.length))).run Tryz.prog w = .ok (.map (some w.heap.size)) (w.alloc (.map #[] 0)) := fun w => by simp [Instr.makeMap, go_sem]
 have e2 : v1Bytes D gen = [] ++ be32 D.length ++ (D.flatMap encTP ++ be32 (gen % 4294967296)) := by simp [v1Bytes]
 have e5 : v1Bytes D gen = be32 D.length ++ D.flatMap encTP ++ be32 (gen % 4294967296) ++ [] := by simp [v1Bytes]
 have hes : ∀ j x, D[j]? = some x → v1Bytes D gen = (be32 D.length ++ (D.take j).flatMap encTP) ++ encStr x.1 ++ (encInts x.2 ++ ((D.drop (j + 1)).flatMap encTP ++ be32 (gen % 4294967296))) ∧
  v1Bytes D gen = (be32 D.length ++ (D.take j).flatMap encTP ++ encStr x.1) ++ encInts x.2 ++ ((D.drop (j + 1)).flatMap encTP ++ be32 (gen % 4294967296)) := fun j x hj => by
  have h1 := (flat_split D j x hj).1
  constructor
  · unfold v1Bytes; rw [h1]; simp [encTP]
  · unfold v1Bytes; rw [h1]; simp [encTP]
 generalize hcs : v1Bytes D gen = cs at *
 have hlen : cs.length = (be32 (D.length : Int) ++ D.flatMap encTP ++ be32 (gen % 4294967296)).length := by rw [e5, List.append_nil]
 have h2 := at_arr (w := w) (b := b) (g := g) (off := off) (cap := cap) D.length (by rw [List.length_append]; have := encTPs_ge D; omega) (by omega) e2 hd
 rw [List.nil_append] at h2
 have H2 := Zhd h2; clear h2
 have h3 := fun (w1 : World) (j : Nat) (x : ByteArray × List Int) (hj : D[j]? = some x) (h : Dec w1 b g off cap cs (be32 (D.length : Int) ++ (D.take j).flatMap encTP).length) => at_str x.1 (hD x (List.mem_of_getElem? hj)).top (hes j x hj).1 h
 have H3 := Zhd h3; clear h3
 have h4 := fun (w1 : World) (j : Nat) (x : ByteArray × List Int) (hj : D[j]? = some x) (hgw : g < w1.heap.size) (h : Dec w1 b g off cap cs (be32 (D.length : Int) ++ (D.take j).flatMap encTP ++ encStr x.1).length) =>
  at_ints x.2 (hD x (List.mem_of_getElem? hj)).i32 (by have := (hD x (List.mem_of_getElem? hj)).len; omega) hgw (hes j x hj).2 h
 have H4 := Zhd h4; clear h4
 have h5 := fun (w1 : World) (h : Dec w1 b g off cap cs (be32 (D.length : Int) ++ D.flatMap encTP).length) => at_i32 gen hgen e5 h
 have H5 := Zhd h5; clear h5
 have HLEN := Zhd hlen; clear hlen
 have HND := Zhd (Zan hnd htot); clear hnd htot
 clear e2 e5 hes hcs
 obtain ⟨hc0, hz0⟩ := cells_of hm
 have HM := Zhd hm; clear hm
 have hbw := hd.lt
 have hmw := lt_of_heap HM.out
 clear hd hD
 generalize hDn : D.length = n at *
 have HDN := Zhd hDn; clear hDn
 go_enter Tryz.func406, Tryz.ntmps406
 go_wp2_with (first
  | (go_at_call 335
     refine H2.out.mono ?_
     rintro e w2 ⟨rfl, hd2, hk2⟩
     have hm2 := hk2.heap HM.out (by simpa using hmb)
     have hkw2 : Kept [b, m] w w2 := hk2.mono (by simp)
     have hm2a : (w2.alloc (.map #[] 0)).heap[m]? = some (.cells #[.map none, .int .i32 0, .slice none 0 0] 377 (0, 0)) := ha hm2
     obtain ⟨hc2, hz2⟩ := cells_of hm2a
     have q1 := hc2 0 _ rfl
     have y1 := hz2 0
     have HD2 := Zhd (Zan hd2 (Zan hkw2 hm2)); clear hd2 hm2 hm2a hc2 hz2 hk2 hkw2)
  | fail)
 have hr2 := HD2.out.2.1.size
 have hmr : m ≠ w2.heap.size := by omega
 have hbr : b ≠ w2.heap.size := by omega
 have hgr : g ≠ w2.heap.size := by omega
 have hw3 : ∀ W : World, W = (w2.alloc (.map #[] 0)).setCell ⟨m, 0, none⟩ (.map (some w2.heap.size)) → Dec W b g off cap cs (be32 (n : Int)).length ∧ W.heap[m]? = some (.cells #[.map (some w2.heap.size), .int .i32 0, .slice none 0 0] 377 (0, 0)) ∧ TopsAt W w2.heap.size [] ∧ Kept [b, m] w W ∧ w2.heap.size < W.heap.size := by
  intro W e
  subst e
  have hka : Kept [m] w2 ((w2.alloc (.map #[] 0)).setCell ⟨m, 0, none⟩ (.map (some w2.heap.size))) := ((Kept.refl _ _).alloc _).setCell _ (by simp)
  refine ⟨HD2.out.1.kept hka (by simpa using hmb.symm) (by simpa using hmg.symm), ?_, ⟨(MapAt.new w2 isStr).setCell _ _ (by simpa using hmr.symm), by simp⟩, HD2.out.2.1.trans hka (fun _ h => h) (by simp), by simp⟩
  simpa using row_set (ha HD2.out.2.2 : (w2.alloc (.map #[] 0)).heap[m]? = _) 0 (.map (some w2.heap.size))
 have HW3 := Zhd (hw3 _ rfl); clear hw3
 generalize w2.heap.size = r at *
 go_loopw [6] (fun i wr => ∃ (j : Nat) (T : Tops), j ≤ n ∧ i = .int .i64 j ∧ Dec wr b g off cap cs (be32 (n : Int) ++ (D.take j).flatMap encTP).length ∧ wr.heap[m]? = some (.cells #[.map (some r), .int .i32 0, .slice none 0 0] 377 (0, 0)) ∧ TopsAt wr r T ∧ tops2 T = D.take j ∧
  (∀ x ∈ T, ∀ y, x.2.1.ownBlock = some y → w.heap.size ≤ y ∧ y < wr.heap.size ∧ y ≠ r) ∧ Kept [b, m] w wr ∧ r < wr.heap.size) (fun i _ => n - (intOf i).toNat)
 case atStart => exact ⟨0, [], Nat.zero_le _, rfl, by simpa using HW3.out.1, HW3.out.2.1, HW3.out.2.2.1, by simp [tops2], by simp, HW3.out.2.2.2.1, HW3.out.2.2.2.2⟩
 case round =>
  obtain ⟨j, T, hj, rfl, hd, hmr', hT, hTD, hfr, hkr, hrl⟩ := hrel
  by_cases hjn : j < n
  · obtain ⟨x, hx⟩ : ∃ x, D[j]? = some x := ⟨_, List.getElem?_eq_getElem (by have := HDN.out; omega)⟩
    have hcs := H3.out wr j x hx hd
    have HCS := Zhd hcs; clear hcs
    have hsl := (flat_split D j x hx).2
    have hmiss : ∀ u, (Value.string x.1, u) ∉ rawT T := by
     intro u hu
     unfold rawT at hu
     obtain ⟨y, hy, hye⟩ := List.mem_map.1 hu
     have hyt : y.1 = x.1 := by simpa using (Prod.mk.inj hye).1
     have hmem : (y.1, y.2.2) ∈ D.take j := by rw [← hTD]; exact List.mem_map_of_mem (f := fun x : ByteArray × Value × List Int => (x.1, x.2.2)) hy
     obtain ⟨hk', hx'⟩ := List.getElem?_eq_some_iff.1 hx
     have hsp : D.map (·.1) = (D.take j).map (·.1) ++ x.1 :: (D.drop (j + 1)).map (·.1) := by
      conv => lhs; rw [← List.take_append_drop j D, List.drop_eq_getElem_cons hk', hx']
      simp
     have hn := HND.out.1
     rw [hsp] at hn
     exact (List.nodup_append.1 hn).2.2 _ (List.mem_map.2 ⟨_, hmem, hyt⟩) _ (by simp) rfl
    have HI := Zhd (Zan hx (Zan hsl (Zan hmiss (Zan hT (Zan hTD (Zan hfr (Zan hkr hmr'))))))); clear hx hsl hmiss hT hTD hfr hkr hmr' hd
    have hgw' : g < wr.heap.size := by omega
    go_upto_region 11 with (first
     | (go_at_call 342
        refine HCS.out.mono ?_
        rintro e w4 ⟨rfl, hd4, hk4⟩
        have hs4 := hk4.size
        have hm4 := hk4.heap HI.out.2.2.2.2.2.2.2 (by simpa using hmb)
        have hci := H4.out w4.drew j x HI.out.1 (by simp; omega) (hd4.kept (Kept.refl [] _).drew (by simp) (by simp))
        have hS : ∀ w', Kept [b, r] w4 w' → w'.cell? ⟨m, 0, none⟩ = some (.map (some r)) := fun w' kk => kk.cell ((cells_of hm4).1 0 _ rfl) (by simp; omega)
        have hT4 := HI.out.2.2.2.1.kept hk4 (by simpa using hbr.symm) (fun y hy q hq => by have := HI.out.2.2.2.2.2.1 y hy q hq; simp; omega)
        have HS := Zhd hS; clear hS
        have HCI := Zhd hci; clear hci
        have H44 := Zhd (Zan hd4 (Zan hk4 (Zan hm4 hT4))); clear hd4 hk4 hm4 hT4)
     | fail)
    go_region_held3 (fun w' => w'.cell? ⟨m, 0, none⟩ = some (.map (some r)))
     (first | with_reducible exact HS.out _ (Kept.refl _ _).drew | with_reducible exact HS.out _ hk5' | with_reducible exact HS.out _ hk6' | fail)
     (first
       | (go_at_call 340
          refine HCI.out.mono ?_
          rintro e w5 ⟨R, ⟨rfl, hd5, hk5⟩, hsi5, hR5, hRl⟩
          have hk5' : Kept [b, r] w4 w5 := hk5.of_drew.mono (by simp)
          have hT5 := H44.out.2.2.2.kept hk5.of_drew (by simpa using hbr.symm) (fun y hy q hq => by have := HI.out.2.2.2.2.2.1 y hy q hq; simp; omega)
          have HT5 := Zhd (Zan hT5 (Zan hd5 (Zan hk5.of_drew (Zan hsi5 hR5)))); clear hT5 hd5 hk5 hsi5)
       | (refine up_update (fun _ _ => rfl) (keyT_str Tryz.underlying9) Tryz.underlying90 HT5.out.1.map ⟨_, rfl⟩ ?_
          intro w6 hm6 hk6 hs6
          have hk6' : Kept [b, r] w4 w6 := hk5'.trans hk6 (fun _ h => h) (by simp))
       | fail)
    have hend : Dec w6 b g off cap cs (be32 (n : Int) ++ (D.take (j + 1)).flatMap encTP).length ∧ w6.heap[m]? = some (.cells #[.map (some r), .int .i32 0, .slice none 0 0] 377 (0, 0)) ∧ TopsAt w6 r (T ++ [(x.1, .slice (some ⟨R, 0, none⟩) x.2.length x.2.length, x.2)]) ∧
     tops2 (T ++ [(x.1, .slice (some ⟨R, 0, none⟩) x.2.length x.2.length, x.2)]) = D.take (j + 1) ∧ (∀ z ∈ T ++ [(x.1, .slice (some ⟨R, 0, none⟩) x.2.length x.2.length, x.2)], ∀ y, z.2.1.ownBlock = some y → w.heap.size ≤ y ∧ y < w6.heap.size ∧ y ≠ r) ∧ Kept [b, m] w w6 ∧ r < w6.heap.size := by
     obtain ⟨hx, hsl, hmiss, hT, hTD, hfr, hkr, hmr'⟩ := HI.out
     obtain ⟨hd4, hk4, hm4, hT4⟩ := H44.out
     obtain ⟨hT5, hd5, hk5, hsi5, hR5⟩ := HT5.out
     have hs5 := hk5.size
     have hsr := hkr.size
     have hk46 : Kept [b, r] wr w6 := (hk4.mono (T := [b, r]) (by simp)).trans hk6' (fun _ h => h) (fun _ h _ => h)
     refine ⟨?_, ?_, ⟨?_, ?_⟩, ?_, ?_, ?_, by omega⟩
     · have := hd5.kept hk6 (by simpa using hbr) (by simpa using hgr)
       rw [hsl]
       simpa [encTP, List.append_assoc, Nat.add_assoc] using this
     · exact hk6'.heap hm4 (by simp; omega)
     · rw [putE_miss hmiss] at hm6
       simpa [rawT] using hm6
     · intro z hz
       rcases Zap.1 hz with hz | hz
       · exact (hT5.parts z hz).kept hk6 (fun y hy => by have := hfr z hz y hy; simp; omega)
       · simp only [Zmc, Znn, or_false] at hz
         subst hz
         exact hsi5.kept hk6 (fun y hy => by simp [Value.ownBlock] at hy; simp at hR5 ⊢; omega)
     · obtain ⟨h1, h2⟩ := List.getElem?_eq_some_iff.1 hx
       rw [List.take_succ_eq_append_getElem h1, h2, ← hTD]
       simp [tops2]
     · intro z hz y hy
       rcases Zap.1 hz with hz | hz
       · have := hfr z hz y hy; exact ⟨this.1, by omega, this.2.2⟩
       · simp only [Zmc, Znn, or_false] at hz
         subst hz
         simp [Value.ownBlock] at hy
         simp at hR5
         omega
     · exact hkr.trans hk46 (fun _ h => h) (fun y hy hl => by simp at hy; rcases hy with rfl | rfl; exact List.mem_cons_self ..; exfalso; omega)
    have HEND := Zhd hend; clear hend
    go_wp2
    go_roundw
    case rel => exact ⟨j + 1, _, by omega, by go_num, HEND.out⟩
    case measure => simp [intOf]; omega
  · obtain rfl : j = n := by omega
    rw [List.take_of_length_le (by have := HDN.out; omega)] at hd hTD
    have h5 := H5.out wr hd
    have H5' := Zhd h5; clear h5
    have HI := Zhd (Zan hT (Zan hTD (Zan hfr (Zan hkr hmr')))); clear hT hTD hfr hkr hmr' hd
    have hpl : ∀ w1, TopsAt w1 r T → r < w1.heap.size → (∀ x ∈ T, ∀ y, x.2.1.ownBlock = some y → y < w1.heap.size) → Calls Tryz.prog 411 #[.map (some r)] w1 (PopPost w1 T) := fun w1 h1 h2 h3 =>
     populate_any r T w1 (Ow.one h1 (fun y hy => by
      simp only [Rs.tops, Zmc, List.mem_flatMap] at hy
      rcases hy with rfl | ⟨x, hx, hy⟩
      · exact h2
      · exact h3 x hx y (by simpa using hy))) (by rw [topTps_tops2, HI.out.2.1]; exact HND.out.2)
    have HPL := Zhd hpl; clear hpl
    go_wp2_with (first
     | (go_at_call 339
        refine H5'.out.mono ?_
        rintro e w4 ⟨rfl, hd4, hk4⟩
        have hm4 := hk4.heap HI.out.2.2.2.2 (by simpa using hmb)
        obtain ⟨hc4, hz4⟩ := cells_of hm4
        have q2 := hc4 1 _ rfl
        have y2 := hz4 1
        have hks : Kept [m] w4 (w4.setCell ⟨m, 1, none⟩ (.int .i32 gen)) := (Kept.refl _ _).setCell _ (by simp)
        have hms : (w4.setCell ⟨m, 1, none⟩ (.int .i32 gen)).heap[m]? = some (.cells #[.map (some r), .int .i32 gen, .slice none 0 0] 377 (0, 0)) := by simpa using row_set hm4 1 (.int .i32 gen)
        have hTs := (HI.out.1.kept hk4 (by simpa using hbr.symm) (fun y hy q hq => by have := HI.out.2.2.1 y hy q hq; simp; omega)).kept hks (by simp; omega) (fun y hy q hq => by have := HI.out.2.2.1 y hy q hq; simp; omega)
        have c0s := (cells_of hms).1 0 _ rfl
        have hs4 := hk4.size
        have HE := Zhd (Zan hd4 (Zan hk4 (Zan hks (Zan hms hTs)))); clear hd4 hk4 hm4 hc4 hz4 hks hms hTs)
     | (go_at_call 411
        refine (HPL.out _ HE.out.2.2.2.2 (by simp; omega) (fun x hx y hy => by have := HI.out.2.2.1 x hx y hy; simp; omega)).mono ?_
        rintro e w5 ⟨v, N, ps, rfl, hpn, hpp, hst5⟩
        have hm5 := hst5.kept.heap HE.out.2.2.2.1 (by simp)
        have q3 := (cells_of hm5).1 2 _ rfl
        have y3 := (cells_of hm5).2 2
        obtain ⟨va, vn, vc, rfl⟩ := own_form (hst5.m 0 rfl)
        have HV := Zhd (Zan hpn (Zan hpp (Zan hst5 hm5))); clear hpn hpp hst5 hm5)
     | fail)
    go_ret
    obtain ⟨hd4, hk4, hks, hms, hTs⟩ := HE.out
    obtain ⟨hpn, hpp, hst5, hm5⟩ := HV.out
    obtain ⟨hT, hTD, hfr, hkr, hmr'⟩ := HI.out
    have hkm : Kept [m] w5 (w5.setCell ⟨m, 2, none⟩ (.slice va vn vc)) := (Kept.refl _ _).setCell _ (by simp)
    have hwr := hkr.size
    have hyf : ∀ y, (Value.slice va vn vc).ownBlock = some y → w4.heap.size ≤ y ∧ y < w5.heap.size := fun y hy => by
     have h1 := hst5.turn y (by simp [foots, Rs.row, hy])
     have h2 := hst5.lt 0 rfl y (by simp [Rs.row, hy])
     rcases h1 with h1 | h1
     · simp at h1
     · simp only [World.size_setCell] at h1; exact ⟨h1, h2⟩
    have hk45 : Kept [m] w4 w5 := hks.trans hst5.kept (fun _ h => h) (by simp)
    refine ⟨rfl, ⟨r, _, N, ps, by simpa using row_set hm5 2 (.slice va vn vc), hpn, hpp.trans (by rw [topTps_tops2, hTD]), own_kept (hst5.m 0 rfl) hkm (fun y hy => by have := hyf y hy; simp; omega), fun y hy => by have := hyf y hy; simp; omega⟩, ?_, ((hkr.trans hk4 (fun _ h => h) (by simp)).trans hk45 (fun _ h => h) (by simp)).trans hkm (fun _ h => h) (by simp)⟩
    have := (hd4.kept hk45 (by simpa using hmb.symm) (by simpa using hmg.symm)).kept hkm (by simpa using hmb.symm) (by simpa using hmg.symm)
    rw [HLEN.out]
    exact this
end
section
open Go Go.Proofs Go.RowKit
def UdAt (w : World) (lo m : Nat) (parts : List TP) (gen : Int) : Prop :=
 ∃ (mv v : Value) (N : Nat) (ps : List TP), w.heap[m]? = some (.cells #[mv, .int .i32 gen, v] 377 (0, 0)) ∧ ps.length = N ∧ ps.Perm parts ∧ w.ownsRow 0 384 2 v N (ps.flatMap encTp) ∧ (∀ y, v.ownBlock = some y → lo ≤ y ∧ y < w.heap.size)
theorem V1At.ud {w : World} {lo m : Nat} {D : List (ByteArray × List Int)} {gen : Int} (h : V1At w lo m D gen) : UdAt w lo m (D.flatMap tpsOf) gen := by
 obtain ⟨r, v, N, ps, h1, h2⟩ := h
 exact ⟨_, v, N, ps, h1, h2⟩
theorem v1Meth : IsMeth 374 "pub-kestrel/pub/sarama.decode" 406 := ⟨fun _ _ => by kernel_rfl, fun _ _ => by kernel_rfl, fun _ _ => by kernel_rfl⟩
theorem udParts : IsMeth 374 "pub-kestrel/pub/sarama.partitions" 410 := ⟨fun _ _ => by kernel_rfl, fun _ _ => by kernel_rfl, fun _ _ => by kernel_rfl⟩
theorem udHas : IsMeth 374 "pub-kestrel/pub/sarama.hasGeneration" 409 := ⟨fun _ _ => by kernel_rfl, fun _ _ => by kernel_rfl, fun _ _ => by kernel_rfl⟩
theorem udGen : IsMeth 374 "pub-kestrel/pub/sarama.generation" 408 := ⟨fun _ _ => by kernel_rfl, fun _ _ => by kernel_rfl, fun _ _ => by kernel_rfl⟩
theorem v1Bytes_u8 (D : List (ByteArray × List Int)) (gen : Int) (hD : ∀ x ∈ D, TPOk x) (hDl : D.length ≤ 1000000) : U8L (v1Bytes D gen) :=
 ((be32_u8 _ (by omega) (by omega)).app (U8L.flat fun x hx => (encStr_u8 _ (hD x hx).top).app (encInts_u8 _ (hD x hx).len))).app (be32_u8 _ (by omega) (by omega))
theorem deser_v1 (g off cap : Nat) (D : List (ByteArray × List Int)) (gen : Int) (w : World) (hsl : SlAt w 1 (.slice (some ⟨g, off, none⟩) (v1Bytes D gen).length cap) (v1Bytes D gen).length (v1Bytes D gen)) (hgw : g < w.heap.size) (hcap : (v1Bytes D gen).length ≤ cap) (hsm : (v1Bytes D gen).length ≤ 1000000000)
 (hgen : isI32 gen) (hnd : (D.map (·.1)).Nodup) (hD : ∀ x ∈ D, TPOk x) (hDl : D.length ≤ 1000000) (htot : (D.flatMap tpsOf).length ≤ 100000) :
 Calls Tryz.prog 260 #[.slice (some ⟨g, off, none⟩) (v1Bytes D gen).length cap] w fun e w' => e = .returned (.tuple #[.iface 374 (.pointer (some ⟨w.heap.size, 0, none⟩)), .nilIface]) ∧ UdAt w' w.heap.size w.heap.size (D.flatMap tpsOf) gen ∧ Kept [] w w' := by
 have hu8 := v1Bytes_u8 D gen hD hDl
 have hk0 : Kept [] w (w.alloc (.cells #[.map none, .int .i32 0, .slice none 0 0] 377)) := (Kept.refl _ _).alloc _
 have hm0 : (w.alloc (.cells #[.map none, .int .i32 0, .slice none 0 0] 377)).heap[w.heap.size]? = some (.cells #[.map none, .int .i32 0, .slice none 0 0] 377 (0, 0)) := heap_alloc_new w _
 have hdc := decode_any 374 406 v1Meth w.heap.size g off cap (v1Bytes D gen) (w.alloc (.cells #[.map none, .int .i32 0, .slice none 0 0] 377)) (fun w' => V1At w' w.heap.size w.heap.size D gen) (hsl.kept hk0 (by simp)) hu8 (by simp; omega) hcap hsm (by
  intro w1 hk1 hl1 hd1
  have hm1 := hk1.heap hm0 (by simp)
  have hs1 := hk1.size
  simp only [World.size_alloc] at hs1 hl1
  refine (v1_decode _ g off cap w.heap.size gen D w1 hd1 hm1 (by simp) (by omega) hgen hnd hD hDl htot (by omega)).mono ?_
  rintro e w' ⟨rfl, h1, h2, h3⟩
  obtain ⟨r, v, N, ps, q1, q2, q3, q4, q5⟩ := h1
  exact ⟨rfl, h2, ⟨r, v, N, ps, q1, q2, q3, q4, fun y hy => by have := q5 y hy; omega⟩, h3⟩)
 have HD := Zhd hdc; clear hdc
 clear hm0 hu8 hsl
 generalize (v1Bytes D gen).length = N at *
 go_enter Tryz.func260, Tryz.ntmps260
 go_wp2_with (first
  | (go_at_call 82
     refine HD.out.mono ?_
     rintro e w2 ⟨rfl, hpost, hk2⟩
     have HP := Zhd (Zan hpost hk2); clear hpost hk2)
  | fail)
 go_ret2
 exact ⟨rfl, HP.out.1.ud, (hk0.trans HP.out.2 (by simp) (by simp))⟩
theorem decode_nil (T : TypeId) (a : Addr) (w : World) : Calls Tryz.prog 82 #[.slice none 0 0, .iface T (.pointer (some a))] w fun e w' => e = .returned .nilIface ∧ w' = w := by
 have hnil := fun w => Lib.run_eql_slice_nil (P := Tryz.prog) w 28 5 none 0 0 0 0 Tryz.underlying28
 go_enter Tryz.func82, Tryz.ntmps82
 go_wp2
 go_ret
 exact ⟨rfl, rfl⟩
theorem deser_nil (w : World) : Calls Tryz.prog 260 #[.slice none 0 0] w fun e w' => e = .returned (.tuple #[.iface 374 (.pointer (some ⟨w.heap.size, 0, none⟩)), .nilIface]) ∧ UdAt w' w.heap.size w.heap.size [] 0 ∧ Kept [] w w' := by
 have hk0 : Kept [] w (w.alloc (.cells #[.map none, .int .i32 0, .slice none 0 0] 377)) := (Kept.refl _ _).alloc _
 have hm0 : (w.alloc (.cells #[.map none, .int .i32 0, .slice none 0 0] 377)).heap[w.heap.size]? = some (.cells #[.map none, .int .i32 0, .slice none 0 0] 377 (0, 0)) := heap_alloc_new w _
 go_enter Tryz.func260, Tryz.ntmps260
 go_wp2_with (first
  | (go_at_call 82
     refine (decode_nil 374 _ _).mono ?_
     rintro e w2 ⟨rfl, rfl⟩)
  | fail)
 go_ret2
 exact ⟨rfl, ⟨_, .slice none 0 0, 0, [], hm0, rfl, .refl _, own_nil _ _, by simp [Value.ownBlock]⟩, hk0⟩
theorem ud_parts (m : Nat) (mv v : Value) (gen : Int) (w : World) (h : w.heap[m]? = some (.cells #[mv, .int .i32 gen, v] 377 (0, 0))) (hv : ∃ a n c, v = .slice a n c) :
 Calls Tryz.prog 410 #[.pointer (some ⟨m, 0, none⟩)] w fun e w' => e = .returned v ∧ w' = w := by
 obtain ⟨a, n, c, rfl⟩ := hv
 have c2 := (cells_of h).1 2 _ rfl
 go_enter Tryz.func410, Tryz.ntmps410
 go_wp2
 go_ret
 exact ⟨rfl, rfl⟩
theorem ud_has (a : Addr) (w : World) : Calls Tryz.prog 409 #[.pointer (some a)] w fun e w' => e = .returned (.bool true) ∧ w' = w := by
 go_enter Tryz.func409, Tryz.ntmps409
 go_wp2
 go_ret
 exact ⟨rfl, rfl⟩
theorem ud_gen (m : Nat) (mv v : Value) (gen : Int) (hgen : isI32 gen) (w : World) (h : w.heap[m]? = some (.cells #[mv, .int .i32 gen, v] 377 (0, 0))) :
 Calls Tryz.prog 408 #[.pointer (some ⟨m, 0, none⟩)] w fun e w' => e = .returned (.int .i64 gen) ∧ w' = w := by
 have c1 := (cells_of h).1 1 _ rfl
 have hw : wrap64 gen = gen := by unfold isI32 at hgen; unfold wrap64; omega
 go_enter Tryz.func408, Tryz.ntmps408
 go_wp2
 go_ret
 refine ⟨?_, rfl⟩
 show Ending.returned (Value.int IntKind.i64 (wrap64 gen)) = _
 rw [hw]
end
section
open Go Go.Proofs Go.RowKit
def UdIs (w : World) (dv : Value) (parts : List TP) (gen : Int) : Prop :=
 ∀ w1, Kept [] w w1 → Calls Tryz.prog 260 #[dv] w1 fun e w' => e = .returned (.tuple #[.iface 374 (.pointer (some ⟨w1.heap.size, 0, none⟩)), .nilIface]) ∧ UdAt w' w1.heap.size w1.heap.size parts gen ∧ Kept [] w1 w'
theorem UdIs.kept {w w' : World} {dv : Value} {parts : List TP} {gen : Int} (h : UdIs w dv parts gen) (k : Kept [] w w') : UdIs w' dv parts gen := fun w1 k1 => h w1 (k.trans k1 (by simp) (by simp))
theorem udIs_nil (w : World) : UdIs w (.slice none 0 0) [] 0 := fun w1 _ => deser_nil w1
theorem udIs_v1 (g off cap : Nat) (D : List (ByteArray × List Int)) (gen : Int) (w : World) (hsl : SlAt w 1 (.slice (some ⟨g, off, none⟩) (v1Bytes D gen).length cap) (v1Bytes D gen).length (v1Bytes D gen)) (hgw : g < w.heap.size) (hcap : (v1Bytes D gen).length ≤ cap) (hsm : (v1Bytes D gen).length ≤ 1000000000)
 (hgen : isI32 gen) (hnd : (D.map (·.1)).Nodup) (hD : ∀ x ∈ D, TPOk x) (hDl : D.length ≤ 1000000) (htot : (D.flatMap tpsOf).length ≤ 100000) : UdIs w (.slice (some ⟨g, off, none⟩) (v1Bytes D gen).length cap) (D.flatMap tpsOf) gen :=
 fun w1 k => deser_v1 g off cap D gen w1 (hsl.kept k (by simp)) (by have := k.size; omega) hcap hsm hgen hnd hD hDl htot
theorem member_data (ver gen : Int) (tv ov : Value) (da ta oa : Option Addr) (dn dc tn tc on oc : Nat) (ra : Option Addr) (parts : List TP) (dg : Int) (w : World) (h : UdIs w (.slice da dn dc) parts dg) :
 Calls Tryz.prog 235 #[.agg #[.int .i16 ver, .slice ta tn tc, .slice da dn dc, .slice oa on oc, .int .i32 gen, .pointer ra], .bool false] w fun e w' =>
  ∃ m, e = .returned (.tuple #[.iface 374 (.pointer (some ⟨m, 0, none⟩)), .nilIface]) ∧ w.heap.size ≤ m ∧ UdAt w' w.heap.size m parts dg ∧ Kept [] w w' := by
 have hk0 : Kept [] w (w.alloc (.cells #[.int .i16 ver, .slice ta tn tc, .slice da dn dc, .slice oa on oc, .int .i32 gen, .pointer ra] 78)) := (Kept.refl _ _).alloc _
 have h1 := h _ hk0
 have H1 := Zhd h1; clear h1 h
 go_enter Tryz.func235, Tryz.ntmps235
 go_wp2_with (first
  | (go_at_call 260
     refine H1.out.mono ?_
     rintro e w2 ⟨rfl, hpost, hk2⟩
     have HP := Zhd (Zan hpost hk2); clear hpost hk2)
  | fail)
 go_ret2
 obtain ⟨⟨mv, v, N, ps, q1, q2, q3, q4, q5⟩, hk2⟩ := HP.out
 exact ⟨_, rfl, by simp, ⟨mv, v, N, ps, by simpa using q1, q2, q3, q4, fun y hy => by have := q5 y hy; simp at this; omega⟩, hk0.trans hk2 (by simp) (by simp)⟩
theorem rev_row : (Tryz.prog.info? 441).bind (fun i => (i.methods.find? (·.name == "Len")).map fun m => (m.path.toList.map fun s => (s.struct, s.index, s.deref), m.func)) = some ([(443, 0, true)], none) := by kernel_rfl
theorem is_row : (Tryz.prog.info? 404).bind (fun i => (i.methods.find? (·.name == "Len")).map fun m => (m.path.toList.length, m.func)) = some (0, some (412, false)) := by kernel_rfl
theorem is_len (k : Nat) (v : Option Addr) (n c : Nat) (w : World) : (method (k + 1) 404 (.slice v n c) "Len").run Tryz.prog w = .ok (412, .slice v n c) w := by
 obtain ⟨i, hi, h2⟩ := Option.bind_eq_some_iff.1 is_row
 obtain ⟨m, hm, h3⟩ := Option.map_eq_some_iff.1 h2
 simp only [Prod.mk.injEq] at h3
 obtain ⟨h4, h5⟩ := h3
 have h6 : m.path.toList = [] := List.length_eq_zero_iff.1 h4
 have h8 : (typeInfo 404).run Tryz.prog w = .ok i w := by simp [typeInfo, go_sem, hi]
 rw [method, Sem.run_bind, h8, Result.andThen_ok, hm]
 simp only [h6, h5, follow, pure_bind, receiverAt, Sem.run_bind]
 have h9 : (underlying 404).run Tryz.prog w = .ok (.slice 3) w := by simp [go_sem]
 rw [h9, Result.andThen_ok]
 simp only [Place.get, Sem.run_pure, Result.andThen_ok]
theorem rev_len (b : Nat) (v : Option Addr) (n c : Nat) (w : World) (h : w.cell? ⟨b, 0, none⟩ = some (.iface 404 (.slice v n c))) :
 (method 643 441 (.pointer (some ⟨b, 0, none⟩)) "Len").run Tryz.prog w = .ok (412, .slice v n c) w := by
 obtain ⟨i, hi, h2⟩ := Option.bind_eq_some_iff.1 rev_row
 obtain ⟨m, hm, h3⟩ := Option.map_eq_some_iff.1 h2
 simp only [Prod.mk.injEq] at h3
 obtain ⟨h4, h5⟩ := h3
 obtain ⟨s, h6, h7⟩ := List.map_eq_singleton_iff.1 h4
 simp only [Prod.mk.injEq] at h7
 obtain ⟨e1, e2, e3⟩ := h7
 have h8 : (typeInfo 441).run Tryz.prog w = .ok i w := by simp [typeInfo, go_sem, hi]
 rw [method, Sem.run_bind, h8, Result.andThen_ok, hm]
 simp only [h6, h5, follow, e1, e2, e3]
 have h9 : (underlying 443).run Tryz.prog w = .ok (.struct #[{ name := "Interface", type := 333, offset := 0, embedded := true, tag := "", pkgPath := "", byteOffset := 0 }]) w := by simp [go_sem, Tryz.underlying443]
 have h10 : (fieldPlace ⟨b, 0, none⟩ { name := "Interface", type := 333, offset := 0, embedded := true, tag := "", pkgPath := "", byteOffset := 0 }).run Tryz.prog w = .ok ⟨b, 0, none⟩ w := by simp [fieldPlace, go_sem]
 have h11 : (loadVar 333 ⟨b, 0, none⟩).run Tryz.prog w = .ok (.iface 404 (.slice v n c)) w := by simp [go_sem, h]
 simp only [Sem.run_bind, h9, Result.andThen_ok, List.getElem?_toArray, List.getElem?_cons_zero, if_true, Place.get, pure_bind, asAddr, h10, Sem.run_pure, h11, is_len]
theorem int_len (v : Option Addr) (n c : Nat) (w : World) : Calls Tryz.prog 412 #[.slice v n c] w fun e w' => e = .returned (.int .i64 n) ∧ w' = w := by
 go_enter Tryz.func412, Tryz.ntmps412
 go_wp2
 go_ret
 exact ⟨rfl, rfl⟩
theorem rev_any (v : Option Addr) (n c : Nat) (w : World) : Calls Tryz.prog 236 #[.iface 404 (.slice v n c)] w fun e w' => e = .returned (.iface 441 (.pointer (some ⟨w.heap.size, 0, none⟩))) ∧ w' = w.alloc (.cells #[.iface 404 (.slice v n c)] 443) := by
 go_enter Tryz.func236, Tryz.ntmps236
 go_wp2
 go_ret
 exact ⟨rfl, rfl⟩
theorem sort_one (b : Nat) (v : Option Addr) (c : Nat) (w : World) (h : w.cell? ⟨b, 0, none⟩ = some (.iface 404 (.slice v 1 c))) :
 Calls Tryz.prog 185 #[.iface 441 (.pointer (some ⟨b, 0, none⟩))] w fun e w' => e = .returned (.tuple #[]) ∧ w' = w := by
 have hm := rev_len b v 1 c w h
 go_enter Tryz.func185, Tryz.ntmps185
 go_wp2_with (first
  | (go_at_call 412; refine (int_len _ 1 _ _).mono ?_; rintro e w6 ⟨rfl, rfl⟩)
  | fail)
 refine bodyPost_ret (results_none rfl _ _ _) rfl ?_
 exact ⟨rfl, rfl⟩
end
end Go.Proofs.YticcnlpfmekagaaGreat
