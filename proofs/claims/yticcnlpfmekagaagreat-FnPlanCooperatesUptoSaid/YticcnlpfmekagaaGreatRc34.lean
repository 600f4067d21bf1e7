/- Part 34 of the proof of the row: Perf, BalJp, BalJ, HeapP, HeapB2, MostP, SrtH. -/
import Derived.Test.YticcnlpfmekagaaGreatRc00
import Derived.Test.YticcnlpfmekagaaGreatRc33
import Derived.Test.YticcnlpfmekagaaGreatRc18
import Derived.Test.YticcnlpfmekagaaGreatRc29
import Derived.Test.YticcnlpfmekagaaGreatRc16
import Derived.Test.YticcnlpfmekagaaGreatRc28
import Derived.Test.YticcnlpfmekagaaGreatRc23
set_option linter.unusedVariables false
set_option linter.unusedSimpArgs false
set_option maxRecDepth 100000
set_option maxHeartbeats 8000000
namespace Go.Proofs.YticcnlpfmekagaaGreat
section
open Go Go.Proofs Go.RowKit Go.Lib
open Classical
structure PfOk (n kz : Nat) (Ks : List ByteArray) (P zs : List TP) (B : List Sw) (Pp : List Rw) : Prop where
 n0 : 0 < n
 n1 : n ≤ 1000
 kn : Ks.length = n
 kd : Ks.Nodup
 pn : P.Nodup
 p1 : P.length ≤ 1000
 zp : zs.Perm P
 zl : zs.length = kz
 bk : (B.map (·.1)).Perm P
 bn : ∀ x ∈ B, x.2.2.Perm Ks
 pp : ∀ m ∈ Ks, ∃ v qs, (m, v, qs) ∈ Pp ∧ qs.Perm P
abbrev pfR (za : Option Addr) (kz zc rp rk rv : Nat) (zs : List TP) (Pp : List Rw) (B : List Sw) : List Res := [Rs.row 384 2 (.slice za kz zc) kz (zs.flatMap encTp), Rs.cur rp Pp, Rs.p2c rk B, Rs.map rv isTp []]
def PfJ (V1 : World) (vi0 : Value) (b d : Bool) (A : List Rw) (cl : Nat) (nm : List ByteArray) (n : Nat) (vi u md i : Value) (V : World) : Prop :=
 V = V1 ∧ vi = vi0 ∧ u = .bool b ∧ md = .bool d ∧ ∃ j : Nat, i = .int .i64 j ∧ j ≤ n ∧ ∀ o ∈ nm.take j, cl ≤ ld (asgT A) o + 1
theorem mem_split {A X Y : List Rw} {c d : ByteArray} {v vd : Value} {r qs : List TP} (h : A = X ++ (c, v, r) :: Y) (hd : (d, vd, qs) ∈ A) (hne : c ≠ d) : (d, vd, qs) ∈ X ++ Y := by
 rw [h] at hd
 rcases Zap.1 hd with h | h
 · simp [h]
 · rcases Zmc.1 h with e | h
   · exact absurd (Prod.mk.inj e).1.symm hne
   · simp [h]
theorem asgT_flat3 (A : List Rw) : allOf (asgT A) = A.flatMap (·.2.2) := by simp [asgT, allOf, List.flatMap_map]
theorem PfSt.kept0 {S : List Nat} {w : World} {sp rb rm rc rq n : Nat} {cp : Bool} {Ks : List ByteArray} {P : List TP} {R : List Res} {vi : Value} {A : List Rw} {wr w' : World} (h : PfSt S w sp rb rm rc rq n cp Ks P R vi A wr) (k : Kept [] wr w') : PfSt S w sp rb rm rc rq n cp Ks P R vi A w' := by
 obtain ⟨lq, L, g, c, Gs, E0, D, I, Mv, h1, h2, h3, h4, h5, h6, h7, h8⟩ := h
 exact ⟨lq, L, g, c, Gs, E0, D, I, Mv, h1, h2, h3, h4, h5, h6, h7, h8.kept0 k⟩
theorem perf_any (S : List Nat) (sp rb rm rc rq n rp rk rv kz zc : Nat) (cp : Bool) (za : Option Addr) (Ks : List ByteArray) (P zs : List TP) (B : List Sw) (Pp A0 : List Rw) (Inv : Nat → Asg → Prop) (vi : Value) (w : World)
 (hok : PfOk n kz Ks P zs B Pp) (hI : MInv zs Inv) (h0 : Inv 0 (asgT A0)) (hpf : PfSt S w sp rb rm rc rq n cp Ks P (pfR za kz zc rp rk rv zs Pp B) vi A0 w) :
 Calls Tryz.prog 253 #[.pointer (some ⟨sp, 0, none⟩), .slice za kz zc, .map (some rc), .map (some rv), vi, .map (some rp), .map (some rk), .map (some rq)] w (PfPost S w sp rb rm rc rq n cp Ks P (pfR za kz zc rp rk rv zs Pp B) Inv) := by
 have hs0 : PfOut S w sp rb rm rc rq n cp Ks P (pfR za kz zc rp rk rv zs Pp B) Inv vi (.bool false) w (sqs (asgT A0)) := ⟨A0, false, rfl, h0, rfl, hpf⟩
 have HS := Zhd hs0; clear hs0 hpf h0
 have HOK := Zhd (Zan hok hI)
 have hkz1 : kz ≤ 1000 := by have := hok.zl; have := hok.zp.length_eq; have := hok.p1; omega
 have hn0 := hok.n0
 have hn1 := hok.n1
 clear hok hI
 go_enter Tryz.func253, Tryz.ntmps253
 go_wp2_with fail
 go_loopw [4, 17, 18] (fun vi u _ wr => ∃ m, PfOut S w sp rb rm rc rq n cp Ks P (pfR za kz zc rp rk rv zs Pp B) Inv vi u wr m) (fun vi u _ wr => leastM (PfOut S w sp rb rm rc rq n cp Ks P (pfR za kz zc rp rk rv zs Pp B) Inv vi u wr))
 case atStart => exact ⟨_, HS.out⟩
 case round =>
  clear HS
  obtain ⟨mm, hme⟩ : ∃ mm, mm = leastM (PfOut S w sp rb rm rc rq n cp Ks P (pfR za kz zc rp rk rv zs Pp B) Inv u4 u17 wr) := ⟨_, rfl⟩
  have hm0 : PfOut S w sp rb rm rc rq n cp Ks P (pfR za kz zc rp rk rv zs Pp B) Inv u4 u17 wr mm := by rw [hme]; exact leastM_spec hrel
  have HME := Zhd hme; clear hme hrel
  obtain ⟨A, b, rfl, hI0, hsq, hpf⟩ := hm0
  have h10 : PfIn S w sp rb rm rc rq n cp Ks P zs kz (pfR za kz zc rp rk rv zs Pp B) Inv mm u4 (.bool b) (.bool false) (.int .i64 0) wr := ⟨A, b, false, 0, rfl, rfl, rfl, Nat.zero_le _, hI0, fun _ => ⟨hsq, by intro q hq; simp at hq⟩, (fun h => by cases h), hpf⟩
  have H10 := Zhd h10; clear h10 hpf hI0 hsq
  go_wp2_with fail
  go_loopw [4, 17, 18, 28] (fun vi u md i wr' => PfIn S w sp rb rm rc rq n cp Ks P zs kz (pfR za kz zc rp rk rv zs Pp B) Inv mm vi u md i wr') (fun _ _ _ i _ => kz - (intOf i).toNat)
  case atStart => exact H10.out
  case round =>
   clear H10
   obtain ⟨A, b, d, k, rfl, rfl, rfl, hk, hInv, hd0, hd1, hpf⟩ := hrel
   obtain ⟨lq, L, g, c, Gs, E0, D, I, Mv, rfl, hIds, hGain, hMov, hcpc, hKs, hAll, hst⟩ := hpf
   have hkn : (A.map (·.1)).Nodup := by rw [hKs]; exact HOK.out.1.kd
   have hAn : (allOf (asgT A)).Nodup := hAll.nodup_iff.2 HOK.out.1.pn
   have hlen : A.length = n := by have := congrArg List.length hKs; have := HOK.out.1.kn; simp at *; omega
   have hbA : ∀ x ∈ A, x.2.2.length ≤ 1000 := fun x hx => by
    have h1 := row_le hx
    have h2 := hAll.length_eq
    have h3 := HOK.out.1.p1
    omega
   have hpf : PfSt S w sp rb rm rc rq n cp Ks P (pfR za kz zc rp rk rv zs Pp B) (.slice (some ⟨g, 0, none⟩) n c) A wr := ⟨lq, L, g, c, Gs, E0, D, I, Mv, rfl, hIds, hGain, hMov, hcpc, hKs, hAll, hst⟩
   by_cases hkz : k < kz
   · obtain ⟨q, hqk⟩ : ∃ q, zs[k]? = some q := ⟨_, List.getElem?_eq_getElem (by have := HOK.out.1.zl; omega)⟩
     obtain ⟨g1, g2⟩ := tp_get hqk
     obtain ⟨gz, cz, ez⟩ := own_some (show wr.ownsRow 0 384 2 (.slice za kz zc) kz (zs.flatMap encTp) from hst.r 0 rfl) (by omega)
     simp only [Value.slice.injEq] at ez
     obtain ⟨rfl, _, rfl⟩ := ez
     have c1 := (own_cell (hst.r 0 rfl) g1).1
     have c2 := (own_cell (hst.r 0 rfl) g2).1
     have hki : (k : Int) < (kz : Int) := by omega
     have hrc := fun o => (show RowsAt (wr.alloc o) isStr rc 384 2 (rowsT A) from (hst.alloc o).m 0 rfl)
     by_cases hnear : Near (A.map (·.2.2.length))
     · have hbal := fun o => balanced_yes rc n (.map (some rp)) A (wr.alloc o) (hrc o) hlen hn0 (by omega) (fun x hx => by have := hbA x hx; omega) hnear
       have HN2 := Zhd hkn
       have HB := Zhd (Zan hbal (Zan hpf (Zan hInv (Zan hd1 (Zan hnear hst))))); clear hbal hpf hInv hd0 hd1 hnear hst hIds hGain hMov hcpc hKs hAll hkn hAn hrc hqk g1 g2
       cases d
       · go_wp2_with (first
          | (go_at_call 267
             refine (HB.out.1 _).mono ?_
             rintro e w7 ⟨rfl, hk7⟩)
          | fail)
         go_ret
         exact ⟨A, b, k, _, rfl, HB.out.2.2.1, HB.out.2.2.2.2.1, HB.out.2.1.kept0 (((Kept.refl [] wr).alloc _).trans hk7 (U := []) (by simp) (by simp))⟩
       · go_wp2_with (first
          | (go_at_call 267
             refine (HB.out.1 _).mono ?_
             rintro e w7 ⟨rfl, hk7⟩)
          | fail)
         have hI2 := HOK.out.2.bal _ _ HB.out.2.2.1 ((near_rows HN2.out).2 HB.out.2.2.2.2.1)
         have hfin : PfOut S w sp rb rm rc rq n cp Ks P (pfR (some ⟨gz, 0, none⟩) kz zc rp rk rv zs Pp B) Inv (.slice (some ⟨g, 0, none⟩) n c) (.bool b) w7 (sqs (asgT A)) := ⟨A, b, rfl, hI2, rfl, HB.out.2.1.kept0 (((Kept.refl [] wr).alloc _).trans hk7 (U := []) (by simp) (by simp))⟩
         exact ⟨⟨_, hfin⟩, Nat.lt_of_le_of_lt (leastM_le hfin) (by rw [← HME.out]; have h := HB.out.2.2.2.1; simpa using h)⟩
     · have hbal := fun o => balanced_no rc rp n A Pp P (wr.alloc o) (hrc o) ((hst.alloc o).r 1 rfl) (((hst.alloc o).ow).sub (List.Sublist.cons_cons _ (List.singleton_sublist.2 (by simp [pfR, movM])))) ⟨hlen, hn0, hn1, fun x hx => HOK.out.1.pp x.1 (by rw [← hKs]; exact List.mem_map_of_mem hx), by rw [← asgT_flat3]; exact hAll, HOK.out.1.pn, HOK.out.1.p1⟩ hnear
       have hzq : q ∈ P := HOK.out.1.zp.mem_iff.1 (List.mem_of_getElem? hqk)
       obtain ⟨x, hxA, hqx⟩ := List.mem_flatMap.1 (show q ∈ A.flatMap (·.2.2) by rw [← asgT_flat3]; exact hAll.mem_iff.2 hzq)
       obtain ⟨y, hyB, hyq⟩ := List.mem_map.1 (HOK.out.1.bk.mem_iff.2 hzq)
       have hlq := hcpc x hxA q hqx
       have hnm := HOK.out.1.bn y hyB
       obtain ⟨cm, cv, cps⟩ := x
       obtain ⟨q', bv, nm⟩ := y
       simp only at hyq hlq hnm hqx
       subst hyq
       obtain ⟨_, ab, cb, hbv⟩ := p2c_row (show RowsAt wr isTp rk 9 1 (rowsS B) from hst.r 2 rfl) hyB
       obtain ⟨_, ac, cc, hcv⟩ := cur_row (show RowsAt wr isStr rc 384 2 (rowsT A) from hst.m 0 rfl) hxA
       simp only at hbv hcv
       subst hbv hcv
       have hpin := p2c_in hyB
       have hcin := cur_in hxA
       simp only at hpin hcin
       have hnl : nm.length = n := by rw [hnm.length_eq]; exact HOK.out.1.kn
       rw [hnl] at hpin
       have hbx := fun o => (hst.blk o)
       have hn2 : 2 ≤ n := by
        refine Classical.byContradiction fun hno => hnear fun a ha b hb => ?_
        obtain ⟨u, hu⟩ : ∃ u, A = [u] := List.length_eq_one_iff.1 (by omega)
        rw [hu] at ha hb
        simp only [List.map_cons, List.map_nil, Zmc, Znn, or_false] at ha hb
        omega
       have hn2i : ¬ (n : Int) ≤ 1 := by omega
       have HB := Zhd (Zan hbal (Zan hpf (Zan hInv (Zan hd0 (Zan hd1 (Zan hnear hst)))))); clear hbal hpf hInv hd0 hd1 hnear hst
       have HC := Zhd (Zan hIds (Zan hGain (Zan hMov (Zan hcpc (Zan hKs (Zan hAll (Zan hkn (Zan hAn (Zan hqk (Zan hxA (Zan hqx (Zan hnm hnl)))))))))))); clear hIds hGain hMov hcpc hKs hAll hkn hAn hqk hxA hqx hnm hnl hrc g1 g2 hzq
       have HY := Zhd hyB; clear hyB
       go_wp2_with (first
        | (go_at_call 267
           refine (HB.out.1 _).mono ?_
           rintro e w7 ⟨rfl, hk7⟩
           have hst7 := (hbx _).kept0 hk7
           obtain ⟨d0, d1⟩ := hst7.cell2 0 rfl
           have d2 := fun o => ((hst7.alloc o).cell2 0 rfl).1
           have d3 := fun o => ((hst7.alloc o).cell2 0 rfl).2
           have hm7 : RowsAt w7 isTp rk 9 1 (rowsS B) := hst7.r 2 rfl
           have hm8 : ∀ o, RowsAt (w7.alloc o) isTp rk 9 1 (rowsS B) := fun o => (hst7.alloc o).r 2 rfl
           have hq7 : MapAt w7 isTp rq lq := hst7.m 2 rfl
           have hv7 : MapAt w7 isTp rv [] := hst7.r 3 rfl)
        | (refine wl_lk (kv := tpV q') rfl rfl rfl rfl keyT_tp Tryz.underlying382 hm7.map hpin ?_)
        | (refine wl_lk (kv := tpV q') rfl rfl rfl rfl keyT_tp Tryz.underlying382 (hm8 _).map hpin ?_)
        | (refine wl_lk (kv := tpV q') rfl rfl rfl rfl keyT_tp Tryz.underlying387 hq7 hlq ?_)
        | (refine wl_lkN2 (kv := tpV q') (vv := .agg #[.string ⟨#[]⟩, .int .i64 0]) rfl rfl rfl rfl keyT_tp Tryz.underlying379 hv7 ⟨_, _, rfl⟩ (by simp) (Tryz.zeroValue406 _) ?_)
        | fail)
       all_goals
        have hst8 := hst7.alloc (.cells #[.string ⟨#[]⟩, .int .i64 0] 406)
        have HV := Zhd hst8
        clear d0 d1 d2 d3 hm7 hm8 hq7 hv7 hst7 hk7 hbx hlq hpin
        generalize w7.alloc (.cells #[.string ⟨#[]⟩, .int .i64 0] 406) = V1 at *
        generalize wr.heap.size = bq at *
        clear hst8
        obtain ⟨cl, hcl⟩ : ∃ cl, cps.length = cl := ⟨_, rfl⟩
        rw [hcl] at hcin
        have HCL := Zhd (Zan hcl hcin); clear hcl hcin
        have h20 : PfJ V1 (.slice (some ⟨g, 0, none⟩) n c) b d A cl nm n (.slice (some ⟨g, 0, none⟩) n c) (.bool b) (.bool d) (.int .i64 0) V1 := ⟨rfl, rfl, rfl, rfl, 0, rfl, Nat.zero_le _, by simp⟩
        have H20 := Zhd h20; clear h20
        go_loopw [4, 17, 18, 79] (fun vi u md i V => PfJ V1 (.slice (some ⟨g, 0, none⟩) n c) b d A cl nm n vi u md i V) (fun _ _ _ i _ => n - (intOf i).toNat)
        case atStart => exact H20.out
        case round =>
         clear H20
         obtain ⟨hV, rfl, rfl, rfl, j, rfl, hj, hno⟩ := hrel
         obtain rfl : V1 = wr := hV.symm
         by_cases hjn : j < n
         · obtain ⟨o, hoj⟩ : ∃ o, nm[j]? = some o := ⟨_, List.getElem?_eq_getElem (by have := HC.out.2.2.2.2.2.2.2.2.2.2.2.2; omega)⟩
           have hoK : o ∈ A.map (·.1) := by
            rw [HC.out.2.2.2.2.1]
            exact HC.out.2.2.2.2.2.2.2.2.2.2.2.1.mem_iff.1 (List.mem_of_getElem? hoj)
           obtain ⟨ov, hoA⟩ := row_ex HC.out.2.2.2.2.2.2.1 hoK
           have hrB := (p2c_row (show RowsAt V1 isTp rk 9 1 (rowsS B) from HV.out.r 2 rfl) HY.out).1
           simp only at hrB
           rw [HC.out.2.2.2.2.2.2.2.2.2.2.2.2] at hrB
           obtain ⟨gb, cb', eb⟩ := own_some hrB (by omega)
           simp only [Value.slice.injEq] at eb
           obtain ⟨rfl, _, rfl⟩ := eb
           have co := (own_cell hrB (j := j) (u := .string o) (by simp [strs, hoj])).1
           have hmc := (show RowsAt V1 isStr rc 384 2 (rowsT A) from HV.out.m 1 rfl)
           obtain ⟨_, ao, coo, hov⟩ := cur_row hmc hoA
           simp only at hov
           subst hov
           have hoin := cur_in hoA
           simp only at hoin
           have hob := hbA _ hoA
           simp only at hob
           obtain ⟨ol, hol⟩ : ∃ ol, (rowOf (asgT A) o).length = ol := ⟨_, rfl⟩
           rw [hol] at hoin hob
           have hclb := hbA _ HC.out.2.2.2.2.2.2.2.2.2.1
           simp only at hclb
           rw [HCL.out.1] at hclb
           have hcin2 := HCL.out.2
           have hji : (j : Int) < (n : Int) := by omega
           have hmm := hmc.map
           have HO2 := Zhd (Zan hoj (Zan hol (Zan hoA hno))); clear hoj hol hno hrB hmc hoK hoA
           by_cases hgt : ol + 1 < cl
           · have hgti : (ol : Int) + 1 < (cl : Int) := by omega
             go_upto_region 21 with (first
              | (refine wl_lk rfl rfl rfl rfl (keyT_str Tryz.underlying9) Tryz.underlying378 hmm hcin2 ?_)
              | (refine wl_lk rfl rfl rfl rfl (keyT_str Tryz.underlying9) Tryz.underlying378 hmm hoin ?_)
              | fail)
             obtain ⟨⟨dm, dk⟩, L0, rfl⟩ : ∃ z L0, L = z :: L0 := by
              cases L with
              | nil => exfalso; have := HC.out.1.perm.length_eq; simp [loadT] at this; omega
              | cons z L0 => exact ⟨z, L0, rfl⟩
             obtain ⟨A1, dv, dps, A2, hAd, hdk, hmin⟩ := HC.out.1.first
             simp only at hAd hdk
             have hdA : (dm, dv, dps) ∈ A := by rw [hAd]; simp
             have hks : (ks (asgT A)).Nodup := by rw [asgT_ks]; exact HC.out.2.2.2.2.2.2.1
             have hcK : cm ∈ ks (asgT A) := by rw [asgT_ks]; exact List.mem_map.2 ⟨_, HC.out.2.2.2.2.2.2.2.2.2.1, rfl⟩
             have hdK : dm ∈ ks (asgT A) := by rw [asgT_ks]; exact List.mem_map.2 ⟨_, hdA, rfl⟩
             have hrc' := row_of HC.out.2.2.2.2.2.2.1 HC.out.2.2.2.2.2.2.2.2.2.1
             simp only at hrc'
             have hldc : ld (asgT A) cm = cl := by unfold ld; rw [hrc']; exact HCL.out.1
             have hldd : ld (asgT A) dm = dps.length := ld_row HC.out.2.2.2.2.2.2.1 hdA
             have hdo : dps.length ≤ ol := by
              have := hmin _ HO2.out.2.2.1
              simp only at this
              have := HO2.out.2.1
              omega
             have hgap : ld (asgT A) dm + 2 ≤ ld (asgT A) cm := by omega
             have hcd : cm ≠ dm := fun e => by rw [e] at hgap; omega
             have hminK : ∀ m ∈ ks (asgT A), ld (asgT A) dm ≤ ld (asgT A) m := fun m hm => by
              rw [asgT_ks] at hm
              obtain ⟨z, hz, rfl⟩ := List.mem_map.1 hm
              rw [hldd, ld_row HC.out.2.2.2.2.2.2.1 hz]
              exact hmin z hz
             have hqrow : q' ∈ rowOf (asgT A) cm := by rw [hrc']; exact HC.out.2.2.2.2.2.2.2.2.2.2.1
             obtain ⟨X, Y, hAX⟩ := List.append_of_mem HC.out.2.2.2.2.2.2.2.2.2.1
             obtain ⟨xs, ys, hcx⟩ := List.append_of_mem HC.out.2.2.2.2.2.2.2.2.2.2.1
             have hqxs : q' ∉ xs := fun h => by
              have h1 := rows_nodup hks HC.out.2.2.2.2.2.2.2.1 hcK
              rw [hrc', hcx, List.nodup_append] at h1
              exact h1.2.2 q' h q' (by simp) rfl
             have hfresh := HC.out.2.1.fresh hks HC.out.2.2.2.2.2.2.2.1 hcK hdK hqrow hgap
             obtain ⟨pv, pq, hpv, hpq⟩ := HOK.out.1.pp dm (by rw [← HC.out.2.2.2.2.1]; rw [asgT_ks] at hdK; exact hdK)
             have hAX2 : A = X ++ (cm, .slice ac cps.length cc, xs ++ q' :: ys) :: Y := by rw [← hcx]; exact hAX
             have hpok : ProcOk (fun z => z ∈ dm :: Gs) (fun t => ∃ z ∈ Gs, t ∈ rowOf (asgT A) z) n E0 D I Mv q' cm dm X Y (.slice ac cps.length cc) xs ys dv dps lq :=
              ⟨HC.out.2.2.1.mono (fun z hz => List.mem_cons_of_mem _ hz) (fun t ht => ht), fun y hy e => hfresh (by rw [← e]; exact HC.out.2.2.1.mv y hy), List.mem_cons_self .., fun h => by
                rcases Zmc.1 h with h | h
                · exact hcd h
                · exact HC.out.2.1.not hdK hgap h, hcd, mem_split hAX hdA hcd, hqxs, HC.out.2.2.2.1 _ HC.out.2.2.2.2.2.2.2.2.2.1 q' HC.out.2.2.2.2.2.2.2.2.2.2.1, by rw [← hAX2]; exact hlen, hn1, fun z hz => hbA z (by rw [hAX2]; exact hz)⟩
             have hst9 := HV.out.drop 0
             simp only [Ze0] at hst9
             rw [hAX2] at hst9
             have hst10 : St S w V1 (procM sp rb rm rc rq cp E0 D I Mv q' cm X Y (.slice ac cps.length cc) xs ys lq ++ [Rs.ids (.slice (some ⟨g, 0, none⟩) n c) n ((dm, dk) :: L0)]) (pfR (some ⟨gz, 0, none⟩) kz zc rp rk rv zs Pp B) := hst9.perm (List.Perm.cons _ (List.Perm.cons _ (List.perm_append_singleton _ _).symm))
             have how : Ow V1 (procM sp rb rm rc rq cp E0 D I Mv q' cm X Y (.slice ac cps.length cc) xs ys lq ++ [Rs.ids (.slice (some ⟨g, 0, none⟩) n c) n ((dm, dk) :: L0), Rs.cur rp Pp]) := by
              have h := hst10.ow
              rw [List.append_assoc] at h
              exact h.sub ((List.Sublist.refl _).append (List.Sublist.cons_cons _ (List.Sublist.cons _ (List.Sublist.cons_cons _ (List.nil_sublist _)))))
             have hcall := least_any (L := (dm, dk) :: L0) (k := dk) (rp := rp) (gi := g) (ci := c) (Pp := Pp) (pv := pv) (pq := pq) (hok := hpok) (how := how) (hL := rfl) (hpv := hpv) (hpp := hpq.mem_iff.2 (HOK.out.1.zp.mem_iff.1 (List.mem_of_getElem? HC.out.2.2.2.2.2.2.2.2.1))) (hpl := by have := hpq.length_eq; have := HOK.out.1.p1; omega)
             have hfinal : ∀ E1 D1 I1 Mv1 A3 g3 c3 L3 w9, MovOk (fun z => z ∈ dm :: Gs) (fun t => (∃ z ∈ Gs, t ∈ rowOf (asgT A) z) ∨ t = q') E1 D1 I1 Mv1 → IdsOf A3 L3 → Moved (asgT (X ++ (cm, .slice ac cps.length cc, xs ++ q' :: ys) :: Y)) (asgT A3) cm dm q' → A3.map (·.1) = (X ++ (cm, .slice ac cps.length cc, xs ++ q' :: ys) :: Y).map (·.1) →
              St (foots (procM sp rb rm rc rq cp E0 D I Mv q' cm X Y (.slice ac cps.length cc) xs ys lq)) V1 w9 ([Rs.cur rc A3, Rs.map rq isTp (putE lq (tpV q') (.string dm)), Rs.ids (.slice (some ⟨g3, 0, none⟩) n c3) n L3] ++ movM sp rb rm cp E1 D1 I1 Mv1) [] →
              PfIn S w sp rb rm rc rq n cp Ks P zs kz (pfR (some ⟨gz, 0, none⟩) kz zc rp rk rv zs Pp B) Inv mm (.slice (some ⟨g3, 0, none⟩) n c3) (.bool true) (.bool true) (.int .i64 ((k : Nat) + 1)) w9 := fun E1 D1 I1 Mv1 A3 g3 c3 L3 w9 hok1 hIds3 hmv hk3 hst11 => by
              rw [← hAX2] at hmv hk3
              have hn3 : (A3.map (·.1)).Nodup := by rw [hk3]; exact HC.out.2.2.2.2.2.2.1
              obtain ⟨hg1, hg2, hg3⟩ := HC.out.2.1.step hcK hdK hminK hgap hmv
              have hsq := hmv.sq hks hcK hdK hgap
              have hsqm : sqs (asgT A) ≤ mm := by
               cases d
               · exact Nat.le_of_eq (HB.out.2.2.2.1 rfl).1
               · exact Nat.le_of_lt (HB.out.2.2.2.2.1 rfl)
              have hst12 := (St.call (M2 := [Rs.ids (.slice (some ⟨g, 0, none⟩) n c) n ((dm, dk) :: L0)]) hst10 hst11).drop 8
              refine ⟨A3, true, true, k + 1, rfl, rfl, by go_num, by omega, HOK.out.2.move k _ _ q' cm dm HB.out.2.2.1 HC.out.2.2.2.2.2.2.2.2.1 (fun h => HB.out.2.2.2.2.2.1 ((near_rows HC.out.2.2.2.2.2.2.1).1 h)) hcK hdK hqrow hminK hgap hmv, (fun h => by cases h), fun _ => Nat.lt_of_lt_of_le hsq hsqm,
               ⟨putE lq (tpV q') (.string dm), L3, g3, c3, dm :: Gs, E1, D1, I1, Mv1, rfl, hIds3, hg1, hok1.mono (fun z hz => hz) (fun t ht => ?_), cpc_step HC.out.2.2.2.2.2.2.1 hn3 HC.out.2.2.2.2.2.2.2.1 hk3 hmv hcd (by rw [asgT_ks] at hcK; exact hcK) HC.out.2.2.2.1, hk3.trans HC.out.2.2.2.2.1, (hmv.all hks hcK hdK hcd).trans HC.out.2.2.2.2.2.1, hst12⟩⟩
              rcases ht with ht | rfl
              · exact hg2 t ht
              · exact hg3
             have q0 := (HV.out.cell2 0 rfl).1
             have q1 := (HV.out.cell2 0 rfl).2
             have HP := Zhd (Zan hcall hfinal); clear hcall hfinal hst9 hst10 how hpok hAX2 hAX hcx hpv hpq hfresh hqxs hqrow hminK hcd hgap hdo hldd hldc hrc' hdK hcK hks hdA hmin hdk hAd hgt hgti co hoin hcin2 hmm hob hclb hji
             go_wp2_with (first
              | (go_at_call 269
                 refine HP.out.1.mono ?_
                 rintro e w9 ⟨E1, D1, I1, Mv1, A3, g3, c3, L3, rfl, r1, r2, r3, r4, r5⟩)
              | fail)
             exact ⟨HP.out.2 E1 D1 I1 Mv1 A3 g3 c3 L3 w9 r1 r2 r3 r4 r5, by simp [intOf]; omega⟩
           · have hgti : ¬ (ol : Int) + 1 < (cl : Int) := by omega
             go_wp2_with (first
              | (refine wl_lk rfl rfl rfl rfl (keyT_str Tryz.underlying9) Tryz.underlying378 hmm hcin2 ?_)
              | (refine wl_lk rfl rfl rfl rfl (keyT_str Tryz.underlying9) Tryz.underlying378 hmm hoin ?_)
              | fail)
             refine ⟨⟨rfl, rfl, rfl, rfl, j + 1, by go_num, by omega, fun z hz => ?_⟩, by simp [intOf]; omega⟩
             rw [take_snoc HO2.out.1] at hz
             rcases Zap.1 hz with hz | hz
             · exact HO2.out.2.2.2 z hz
             · simp only [Zmc, Znn, or_false] at hz
               subst hz
               unfold ld
               have := HO2.out.2.1
               omega
         · obtain rfl : n = j := by omega
           have hfin : PfIn S w sp rb rm rc rq n cp Ks P zs kz (pfR (some ⟨gz, 0, none⟩) kz zc rp rk rv zs Pp B) Inv mm (.slice (some ⟨g, 0, none⟩) n c) (.bool b) (.bool d) (.int .i64 ((k : Nat) + 1)) V1 := by
            obtain ⟨hIds, hGain, hMov, hcpc, hKs, hAll, hkn, hAn, hqk, hxA, hqx, hnm, hnl⟩ := HC.out
            obtain ⟨_, _, hInv, hd0, hd1, hnear, _⟩ := HB.out
            rw [List.take_of_length_le (by omega)] at hno
            have hks : ∀ m, m ∈ ks (asgT A) ↔ m ∈ Ks := fun m => by rw [asgT_ks, hKs]
            have hcm : cm ∈ A.map (·.1) := List.mem_map.2 ⟨_, hxA, rfl⟩
            have hrow := row_of hkn hxA
            simp only at hrow
            have hldc : ld (asgT A) cm = cl := by unfold ld; rw [hrow]; exact HCL.out.1
            have hle : ∀ m ∈ ks (asgT A), ld (asgT A) cm ≤ ld (asgT A) m + 1 := fun m hm => by
             rw [hldc]; exact hno m (hnm.mem_iff.2 ((hks m).1 hm))
            refine ⟨A, b, d, k + 1, rfl, rfl, by go_num, by omega, HOK.out.2.skip k _ q' cm hInv hqk (fun h => hnear ((near_rows hkn).1 h)) (by rw [asgT_ks]; exact hcm) (by rw [hrow]; exact hqx) hle, fun hd => ⟨(hd0 hd).1, fun z hz x hx hzx y hy => ?_⟩, hd1, ⟨lq, L, g, c, Gs, E0, D, I, Mv, rfl, hIds, hGain, hMov, hcpc, hKs, hAll, HV.out.drop 0⟩⟩
            rw [take_snoc hqk] at hz
            rcases Zap.1 hz with hz | hz
            · exact (hd0 hd).2 z hz x hx hzx y hy
            · simp only [Zmc, Znn, or_false] at hz
              subst hz
              have h3 := held_uniq (by rw [← asgT_flat3]; exact hAn) hx hxA hzx hqx
              subst h3
              have h4 := hle y.1 (by rw [asgT_ks]; exact List.mem_map_of_mem hy)
              rw [ld_row hkn hy, hldc] at h4
              simp only
              have := HCL.out.1
              omega
           have HFN := Zhd hfin; clear hfin
           go_wp2_with fail
           exact ⟨HFN.out, by simp [intOf]; omega⟩
   · obtain rfl : k = kz := by omega
     rw [List.take_of_length_le (by have := HOK.out.1.zl; omega)] at hd0
     cases d
     · have hnear := stuck_near (HOK.out.1.zp.trans hAll.symm) (hd0 rfl).2
       have HB := Zhd (Zan hpf (Zan hInv hnear)); clear hpf hInv hnear hd0 hd1 hst hIds hGain hMov hcpc hKs hAll hkn hAn
       go_wp2_with fail
       go_ret
       exact ⟨A, b, k, _, rfl, HB.out.2.1, HB.out.2.2, HB.out.1⟩
     · have hI2 := HOK.out.2.again _ (by have h := HOK.out.1.zl; rw [h]; exact hInv)
       have HB := Zhd (Zan hpf (Zan hI2 (hd1 rfl))); clear hpf hInv hI2 hd0 hd1 hst hIds hGain hMov hcpc hKs hAll hkn hAn
       go_wp2_with fail
       have hfin : PfOut S w sp rb rm rc rq n cp Ks P (pfR za k zc rp rk rv zs Pp B) Inv (.slice (some ⟨g, 0, none⟩) n c) (.bool b) wr (sqs (asgT A)) := ⟨A, b, rfl, HB.out.2.1, rfl, HB.out.1⟩
       exact ⟨⟨_, hfin⟩, Nat.lt_of_le_of_lt (leastM_le hfin) (by rw [← HME.out]; exact HB.out.2.2)⟩
end
section
open Go Go.Proofs Go.RowKit Go.Lib
open Classical
abbrev bjM (sp rb rm rc rq ks n g0 c0 : Nat) (cp : Bool) (vs : Value) (A : List Rw) (lq : List (Value × Value)) (zs : List TP) (L : List (ByteArray × Nat)) (E0 : List (ByteArray × Nat)) (D : List (Nat × List (Pr × Nat))) (I : List (Nat × List (Value × Value))) (Mv : List (TP × Pr)) : List Res :=
 [Rs.cur rc A, Rs.map rq isTp lq, Rs.ids (.slice (some ⟨g0, 0, none⟩) n c0) n L, Rs.row 384 2 vs ks (zs.flatMap encTp)] ++ movM sp rb rm cp E0 D I Mv
theorem pj1 {f c q i z : Res} {N : List Res} : (f :: c :: q :: i :: z :: N).Perm ((c :: q :: i :: N) ++ [f, z]) :=
 ((List.perm_middle (l₁ := [c, q, i]) (a := z) (l₂ := N)).cons f).trans (List.perm_append_comm (l₁ := [f, z]) (l₂ := c :: q :: i :: N))
end
section
open Go Go.Proofs Go.RowKit Go.Lib
open Classical
def BJ2 (S : List Nat) (w : World) (rk it : Nat) (M : List Res) (B : List Sw) (X Z V : Res) (vs vz : Value) (wr : World) : Prop :=
 vz = vs ∧ ∃ Lf : List Sw, (∀ x ∈ Lf, x ∈ B) ∧ St S w wr M [X, itS rk B (rawR (rowsS Lf)) it, Z, V]
def BJ3 (S : List Nat) (w : World) (rf rp it : Nat) (M : List Res) (Pp : List Rw) (X Z V : Res) (wr : World) : Prop :=
 ∃ Lf : List Rw, (∀ x ∈ Lf, x ∈ Pp) ∧ St S w wr (Rs.cur rf [] :: M) [itT rp Pp (rawR (rowsT Lf)) it, X, Z, V]
end
section
open Go Go.RowKit
open Classical
def Ge {α : Type} (more : α → α → Bool) (L : List α) (i j : Nat) : Prop := ∀ x y, L[i]? = some x → L[j]? = some y → more y x = false
structure MoreOk {α : Type} (more : α → α → Bool) : Prop where
 asym : ∀ x y, more x y = true → more y x = false
 trans : ∀ x y z, more y x = false → more z y = false → more z x = false
def HeapFrom {α : Type} (more : α → α → Bool) (L : List α) (n i : Nat) : Prop := ∀ p, i ≤ p → ∀ j, (j = 2 * p + 1 ∨ j = 2 * p + 2) → j < n → Ge more L p j
structure HeapBut {α : Type} (more : α → α → Bool) (L : List α) (n i k : Nat) : Prop where
 ok : ∀ p, i ≤ p → p ≠ k → ∀ j, (j = 2 * p + 1 ∨ j = 2 * p + 2) → j < n → Ge more L p j
 up : ∀ p, i ≤ p → (k = 2 * p + 1 ∨ k = 2 * p + 2) → ∀ j, (j = 2 * k + 1 ∨ j = 2 * k + 2) → j < n → Ge more L p j
section
variable {α : Type} {more : α → α → Bool} {L : List α} {n i k : Nat}
theorem HeapBut.done (h : HeapBut more L n i k) (hk : ∀ j, (j = 2 * k + 1 ∨ j = 2 * k + 2) → j < n → Ge more L k j) : HeapFrom more L n i := fun p hp j hj hjn => by
 by_cases e : p = k
 · subst e; exact hk j hj hjn
 · exact h.ok p hp e j hj hjn
theorem HeapFrom.start (h : n / 2 ≤ i) : HeapFrom more L n i := fun p hp j hj hjn => by omega
theorem Ge.trans (hm : MoreOk more) {a b c : Nat} (hb : b < L.length) (h1 : Ge more L a b) (h2 : Ge more L b c) : Ge more L a c := fun x z hx hz =>
 hm.trans x L[b] z (h1 x _ hx (List.getElem?_eq_getElem hb)) (h2 _ z (List.getElem?_eq_getElem hb) hz)
theorem HeapFrom.top (hm : MoreOk more) (h : HeapFrom more L n 0) (hl : L.length = n) : ∀ j, j < n → 0 < j → Ge more L 0 j := by
 intro j
 induction j using Nat.strongRecOn with
 | _ j ih =>
   intro hj h0
   have hpj : Ge more L ((j - 1) / 2) j := h _ (Nat.zero_le _) j (by omega) hj
   by_cases e : (j - 1) / 2 = 0
   · rw [e] at hpj; exact hpj
   · exact Ge.trans hm (by omega) (ih _ (by omega) (by omega) (by omega)) hpj
theorem swap_get {x y : α} {k j a : Nat} (hk : L[k]? = some x) (hj : L[j]? = some y) (hkj : k ≠ j) : ((L.set k y).set j x)[a]? = if a = j then some x else if a = k then some y else L[a]? := by
 have hkl := (List.getElem?_eq_some_iff.1 hk).1
 have hjl := (List.getElem?_eq_some_iff.1 hj).1
 rw [List.getElem?_set, List.getElem?_set]
 by_cases e : a = j
 · subst e; simp [hjl]
 · rw [if_neg (fun h => e h.symm), if_neg e]
   by_cases e2 : a = k
   · subst e2; simp [hkl]
   · rw [if_neg (fun h => e2 h.symm), if_neg e2]
theorem HeapBut.swap (hm : MoreOk more) (h : HeapBut more L n i k) (hik : i ≤ k) {j : Nat} {x y : α} (hj : j = 2 * k + 1 ∨ j = 2 * k + 2) (hjn : j < n) (hx : L[k]? = some x) (hy : L[j]? = some y) (hmr : more y x = true) (hbig : ∀ j', (j' = 2 * k + 1 ∨ j' = 2 * k + 2) → j' < n → Ge more L j j') :
 HeapBut more ((L.set k y).set j x) n i j := by
 have hkj : k ≠ j := by omega
 have hg := fun a => swap_get (a := a) hx hy hkj
 have hxy := hm.asym y x hmr
 refine ⟨fun p hp hpj q hq hqn => ?_, fun p hp hjp q hq hqn => ?_⟩
 · intro u v hu hv
   rw [hg] at hu hv
   rw [if_neg hpj] at hu
   by_cases e : p = k
   · subst e
     rw [if_pos rfl] at hu
     cases hu
     by_cases e2 : q = j
     · rw [if_pos e2] at hv
       cases hv; exact hxy
     · rw [if_neg e2, if_neg (by omega)] at hv
       exact hbig q hq hqn y v hy hv
   · rw [if_neg e] at hu
     have hqj : q ≠ j := by omega
     rw [if_neg hqj] at hv
     by_cases e2 : q = k
     · rw [if_pos e2] at hv
       cases hv
       exact h.up p hp (by omega) j hj hjn u y hu hy
     · rw [if_neg e2] at hv
       exact h.ok p hp e q hq hqn u v hu hv
 · have hpk : p = k := by omega
   subst hpk
   intro u v hu hv
   rw [hg] at hu hv
   rw [if_neg hkj, if_pos rfl] at hu
   rw [if_neg (by omega), if_neg (by omega)] at hv
   cases hu
   exact h.ok j (by omega) (fun e => hkj e.symm) q hq hqn y v hy hv
theorem HeapFrom.below {L' : List α} (h : HeapFrom more L n 0) (he : ∀ a, 0 < a → a < n → L'[a]? = L[a]?) : HeapFrom more L' n 1 := fun p hp j hj hjn u v hu hv => by
 rw [he p (by omega) (by omega)] at hu
 rw [he j (by omega) hjn] at hv
 exact h p (by omega) j hj hjn u v hu hv
theorem HeapFrom.same {L' : List α} (h : HeapFrom more L n i) (he : ∀ a, a < n → L'[a]? = L[a]?) : HeapFrom more L' n i := fun p hp j hj hjn u v hu hv => by
 rw [he p (by omega)] at hu
 rw [he j hjn] at hv
 exact h p hp j hj hjn u v hu hv
end
section
variable {α : Type} {more : α → α → Bool} {L : List α} {n i k j o : Nat}
theorem Ge.refl (hm : MoreOk more) (i : Nat) : Ge more L i i := fun x y hx hy => by
 rw [hx] at hy; cases hy
 cases h : more x x with
 | false => rfl
 | true => exact (hm.asym x x h).symm.trans h ▸ rfl
end
end
section
open Go Go.Proofs Go.RowKit Go.Lib
open Classical
end
section
open Go Go.RowKit
open Classical
section
variable {A0 : Asg} {Q : List (ByteArray × List (ByteArray × Int))} {acc : List (ByteArray × Int)}
end
end
section
open Go Go.Proofs Go.RowKit Go.Lib
open Classical
end
end Go.Proofs.YticcnlpfmekagaaGreat
