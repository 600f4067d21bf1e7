/- Part 33 of the proof of the row: BalN, PfP. -/
import Derived.Test.YticcnlpfmekagaaGreatRc00
import Derived.Test.YticcnlpfmekagaaGreatRc21
import Derived.Test.YticcnlpfmekagaaGreatRc29
import Derived.Test.YticcnlpfmekagaaGreatRc32
set_option linter.unusedVariables false
set_option linter.unusedSimpArgs false
set_option maxRecDepth 100000
set_option maxHeartbeats 8000000
namespace Go.Proofs.YticcnlpfmekagaaGreat
section
open Go Go.Proofs Go.RowKit Go.Lib
open Classical
def heldL (A : List Rw) : List (TP × ByteArray) := A.flatMap fun x => x.2.2.map fun p => (p, x.1)
def heldV (L : List (TP × ByteArray)) : List (Value × Value) := L.map fun z => (tpV z.1, .string z.2)
theorem heldV_append (L M : List (TP × ByteArray)) : heldV (L ++ M) = heldV L ++ heldV M := by simp [heldV]
theorem heldV_miss {L : List (TP × ByteArray)} {p : TP} (h : p ∉ L.map (·.1)) : ∀ u, (tpV p, u) ∉ heldV L := fun u hu => by
 obtain ⟨z, hz, e⟩ := List.mem_map.1 hu
 simp only [Prod.mk.injEq] at e
 exact h (List.mem_map.2 ⟨z, hz, tpV_inj e.1⟩)
theorem heldL_fst (A : List Rw) : (heldL A).map (·.1) = A.flatMap (·.2.2) := by simp [heldL, List.map_flatMap, Function.comp_def]
def NB1 (w : World) (rc rp it ra : Nat) (A Pp : List Rw) (wr : World) : Prop :=
 ∃ Dn Lf : List Rw, (Dn ++ Lf).Perm A ∧ St [] w wr [Rs.map ra isTp (heldV (heldL Dn))] [itT rc A (rawR (rowsT Lf)) it, Rs.cur rp Pp]
def NB2 (w : World) (ra : Nat) (Dn : List Rw) (m : ByteArray) (ps : List TP) (pn : Nat) (R : List Res) (i : Value) (wr : World) : Prop :=
 ∃ k : Nat, i = .int .i64 k ∧ k ≤ pn ∧ St [] w wr [Rs.map ra isTp (heldV (heldL Dn ++ (ps.take k).map fun p => (p, m)))] R
def NB3 (w : World) (A : List Rw) (qs : List TP) (c0 qn : Nat) (i : Value) (wr : World) : Prop :=
 Kept [] w wr ∧ ∃ k : Nat, i = .int .i64 k ∧ k ≤ qn ∧ ∀ q ∈ qs.take k, ∀ x ∈ A, q ∈ x.2.2 → x.2.2.length ≤ c0
structure NbOk (n : Nat) (A Pp : List Rw) (P : List TP) : Prop where
 len : A.length = n
 pos : 0 < n
 small : n ≤ 1000
 pots : ∀ x ∈ A, ∃ v qs, (x.1, v, qs) ∈ Pp ∧ qs.Perm P
 all : (A.flatMap (·.2.2)).Perm P
 nd : P.Nodup
 cap : P.length ≤ 1000
theorem nb_new {A Dn L1 L2 : List Rw} {m : ByteArray} {v : Value} {ps : List TP} {k : Nat} {p : TP} (hnd : (A.flatMap (·.2.2)).Nodup) (hp : (Dn ++ (L1 ++ (m, v, ps) :: L2)).Perm A) (hk : ps[k]? = some p) : p ∉ (heldL Dn ++ (ps.take k).map fun q => (q, m)).map (·.1) := by
 have h1 := (hp.flatMap_right (·.2.2)).nodup_iff.2 hnd
 rw [List.flatMap_append, List.flatMap_append, List.flatMap_cons, List.nodup_append, List.nodup_append, List.nodup_append] at h1
 obtain ⟨_, ⟨_, ⟨h2, _, _⟩, _⟩, h3⟩ := h1
 intro h
 rw [List.map_append, heldL_fst, List.map_map] at h
 rcases Zap.1 h with h | h
 · exact h3 p h p (by simp [List.mem_of_getElem? hk]) rfl
 · have h4 : p ∈ ps.take k := by simpa [Function.comp_def] using h
   exact take_new h2 hk h4
theorem held_uniq {q : TP} {x y : Rw} : ∀ {A : List Rw}, (A.flatMap (·.2.2)).Nodup → x ∈ A → y ∈ A → q ∈ x.2.2 → q ∈ y.2.2 → x = y
 | [], _, h, _, _, _ => by cases h
 | c :: A, hnd, hx, hy, hp, h4 => by
   rw [List.flatMap_cons, List.nodup_append] at hnd
   rcases Zmc.1 hx with e | k1 <;> rcases Zmc.1 hy with e' | k2
   · rw [e, e']
   · subst e
     exact absurd rfl (hnd.2.2 q hp q (List.mem_flatMap.2 ⟨y, k2, h4⟩))
   · subst e'
     exact absurd rfl (hnd.2.2 q h4 q (List.mem_flatMap.2 ⟨x, k1, hp⟩))
   · exact held_uniq hnd.2.1 k1 k2 hp h4
theorem held_in {A Dn : List Rw} {x : Rw} {q : TP} (hp : Dn.Perm A) (hx : x ∈ A) (hq : q ∈ x.2.2) : (tpV q, Value.string x.1) ∈ heldV (heldL Dn) :=
 List.mem_map.2 ⟨(q, x.1), List.mem_flatMap.2 ⟨x, hp.mem_iff.2 hx, List.mem_map.2 ⟨q, hq, rfl⟩⟩, rfl⟩
theorem balanced_no (rc rp n : Nat) (A Pp : List Rw) (P : List TP) (w : World) (hc : RowsAt w isStr rc 384 2 (rowsT A)) (hpp : RowsAt w isStr rp 384 2 (rowsT Pp)) (hap : Ow w [Rs.cur rc A, Rs.cur rp Pp]) (hok : NbOk n A Pp P) (hnn : ¬ Near (A.map (·.2.2.length))) :
 Calls Tryz.prog 267 #[.map (some rc), .map (some rp)] w fun e w' => e = .returned (.bool false) ∧ Kept [] w w' := by
 have hnd : (A.flatMap (·.2.2)).Nodup := hok.all.nodup_iff.2 hok.nd
 have hln : ∀ x ∈ A, x.2.2.length ≤ 1000 := fun x hx => by
  have h1 := row_le hx
  have h2 := hok.all.length_eq
  have h3 := hok.cap
  have h4 : (allOf (asgT A)).length = (A.flatMap (·.2.2)).length := by simp [allOf, asgT, List.flatMap_map]
  omega
 have hsc := sort_cur rc A w hc (by have := hok.len; have := hok.small; omega) (fun x hx => by have := hln x hx; omega)
 rw [hok.len] at hsc
 have HSC := Zhd hsc; clear hsc
 have hn0 := hok.pos
 have hn1 := hok.small
 have HN := Zhd (Zan hok (Zan hnn (Zan hnd hln))); clear hok hnn hnd hln
 go_enter Tryz.func267, Tryz.ntmps267
 go_upto_region 2 with (first
  | (go_at_call 232
     refine (HSC.out).mono ?_
     rintro e w1 ⟨g, c, L, rfl, hL, hst⟩)
  | fail)
 have hlen : L.length = n := by rw [hL.len]; exact HN.out.1.len
 obtain ⟨m0, v0, p0, hm0, e0⟩ := hL.get (i := 0) (by omega)
 obtain ⟨m1, v1, p1, hm1, e1⟩ := hL.get (i := n - 1) (by omega)
 obtain ⟨_, a0, k0, hv0⟩ := cur_row hc hm0
 obtain ⟨_, a1, k1, hv1⟩ := cur_row hc hm1
 simp only at hv0 hv1
 subst hv0 hv1
 have hc1 : RowsAt w1 isStr rc 384 2 (rowsT A) := hc.kept hst.kept (by simp)
 have c0 : w1.cell? ⟨g, 0, none⟩ = some (.string m0) := by
  have := (own_cell (hst.m 0 rfl) (names_get (L := L) (j := 0) (by omega))).1
  rw [e0] at this; exact this
 have c1 : w1.cell? ⟨g, n - 1, none⟩ = some (.string m1) := by
  have := (own_cell (hst.m 0 rfl) (names_get (L := L) (j := n - 1) (by omega))).1
  rw [e1] at this; exact this
 have hb0 := HN.out.2.2.2 _ hm0
 have hb1 := HN.out.2.2.2 _ hm1
 simp only at hb0 hb1
 have hmn : ∀ y ∈ A, p0.length ≤ y.2.2.length := fun y hy => by
  have hy' : (y.1, y.2.2.length) ∈ L := hL.perm.mem_iff.2 (List.mem_map_of_mem (f := fun x : Rw => (x.1, x.2.2.length)) hy)
  obtain ⟨j, hj⟩ := List.mem_iff_getElem?.1 hy'
  obtain ⟨hj1, hj2⟩ := List.getElem?_eq_some_iff.1 hj
  by_cases h0 : j = 0
  · subst h0
    rw [e0] at hj2
    simp only [Prod.mk.injEq] at hj2
    omega
  · have h1 := List.pairwise_iff_getElem.1 hL.sorted 0 j (by omega) hj1 (by omega)
    have h2 := idLt_len h1
    rw [e0, hj2] at h2
    exact h2
 have hmx : ∀ y ∈ A, y.2.2.length ≤ p1.length := fun y hy => by
  have hy' : (y.1, y.2.2.length) ∈ L := hL.perm.mem_iff.2 (List.mem_map_of_mem (f := fun x : Rw => (x.1, x.2.2.length)) hy)
  obtain ⟨j, hj⟩ := List.mem_iff_getElem?.1 hy'
  obtain ⟨hj1, hj2⟩ := List.getElem?_eq_some_iff.1 hj
  by_cases h0 : j = n - 1
  · subst h0
    rw [e1] at hj2
    simp only [Prod.mk.injEq] at hj2
    omega
  · have h1 := List.pairwise_iff_getElem.1 hL.sorted j (n - 1) hj1 (by omega) (by omega)
    have h2 := idLt_len h1
    rw [e1, hj2] at h2
    exact h2
 have hgap : p0.length + 2 ≤ p1.length := by
  refine Classical.byContradiction fun hno => HN.out.2.1 fun x hx y hy => ?_
  obtain ⟨r, hr, rfl⟩ := List.mem_map.1 hx
  obtain ⟨s, hs, rfl⟩ := List.mem_map.1 hy
  have := hmx r hr
  have := hmn s hs
  omega
 have hn2 : (0 : Int) < (n : Int) := by omega
 have hi1 : IntKind.i64.wrap ((n : Int) - 1) = (n : Int) - 1 := by rw [IntKind.wrap_i64]; omega
 have hi2 : ((n : Int) - 1).toNat = n - 1 := by omega
 have hin0 := cur_in hm0
 have hin1 := cur_in hm1
 simp only at hin0 hin1
 have hor : Ow w1 [Rs.cur rc A, Rs.cur rp Pp] := hap.kept hst.kept (by simp)
 have hst1 : St [] w1 w1 [] [Rs.cur rc A, Rs.cur rp Pp] := St.start0 hor
 have HM := Zhd (Zan hst.kept (Zan hm0 (Zan hm1 (Zan hmn c0)))); clear e0 e1 hm0 hm1 hst hL hlen hmn hmx hor
 have hdec : decide ((p0.length : Int) ≥ (p1.length : Int) - 1) = false := by simp; omega
 go_wp2_with (first
  | (refine wl_lk rfl rfl rfl rfl (keyT_str Tryz.underlying9) Tryz.underlying378 hc1.map hin0 ?_)
  | (refine wl_lk rfl rfl rfl rfl (keyT_str Tryz.underlying9) Tryz.underlying378 hc1.map hin1 ?_)
  | (refine wl_mkmap (V := isTp) rfl rfl hst1 ?_
     intro ra w2 hst2 hra)
  | (refine wl_rngR 0 rfl rfl rfl Tryz.underlying378 hst2 rfl (cur_foot rc A) (show RowsAt _ isStr rc 384 2 (rowsT A) from hst2.r 0 rfl).map ?_
     intro it w3 hst3 hit)
  | fail)
 simp only [Zs0] at hst3
 have hfit : w1.heap.size ≤ it := by have := hst2.size; omega
 have HFIT := Zhd hfit; clear hfit hit hra hst2 hst1
 have h10 : NB1 w1 rc rp it ra A Pp w3 := ⟨[], A, .refl _, by simpa [heldL, heldV] using hst3⟩
 have H10 := Zhd h10; clear h10 hst3 hin0 hin1 hc1 c0 c1
 try go_frame
 go_loopw [9] (fun _ wr => NB1 w1 rc rp it ra A Pp wr) (fun _ wr => leftOf wr it rc)
 case atStart => exact H10.out
 case round =>
  clear H10
  obtain ⟨Dn, Lf, hperm, hst⟩ := hrel
  by_cases hlf : rawR (rowsT Lf) = []
  · have h0 := rawR_nil hlf
    subst h0
    rw [List.append_nil] at hperm
    have hit0 : IterAt wr it rc (rawR (rowsT A)) [] := (hst.r 0 rfl).2.1
    have hst1 := hst.weakR 0 rfl (X' := Rs.cur rc A) (fun h => h.1) (fun g hg => List.mem_append_left [it] hg)
    simp only [Zs0] at hst1
    clear hst
    obtain ⟨pv, qs, hqP, hqp⟩ := HN.out.1.pots _ HM.out.2.1
    simp only at hqP
    obtain ⟨_, aq, cq, hpv⟩ := cur_row (show RowsAt wr isStr rp 384 2 (rowsT Pp) from hst1.r 1 rfl) hqP
    simp only at hpv
    subst hpv
    have hql := hqp.length_eq
    have hcap := HN.out.1.cap
    have hp1q : p1.length ≤ qs.length := by
     have h1 := row_le HM.out.2.2.1
     have h4 : (allOf (asgT A)).length = (A.flatMap (·.2.2)).length := by simp [allOf, asgT, List.flatMap_map]
     have h5 := HN.out.1.all.length_eq
     simp only at h1
     omega
    have c0 : wr.cell? ⟨g, 0, none⟩ = some (.string m0) := hst1.kept.cell HM.out.2.2.2.2 (by simp)
    have hmc := (show RowsAt wr isStr rc 384 2 (rowsT A) from hst1.r 0 rfl).map
    have hmp := (show RowsAt wr isStr rp 384 2 (rowsT Pp) from hst1.r 1 rfl).map
    have hin0 := cur_in HM.out.2.1
    have hinq := cur_in hqP
    simp only at hin0 hinq
    obtain ⟨qn, hqn⟩ : ∃ qn, qs.length = qn := ⟨_, rfl⟩
    obtain ⟨pn, hpn⟩ : ∃ pn, p0.length = pn := ⟨_, rfl⟩
    rw [hqn] at hql hp1q hinq
    rw [hpn] at hgap hdec hin0 hb0 ⊢
    have hneq : ((pn : Int) == (qn : Int)) = false := by simp; omega
    have HQ := Zhd (Zan hqP (Zan hqp (Zan hqn (Zan hpn (Zan hst1 hperm))))); clear hqP hqp hqn hpn hst1 hperm
    go_wp2_with (first | (refine wl_nx0 rfl rfl rfl hit0 ?_) | fail)
    generalize wr = V0 at *
    go_loopw [72] (fun i V => i = .int .i64 0 ∧ V = V0) (fun _ _ => 0)
    case atStart => exact ⟨rfl, rfl⟩
    case round =>
     obtain ⟨rfl, hV⟩ := hrel
     obtain rfl : V0 = wr := hV.symm
     go_wp2_with (first
      | (refine wl_lk rfl rfl rfl rfl (keyT_str Tryz.underlying9) Tryz.underlying378 hmc hin0 ?_)
      | (refine wl_lk rfl rfl rfl rfl (keyT_str Tryz.underlying9) Tryz.underlying378 hmp hinq ?_)
      | fail)
     have h30 : NB3 V0 A qs pn qn (.int .i64 0) V0 := ⟨Kept.refl _ _, 0, rfl, Nat.zero_le _, by simp⟩
     have H30 := Zhd h30; clear h30 c0 hmc hmp hin0 hinq hneq hdec hit0
     go_loopw [92] (fun i V => NB3 V0 A qs pn qn i V) (fun i _ => qn - (intOf i).toNat)
     case atStart => exact H30.out
     case round =>
      clear H30
      obtain ⟨hkV, k, rfl, hk, hno⟩ := hrel
      by_cases hkn : k < qn
      · obtain ⟨q, hqk⟩ : ∃ q, qs[k]? = some q := ⟨_, List.getElem?_eq_getElem (by have := HQ.out.2.2.1; omega)⟩
        obtain ⟨g1, g2⟩ := tp_get hqk
        have hst2 := HQ.out.2.2.2.2.1.kept0 hkV
        have hrw := (cur_row (show RowsAt wr isStr rp 384 2 (rowsT Pp) from hst2.r 1 rfl) HQ.out.1).1
        simp only at hrw
        have hq0 : 0 < qs.length := by have := HQ.out.2.2.1; omega
        obtain ⟨gg, cg, eg⟩ := own_some hrw hq0
        simp only [Value.slice.injEq] at eg
        obtain ⟨rfl, _, rfl⟩ := eg
        have c1 := (own_cell hrw g1).1
        have c2 := (own_cell hrw g2).1
        have hki : (k : Int) < (qn : Int) := by omega
        have hqP : q ∈ A.flatMap (·.2.2) := HN.out.1.all.mem_iff.2 (HQ.out.2.1.mem_iff.1 (List.mem_of_getElem? hqk))
        obtain ⟨y, hyA, hqy⟩ := List.mem_flatMap.1 hqP
        have hts := take_snoc hqk
        have hmc := fun o => (show RowsAt (wr.alloc o) isStr rc 384 2 (rowsT A) from (hst2.alloc o).r 0 rfl).map
        have hin0 := cur_in HM.out.2.1
        simp only at hin0
        rw [HQ.out.2.2.2.1] at hin0
        have hsl := fun o => cur_sl (show RowsAt (wr.alloc o) isStr rc 384 2 (rowsT A) from (hst2.alloc o).r 0 rfl) HM.out.2.1
        have hinc := fun o => inclTp_at (hsl o) q (by simp only; have := HQ.out.2.2.2.1; omega)
        simp only at hinc
        rw [HQ.out.2.2.2.1] at hinc
        have HI := Zhd (Zan hinc (Zan hno (Zan hyA (Zan hqy (Zan hts hst2))))); clear hinc hno hyA hqy hts hsl hrw g1 g2 hqk hqP
        by_cases hin : q ∈ p0
        · have h2 : (p0.any fun y => eqTp q y) = true := List.any_eq_true.2 ⟨q, hin, eqTp_self q⟩
          have H2 := Zhd (Zan h2 hin); clear h2 hin
          go_wp2_with (first
           | (refine wl_lk rfl rfl rfl rfl (keyT_str Tryz.underlying9) Tryz.underlying378 (hmc _) hin0 ?_)
           | (go_at_call 266
              refine (HI.out.1 _).mono ?_
              rw [H2.out.1]
              rintro e w7 ⟨rfl, hk7⟩)
           | fail)
          refine ⟨⟨(hkV.alloc _).trans hk7 (by simp) (by simp), k + 1, by go_num, by omega, fun z hz x hx hzx => ?_⟩, by simp [intOf]; omega⟩
          rw [HI.out.2.2.2.2.1] at hz
          rcases Zap.1 hz with hz | hz
          · exact HI.out.2.1 z hz x hx hzx
          · simp only [Zmc, Znn, or_false] at hz
            subst hz
            have := held_uniq HN.out.2.2.1 hx HM.out.2.1 hzx H2.out.2
            subst this
            simp only
            have := HQ.out.2.2.2.1
            omega
        · have h2 : (p0.any fun y => eqTp q y) = false := by
           cases h : p0.any fun y => eqTp q y with
           | false => rfl
           | true =>
             obtain ⟨y, hy, e⟩ := List.any_eq_true.1 h
             rw [eqTp_iff] at e
             subst e; exact absurd hy hin
          obtain ⟨hyr, ay, cy, hyv⟩ := cur_row (show RowsAt wr isStr rc 384 2 (rowsT A) from HI.out.2.2.2.2.2.r 0 rfl) HI.out.2.2.1
          have hyin := cur_in HI.out.2.2.1
          have hhd := held_in HQ.out.2.2.2.2.2 HI.out.2.2.1 HI.out.2.2.2.1
          have hyb := HN.out.2.2.2 _ HI.out.2.2.1
          obtain ⟨ym, yv, yp⟩ := y
          simp only at hyv hyin hhd hyb
          subst hyv
          obtain ⟨yn, hyn⟩ : ∃ yn, yp.length = yn := ⟨_, rfl⟩
          rw [hyn] at hyin hyb
          have H2 := Zhd (Zan h2 hyn); clear h2 hyr hyn
          by_cases hlt : pn < yn
          · have hlti : (pn : Int) < (yn : Int) := by omega
            go_wp2_with (first
             | (refine wl_lk rfl rfl rfl rfl (keyT_str Tryz.underlying9) Tryz.underlying378 (hmc _) hin0 ?_)
             | (refine wl_lk (kv := tpV q) rfl rfl rfl rfl keyT_tp Tryz.underlying387 hmr hhd ?_)
             | (refine wl_lk rfl rfl rfl rfl (keyT_str Tryz.underlying9) Tryz.underlying378 hmc7 hyin ?_)
             | (go_at_call 266
                refine (HI.out.1 _).mono ?_
                rw [H2.out.1]
                rintro e w7 ⟨rfl, hk7⟩
                have hst7 := (HI.out.2.2.2.2.2.alloc _).kept0 hk7
                have hbx : (wr.alloc (.cells #[.string q.1, .int .i32 q.2] 384)).cell? ⟨wr.heap.size, 0, none⟩ = some (.string q.1) ∧ (wr.alloc (.cells #[.string q.1, .int .i32 q.2] 384)).cell? ⟨wr.heap.size, 1, none⟩ = some (.int .i32 q.2) := ⟨by simp [go_sem], by simp [go_sem]⟩
                have d0 := hk7.cell hbx.1 (by simp)
                have d1 := hk7.cell hbx.2 (by simp)
                clear hbx
                have hmr : MapAt w7 isTp ra (heldV (heldL Dn)) := hst7.m 0 rfl
                have hmc7 := (show RowsAt w7 isStr rc 384 2 (rowsT A) from hst7.r 0 rfl).map)
             | fail)
            go_ret
            exact ⟨rfl, HM.out.1.trans hst7.kept (by simp) (by simp)⟩
          · have hlti : ¬ (pn : Int) < (yn : Int) := by omega
            go_wp2_with (first
             | (refine wl_lk rfl rfl rfl rfl (keyT_str Tryz.underlying9) Tryz.underlying378 (hmc _) hin0 ?_)
             | (refine wl_lk (kv := tpV q) rfl rfl rfl rfl keyT_tp Tryz.underlying387 hmr hhd ?_)
             | (refine wl_lk rfl rfl rfl rfl (keyT_str Tryz.underlying9) Tryz.underlying378 hmc7 hyin ?_)
             | (go_at_call 266
                refine (HI.out.1 _).mono ?_
                rw [H2.out.1]
                rintro e w7 ⟨rfl, hk7⟩
                have hst7 := (HI.out.2.2.2.2.2.alloc _).kept0 hk7
                have hbx : (wr.alloc (.cells #[.string q.1, .int .i32 q.2] 384)).cell? ⟨wr.heap.size, 0, none⟩ = some (.string q.1) ∧ (wr.alloc (.cells #[.string q.1, .int .i32 q.2] 384)).cell? ⟨wr.heap.size, 1, none⟩ = some (.int .i32 q.2) := ⟨by simp [go_sem], by simp [go_sem]⟩
                have d0 := hk7.cell hbx.1 (by simp)
                have d1 := hk7.cell hbx.2 (by simp)
                clear hbx
                have hmr : MapAt w7 isTp ra (heldV (heldL Dn)) := hst7.m 0 rfl
                have hmc7 := (show RowsAt w7 isStr rc 384 2 (rowsT A) from hst7.r 0 rfl).map)
             | fail)
            refine ⟨⟨(hkV.alloc _).trans hk7 (by simp) (by simp), k + 1, by go_num, by omega, fun z hz x hx hzx => ?_⟩, by simp [intOf]; omega⟩
            rw [HI.out.2.2.2.2.1] at hz
            rcases Zap.1 hz with hz | hz
            · exact HI.out.2.1 z hz x hx hzx
            · simp only [Zmc, Znn, or_false] at hz
              subst hz
              have := held_uniq HN.out.2.2.1 hx HI.out.2.2.1 hzx HI.out.2.2.2.1
              subst this
              simp only
              have := H2.out.2
              omega
      · obtain rfl : k = qn := by omega
        exfalso
        rw [List.take_of_length_le (by have := HQ.out.2.2.1; omega)] at hno
        have hp1 : 0 < p1.length := by omega
        obtain ⟨z, hz⟩ : ∃ z, z ∈ p1 := ⟨_, List.getElem_mem hp1⟩
        have hzP : z ∈ qs := HQ.out.2.1.mem_iff.2 (HN.out.1.all.mem_iff.1 (List.mem_flatMap.2 ⟨_, HM.out.2.2.1, hz⟩))
        have := hno z hzP _ HM.out.2.2.1 hz
        simp only at this
        omega
  · obtain ⟨wB, rfl⟩ : ∃ wB, wB = wr := ⟨_, rfl⟩
    have HL := Zhd hperm; clear hperm
    go_wp2_with (first
     | (refine wl_nx1R 0 (cur_foot rc A) rfl rfl rfl hst rfl hlf HFIT.out ?_
        intro kx v l1 l2 w5 hsp hst2 hent
        simp only [Zs0] at hst2
        obtain ⟨L1, x, L2, rfl, rfl, rfl, rfl, rfl⟩ := rawR_split hsp
        obtain ⟨m, pv, ps⟩ := x
        have hxA := HL.out.mem_iff.1 (show (m, pv, ps) ∈ Dn ++ (L1 ++ (m, pv, ps) :: L2) by simp)
        obtain ⟨hrow, xa, xc, hxv⟩ := cur_row (show RowsAt w5 isStr rc 384 2 (rowsT A) from (hst2.r 0 rfl).1) hxA
        simp only at hxv hrow
        subst hxv
        have HSP := Zhd (Zan hsp (Zan hxA hrow)); clear hsp hxA hrow)
     | (refine wl_entry rfl rfl rfl hent ?_)
     | fail)
    obtain ⟨pn, hpn⟩ : ∃ pn, ps.length = pn := ⟨_, rfl⟩
    have hbp := HN.out.2.2.2 _ HSP.out.2.1
    simp only at hbp
    rw [hpn] at hbp ⊢
    have h20 : NB2 w1 ra Dn m ps pn [Rs.it (Rs.cur rc A) rc (rawR (rowsT A)) (rawR (rowsT L1) ++ rawR (rowsT L2)) it (cur_foot rc A), Rs.cur rp Pp] (.int .i64 0) w5 := ⟨0, rfl, Nat.zero_le _, by simpa using hst2⟩
    have H20 := Zhd (Zan h20 hpn); clear h20 hst2 hent hpn
    go_wp2_with fail
    go_loopw [55] (fun i wr => NB2 w1 ra Dn m ps pn [Rs.it (Rs.cur rc A) rc (rawR (rowsT A)) (rawR (rowsT L1) ++ rawR (rowsT L2)) it (cur_foot rc A), Rs.cur rp Pp] i wr) (fun i _ => pn - (intOf i).toNat)
    case atStart => exact H20.out.1
    case round =>
     obtain ⟨k, rfl, hk, hst3⟩ := hrel
     by_cases hkn : k < pn
     · obtain ⟨p, hpk⟩ : ∃ p, ps[k]? = some p := ⟨_, List.getElem?_eq_getElem (by have := H20.out.2; omega)⟩
       obtain ⟨g1, g2⟩ := tp_get hpk
       have hrw := (cur_row (show RowsAt wr isStr rc 384 2 (rowsT A) from (hst3.r 0 rfl).1) HSP.out.2.1).1
       simp only at hrw
       have hn0 : 0 < ps.length := by have := H20.out.2; omega
       obtain ⟨gg, cg, eg⟩ := own_some hrw hn0
       simp only [Value.slice.injEq] at eg
       obtain ⟨rfl, _, rfl⟩ := eg
       have c1 := (own_cell hrw g1).1
       have c2 := (own_cell hrw g2).1
       have hmi := heldV_miss (nb_new HN.out.2.2.1 HL.out hpk)
       have hts : (ps.take (k + 1)).map (fun q => ((q, m) : TP × ByteArray)) = (ps.take k).map (fun q => (q, m)) ++ [(p, m)] := by rw [take_snoc hpk]; simp
       have hki : (k : Int) < (pn : Int) := by omega
       have hmp : ∀ o, MapAt (wr.alloc o) isTp ra (heldV (heldL Dn ++ (ps.take k).map fun q => (q, m))) := fun o => (hst3.alloc o).m 0 rfl
       have HM := Zhd (Zan hmi hts); clear hmi hts hrw g1 g2 hpk
       go_wp2_with (first
        | (refine wl_lkN2 (kv := tpV p) rfl rfl rfl rfl keyT_tp Tryz.underlying387 (hmp _) ⟨_, _, rfl⟩ HM.out.1 (Tryz.zeroValue9 _) ?_)
        | (refine wl_upd (kv := tpV p) (vv := .string m) 0 rfl rfl rfl rfl rfl keyT_tp Tryz.underlying387 (hst3.alloc _) rfl ⟨_, _, rfl⟩ ?_
           intro w6 hst4
           simp only [Zs0] at hst4
           rw [putE_miss HM.out.1] at hst4)
        | fail)
       have e4 : heldV (heldL Dn ++ (ps.take k).map fun q => (q, m)) ++ [(tpV p, .string m)] = heldV (heldL Dn ++ (ps.take (k + 1)).map fun q => ((q, m) : TP × ByteArray)) := by
        rw [HM.out.2, ← List.append_assoc, heldV_append (heldL Dn ++ _) [(p, m)]]; rfl
       rw [e4] at hst4
       exact ⟨⟨k + 1, by go_num, by omega, hst4⟩, by simp [intOf]; omega⟩
     · obtain rfl : k = pn := by omega
       rw [List.take_of_length_le (by have := H20.out.2; omega)] at hst3
       have e5 : heldL Dn ++ ps.map (fun q => ((q, m) : TP × ByteArray)) = heldL (Dn ++ [(m, .slice xa k xc, ps)]) := by simp [heldL]
       rw [e5] at hst3
       have e : rawR (rowsT L1) ++ rawR (rowsT L2) = rawR (rowsT (L1 ++ L2)) := by rw [rowsT_append, rawR_append]
       have hnx : NB1 w1 rc rp it ra A Pp wr := ⟨Dn ++ [(m, .slice xa k xc, ps)], L1 ++ L2, by
        refine List.Perm.trans ?_ (show (Dn ++ (L1 ++ (m, .slice xa k xc, ps) :: L2)).Perm A by have h := HL.out; rwa [H20.out.2] at h)
        rw [List.append_assoc]
        exact List.Perm.append_left _ (by simpa using (List.perm_middle (l₁ := L1) (l₂ := L2) (a := ((m, .slice xa k xc, ps) : Rw))).symm), by simpa only [e] using hst3⟩
       have hms : leftOf wr it rc < leftOf wB it rc := by
        have h1 : IterAt wr it rc (rawR (rowsT A)) (rawR (rowsT L1) ++ rawR (rowsT L2)) := (hst3.r 0 rfl).2.1
        have h2 : IterAt wB it rc (rawR (rowsT A)) _ := (hst.r 0 rfl).2.1
        rw [h1.leftOf, h2.leftOf, HSP.out.1]
        simp
       have HNX := Zhd (Zan hnx hms); clear hnx hms hst3
       go_wp2_with fail
       exact HNX.out
end
section
open Go Go.Proofs Go.RowKit Go.Lib
open Classical
theorem mem_putE_self (l : List (Value × Value)) (k v : Value) : (k, v) ∈ putE l k v := by
 unfold putE
 split
 · rename_i h
   obtain ⟨u, hu⟩ := h
   exact List.mem_map.2 ⟨_, hu, by simp⟩
 · simp
theorem mem_putE_oth {l : List (Value × Value)} {k v k' v' : Value} (h : (k', v') ∈ l) (hne : k' ≠ k) : (k', v') ∈ putE l k v := by
 unfold putE
 split
 · exact List.mem_map.2 ⟨_, h, by simp [hne]⟩
 · exact List.mem_append_left _ h
theorem asgT_ks (A : List Rw) : ks (asgT A) = A.map (·.1) := by simp [ks, asgT, Function.comp_def]
theorem row_of {A : List Rw} (hn : (A.map (·.1)).Nodup) {x : Rw} (hx : x ∈ A) : rowOf (asgT A) x.1 = x.2.2 :=
 rowOf_mem (by rw [← asgT_ks] at hn; exact hn) (List.mem_map.2 ⟨x, hx, rfl⟩)
theorem row_ex {A : List Rw} (hn : (A.map (·.1)).Nodup) {m : ByteArray} (hm : m ∈ A.map (·.1)) : ∃ v, (m, v, rowOf (asgT A) m) ∈ A := by
 obtain ⟨x, hx, rfl⟩ := List.mem_map.1 hm
 exact ⟨x.2.1, by rw [row_of hn hx]; exact hx⟩
theorem ld_row {A : List Rw} (hn : (A.map (·.1)).Nodup) {x : Rw} (hx : x ∈ A) : ld (asgT A) x.1 = x.2.2.length := by unfold ld; rw [row_of hn hx]
theorem near_rows {A : List Rw} (hn : (A.map (·.1)).Nodup) : NearK (asgT A) ↔ Near (A.map (·.2.2.length)) := by
 rw [nearK_iff (by rw [asgT_ks]; exact hn)]
 have : loads (asgT A) = A.map (·.2.2.length) := by simp [loads, asgT, Function.comp_def]
 rw [this]
theorem cpc_step {A A2 : List Rw} {lq : List (Value × Value)} {c d : ByteArray} {p : TP} (hn : (A.map (·.1)).Nodup) (hn2 : (A2.map (·.1)).Nodup) (ha : (allOf (asgT A)).Nodup) (hk : A2.map (·.1) = A.map (·.1)) (hmv : Moved (asgT A) (asgT A2) c d p) (hcd : c ≠ d) (hc : c ∈ A.map (·.1))
 (h : ∀ x ∈ A, ∀ q ∈ x.2.2, (tpV q, Value.string x.1) ∈ lq) : ∀ x ∈ A2, ∀ q ∈ x.2.2, (tpV q, Value.string x.1) ∈ putE lq (tpV p) (.string d) := by
 have hks : (ks (asgT A)).Nodup := by rw [asgT_ks]; exact hn
 have hold : ∀ m ∈ A.map (·.1), ∀ q ∈ rowOf (asgT A) m, (tpV q, Value.string m) ∈ lq := fun m hm q hq => by
  obtain ⟨v, hv⟩ := row_ex hn hm
  exact h _ hv q hq
 have hpc : p ∈ rowOf (asgT A) c := hmv.src.mem_iff.2 (by simp)
 intro x hx q hq
 have hm : x.1 ∈ A.map (·.1) := by rw [← hk]; exact List.mem_map_of_mem hx
 rw [← row_of hn2 hx] at hq
 by_cases e1 : x.1 = d
 · by_cases e2 : q = p
   · subst e2
     rw [e1]; exact mem_putE_self _ _ _
   · rw [e1] at hq hm ⊢
     have h1 := hmv.dst.mem_iff.1 hq
     rcases Zmc.1 h1 with h1 | h1
     · exact absurd h1 e2
     · exact mem_putE_oth (hold d hm q h1) (fun e => e2 (tpV_inj e))
 · have hin : q ∈ rowOf (asgT A) x.1 ∧ q ≠ p := by
    by_cases e3 : x.1 = c
    · rw [e3] at hq ⊢
      have hnd : (rowOf (asgT A) c).Nodup := rows_nodup hks ha (by rw [asgT_ks]; exact hc)
      have h2 := hmv.src.nodup_iff.1 hnd
      rw [List.nodup_cons] at h2
      exact ⟨hmv.src.mem_iff.2 (List.mem_cons_of_mem _ hq), fun e => h2.1 (e ▸ hq)⟩
    · rw [hmv.oth x.1 e3 e1] at hq
      exact ⟨hq, fun e => by
       subst e
       exact e3 (rows_one hks ha (by rw [asgT_ks]; exact hm) (by rw [asgT_ks]; exact hc) hq hpc)⟩
   exact mem_putE_oth (hold x.1 hm q hin.1) (fun e => hin.2 (tpV_inj e))
def PfSt (S : List Nat) (w : World) (sp rb rm rc rq n : Nat) (cp : Bool) (Ks : List ByteArray) (P : List TP) (R : List Res) (vi : Value) (A : List Rw) (wr : World) : Prop :=
 ∃ lq L g c Gs E0 D I Mv, vi = .slice (some ⟨g, 0, none⟩) n c ∧ IdsOf A L ∧ Gain (asgT A) Gs ∧ MovOk (fun x => x ∈ Gs) (fun q => ∃ z ∈ Gs, q ∈ rowOf (asgT A) z) E0 D I Mv ∧ (∀ x ∈ A, ∀ p ∈ x.2.2, (tpV p, Value.string x.1) ∈ lq) ∧ A.map (·.1) = Ks ∧ (allOf (asgT A)).Perm P ∧
  St S w wr ([Rs.cur rc A, Rs.map rq isTp lq, Rs.ids vi n L] ++ movM sp rb rm cp E0 D I Mv) R
def Stuck (A : List Rw) (qs : List TP) : Prop := ∀ q ∈ qs, ∀ x ∈ A, q ∈ x.2.2 → ∀ y ∈ A, x.2.2.length ≤ y.2.2.length + 1
theorem stuck_near {A : List Rw} {zs : List TP} (hz : zs.Perm (allOf (asgT A))) (h : Stuck A zs) : Near (A.map (·.2.2.length)) := by
 intro a ha b hb
 obtain ⟨x, hx, rfl⟩ := List.mem_map.1 ha
 obtain ⟨y, hy, rfl⟩ := List.mem_map.1 hb
 cases hps : x.2.2 with
 | nil => simp
 | cons q qs =>
   have h1 : q ∈ zs := hz.mem_iff.2 (List.mem_flatMap.2 ⟨(x.1, x.2.2), List.mem_map.2 ⟨x, hx, rfl⟩, by simp [hps]⟩)
   have h2 := h q h1 x hx (by rw [hps]; simp) y hy
   rw [hps] at h2
   exact h2
def PfOut (S : List Nat) (w : World) (sp rb rm rc rq n : Nat) (cp : Bool) (Ks : List ByteArray) (P : List TP) (R : List Res) (Inv : Nat → Asg → Prop) (vi u : Value) (wr : World) (m : Nat) : Prop :=
 ∃ (A : List Rw) (b : Bool), u = .bool b ∧ Inv 0 (asgT A) ∧ sqs (asgT A) = m ∧ PfSt S w sp rb rm rc rq n cp Ks P R vi A wr
def PfIn (S : List Nat) (w : World) (sp rb rm rc rq n : Nat) (cp : Bool) (Ks : List ByteArray) (P zs : List TP) (kz : Nat) (R : List Res) (Inv : Nat → Asg → Prop) (m0 : Nat) (vi u md i : Value) (wr : World) : Prop :=
 ∃ (A : List Rw) (b d : Bool) (k : Nat), u = .bool b ∧ md = .bool d ∧ i = .int .i64 k ∧ k ≤ kz ∧ Inv k (asgT A) ∧ (d = false → sqs (asgT A) = m0 ∧ Stuck A (zs.take k)) ∧ (d = true → sqs (asgT A) < m0) ∧ PfSt S w sp rb rm rc rq n cp Ks P R vi A wr
def PfPost (S : List Nat) (w : World) (sp rb rm rc rq n : Nat) (cp : Bool) (Ks : List ByteArray) (P : List TP) (R : List Res) (Inv : Nat → Asg → Prop) (e : Ending) (w' : World) : Prop :=
 ∃ (A : List Rw) (b : Bool) (k : Nat) (vi : Value), e = .returned (.bool b) ∧ Inv k (asgT A) ∧ Near (A.map (·.2.2.length)) ∧ PfSt S w sp rb rm rc rq n cp Ks P R vi A w'
end
end Go.Proofs.YticcnlpfmekagaaGreat
