/- Part 23 of the proof of the row: SrtA. -/
import Derived.Test.YticcnlpfmekagaaGreatRc00
import Derived.Test.YticcnlpfmekagaaGreatRc18
import Derived.Test.YticcnlpfmekagaaGreatRc19
set_option linter.unusedVariables false
set_option linter.unusedSimpArgs false
set_option maxRecDepth 100000
set_option maxHeartbeats 8000000
namespace Go.Proofs.YticcnlpfmekagaaGreat
section
open Go Go.Proofs Go.RowKit Go.Lib
open Classical
def UnT (L : List TP) : List (Value × Value) := L.map fun p => (tpV p, .bool true)
theorem unT_snoc (L : List TP) (s : TP) : UnT L ++ [(tpV s, .bool true)] = UnT (L ++ [s]) := by simp [UnT]
theorem unT_split {L : List TP} {l1 l2 : List (Value × Value)} {k v : Value} (h : UnT L = l1 ++ (k, v) :: l2) : ∃ A p B, L = A ++ p :: B ∧ l1 = UnT A ∧ k = tpV p ∧ v = .bool true ∧ l2 = UnT B := by
 obtain ⟨A, p, B, rfl, h1, h2, h3⟩ := map_split _ L l1 l2 _ h
 rw [Prod.mk.injEq] at h2
 exact ⟨A, p, B, rfl, h1, h2.1, h2.2, h3⟩
theorem unT_append (A B : List TP) : UnT (A ++ B) = UnT A ++ UnT B := by simp [UnT]
theorem unT_nodup {L : List TP} (h : L.Nodup) : ((UnT L).map (·.1)).Nodup := by
 have e : (UnT L).map (·.1) = L.map (fun p : TP => (tpV p : Value)) := by simp [UnT]
 rw [e]
 exact List.nodup_iff_pairwise_ne.2 ((List.nodup_iff_pairwise_ne.1 h).map _ (fun a b h1 h2 => h1 (tpV_inj h2)))
theorem unT_miss {L : List TP} {s : TP} (h : s ∉ L) : ∀ u, (tpV s, u) ∉ UnT L := by
 intro u hu
 obtain ⟨t, ht, e⟩ := List.mem_map.1 hu
 rw [Prod.mk.injEq] at e
 exact h (tpV_inj e.1 ▸ ht)
theorem p2c_keys {w : World} {r : Nat} {B : List Sw} (h : RowsAt w isTp r 9 1 (rowsS B)) : (B.map (·.1)).Nodup := by
 have h1 := h.keys
 have e : (rowsS B).map (·.1) = (B.map (·.1)).map (fun p : TP => (tpV p : Value)) := by simp [rowsS, rowS, Function.comp_def]
 rw [e] at h1
 exact (List.pairwise_map.1 h1).imp fun h e => h (by rw [e])
structure SrtOk (n np N : Nat) (A : List Rw) (B : List Sw) (Pp : List Rw) (Ks : List ByteArray) (Ps : List TP) : Prop where
 id : IdOk n B Ks
 pp : ∀ x ∈ Pp, x.2.2.Perm Ps
 nd : Ps.Nodup
 nl : Ps.length = np
 pos : 0 < np
 small : np ≤ 1000
 bn : B.length = N
 bs : N ≤ 1000
 al : A.length ≤ 1000
 ab : ∀ x ∈ A, x.2.2.length ≤ 1000
 an : Nils A
 ain : ∀ x ∈ A, ∀ p ∈ x.2.2, p ∈ B.map (·.1)
 adis : (A.flatMap (·.2.2)).Nodup
def SrtPost (w : World) (N : Nat) (B : List Sw) (e : Ending) (w' : World) : Prop :=
 ∃ (v : Value) (zs : List TP), e = .returned v ∧ zs.Perm (B.map (·.1)) ∧ St [] w w' [Rs.row 384 2 v N (zs.flatMap encTp)] []
def SPQ (w : World) (r' it g b nq c gs cs rm : Nat) (B' : List Rw) (keys : List TP) (R : List Res) (i : Value) (wr : World) : Prop :=
 ∃ (k : Nat) (Dn Lf : List Rw) (L : List It) (rs : List Value), i = .int .i64 k ∧ Dn.length = k ∧ (Dn ++ Lf).Perm B' ∧ Made Dn L ∧ rs.length = Lf.length ∧
  St [] w wr [Rs.its L, qbox b g nq c, Rs.row 412 1 (.slice (some ⟨g, 0, none⟩) nq c) nq (ptrs L ++ rs), itB r' B' (rawR (rowsT Lf)) it, Rs.row 384 2 (.slice (some ⟨gs, 0, none⟩) 0 cs) 0 [], Rs.map rm isTp (UnT keys)] R
def SPM (w : World) (r' b g cq rm : Nat) (B' : List Rw) (keys tot : List TP) (R : List Res) (v : Value) (wr : World) (m : Nat) : Prop :=
 ∃ (n na : Nat) (Q : List (It × List TP)) (acc Un : List TP), Q.length = n ∧ acc.length = na ∧ n ≤ 1000 ∧ n + (Q.flatMap (·.2)).length = m ∧ (∀ z ∈ Q, ItOf B' z.1 z.2) ∧ (acc ++ Q.flatMap (·.2)).Perm tot ∧ (acc ++ Un).Perm keys ∧
  St [] w wr [qrow g n cq (Q.map (·.1)), Rs.its (Q.map (·.1)), qbox b g n cq, Rs.cur r' B', Rs.row 384 2 v na (acc.flatMap encTp), Rs.map rm isTp (UnT Un)] R
def SPF (w : World) (rm it : Nat) (Un keys : List TP) (R : List Res) (v : Value) (wr : World) : Prop :=
 ∃ (na : Nat) (acc Lf : List TP), acc.length = na ∧ (acc ++ Lf).Perm keys ∧ St [] w wr [Rs.row 384 2 v na (acc.flatMap encTp), Rs.it (Rs.map rm isTp (UnT Un)) rm (UnT Un) (UnT Lf) it (by simp [Rs.map])] R
abbrev MQ (r' b g n cq rm : Nat) (B' : List Rw) (Q : List (It × List TP)) (v : Value) (na : Nat) (acc Un : List TP) : List Res :=
 [qrow g n cq (Q.map (·.1)), Rs.its (Q.map (·.1)), qbox b g n cq, Rs.cur r' B', Rs.row 384 2 v na (acc.flatMap encTp), Rs.map rm isTp (UnT Un)]
def SPA (w : World) (rk it rm : Nat) (B : List Sw) (R : List Res) (wr : World) : Prop :=
 ∃ (Dn Lf : List Sw), (Dn ++ Lf).Perm B ∧ St [] w wr [Rs.map rm isTp (UnT (Dn.map (·.1)))] (itQ rk B (rawR (rowsS Lf)) it :: R)
theorem sort231 (fr : Bool) (rc rv rk rp n np N : Nat) (A : List Rw) (B : List Sw) (Pp : List Rw) (Ks : List ByteArray) (Ps : List TP) (w : World)
 (how : Ow w [Rs.p2c rk B, Rs.cur rc A, Rs.map rv isTp [], Rs.cur rp Pp]) (hok : SrtOk n np N A B Pp Ks Ps) :
 Calls Tryz.prog 231 #[.map (some rc), .map (some rv), .bool fr, .map (some rk), .map (some rp)] w (SrtPost w N B) := by
 have hst0 : St [] w w [] [Rs.p2c rk B, Rs.cur rc A, Rs.map rv isTp [], Rs.cur rp Pp] := St.start0 how
 have hBN := hok.bn
 have hBS := hok.bs
 have hlen := fun w' (h : MapAt w' isTp rk (rawR (rowsS B))) => map_len (P := Tryz.prog) h Tryz.underlying382 3
 rw [rawS_len, hBN] at hlen
 have hl1 := hlen w (show RowsAt _ isTp rk 9 1 (rowsS B) from hst0.r 0 rfl).map
 clear hlen how
 have HOK := Zhd hok; clear hok hBN
 go_enter Tryz.func231, Tryz.ntmps231
 go_wp2_with (first
  | (refine wl_mkmapN (n := N) (V := isTp) rfl rfl rfl Tryz.underlying388 hst0 ?_
     intro rm w1 hst1 hrm)
  | (refine wl_rngR 0 rfl rfl rfl Tryz.underlying382 hst1 rfl (cur_footS rk B) (show RowsAt _ isTp rk 9 1 (rowsS B) from hst1.r 0 rfl).map ?_
     intro it w2 hst2 hit)
  | fail)
 simp only [Zs0] at hst2
 have hfit : w.heap.size ≤ it := by have := hst1.size; omega
 have HFIT := Zhd hfit; clear hfit hit hrm hst1 hst0 hl1
 have h10 : SPA w rk it rm B [Rs.cur rc A, Rs.map rv isTp [], Rs.cur rp Pp] w2 := ⟨[], B, .refl _, hst2⟩
 have H10 := Zhd h10; clear h10 hst2
 try go_frame
 go_loopw [12] (fun _ wr => SPA w rk it rm B [Rs.cur rc A, Rs.map rv isTp [], Rs.cur rp Pp] wr) (fun _ wr => leftOf wr it rk)
 case atStart => exact H10.out
 case round =>
  obtain ⟨Dn, Lf, hperm, hst⟩ := hrel
  by_cases hlf : rawR (rowsS Lf) = []
  · have h0 := rawS_nil hlf
    subst h0
    have hit0 : IterAt wr it rk (rawR (rowsS B)) [] := (hst.r 0 rfl).2.1
    have hst1 := hst.weakR 0 rfl (X' := Rs.p2c rk B) (fun h => h.1) (fun g hg => List.mem_append_left [it] hg)
    simp only [Zs0] at hst1
    rw [List.append_nil] at hperm
    have HP := Zhd (Zan hperm (p2c_keys (show RowsAt _ isTp rk 9 1 (rowsS B) from hst1.r 0 rfl))); clear hperm hst
    cases fr
    · have hid := fun w' (h : Ow w' [Rs.p2c rk B, Rs.cur rp Pp]) => identical_true rk rp n np B Pp Ks Ps w' h HOK.out.id HOK.out.pp HOK.out.nd HOK.out.nl HOK.out.pos HOK.out.small
      have hfl := fun w' (h : Ow w' [Rs.cur rc A, Rs.p2c rk B]) => filter_all_in rc rk A B w' h HOK.out.al HOK.out.ab HOK.out.an HOK.out.ain
      have HC := Zhd (Zan hid hfl); clear hid hfl
      go_upto_region 9 with (first
       | (refine wl_nx0 rfl rfl rfl hit0 ?_)
       | (refine wl_mkslice 0 rfl rfl rfl rfl elTp hst1 (by omega) (by unfold maxLen; omega) ?_
          intro gs w4 hst4 hg)
       | (go_at_call 238
          refine (HC.out.1 _ (hst4.read.sub (List.Sublist.cons_cons _ (List.Sublist.cons _ (List.Sublist.cons _ (List.Sublist.refl _)))))).mono ?_
          rintro e w5 ⟨rfl, hkk⟩
          have hst5 := hst4.kept0 hkk)
       | (go_at_call 239
          refine (HC.out.2 _ (hst5.read.perm (List.Perm.swap ..) |>.sub (List.Sublist.cons_cons _ (List.Sublist.cons_cons _ (List.nil_sublist _))))).mono ?_
          rintro e w6 ⟨r', B', rfl, hB1, hB2, hst6⟩
          have hst7 := St.call (M1 := []) hst5 hst6)
       | fail)
      have hst8 := (((hst7.dropR 3).dropR 1).dropR 0)
      simp only [Ze0, Ze1, List.cons_append, List.nil_append] at hst8
      clear hst1 hst4 hst5 hst6 hst7 hit0 HC hg
      obtain ⟨nq, hnq⟩ : ∃ nq, B'.length = nq := ⟨_, rfl⟩
      have hnq1 : nq ≤ 1000 := by
       have h1 := hB1.length_eq
       have h2 := HOK.out.al
       simp [asgT] at h1; omega
      obtain ⟨keys, hkeys⟩ : ∃ keys, keys = Dn.map (·.1) := ⟨_, rfl⟩
      rw [← hkeys] at hst8
      have hkp : keys.Perm (B.map (·.1)) := by rw [hkeys]; exact HP.out.1.map _
      have htp : (B'.flatMap (·.2.2)).Perm (A.flatMap (·.2.2)) := by
       have h1 := hB1.flatMap_right (·.2)
       simpa [asgT, List.flatMap_map] using h1
      have htk : ∀ p ∈ B'.flatMap (·.2.2), p ∈ keys := fun p hp => by
       obtain ⟨x, hx, hp2⟩ := List.mem_flatMap.1 (htp.mem_iff.1 hp)
       exact hkp.mem_iff.2 (HOK.out.ain x hx p hp2)
      have htn : (B'.flatMap (·.2.2)).Nodup := htp.nodup_iff.2 HOK.out.adis
      have hkd : keys.Nodup := hkp.nodup_iff.2 HP.out.2
      have hkN : keys.length = N := by rw [hkp.length_eq, List.length_map]; exact HOK.out.bn
      have HT := Zhd (Zan htk (Zan htn (Zan hkd (Zan hkN (sub_len htn htk))))); clear htp htk htn hkd hkN
      have HB2 := Zhd (Zan hB1 (Zan hB2 (Zan hkp hnq))); clear hB1 hB2 hkp hkeys
      have hlen := fun w' (h : MapAt w' isStr r' (rawR (rowsT B'))) => map_len (P := Tryz.prog) h Tryz.underlying378 3
      rw [raw_len, hnq] at hlen
      have hl1 := hlen w6 (show RowsAt _ isStr r' 384 2 (rowsT B') from hst8.m 0 rfl).map
      clear hlen hnq
      go_wp2_with (first
       | (refine wl_mkfull nq rfl rfl rfl rfl elIt hst8 (by omega) (by unfold maxLen; omega) ?_
          intro g cs w7 hcs hst9 hg
          have HCS := Zhd hcs; clear hcs)
       | (refine wl_rng 2 rfl rfl rfl Tryz.underlying378 (hst9.blk _) rfl (cur_foot r' B') (show RowsAt _ isStr r' 384 2 (rowsT B') from (hst9.blk _).m 2 rfl).map ?_
          intro it w8 hst10 hit)
       | fail)
      simp only [Zs0, Zs1] at hst10
      have hst11 := hst10.push (X := Rs.its []) (Kept.refl _ _) ⟨by simp, by simp⟩ (by simp [Rs.its])
      clear hit hst10 hst9 hst8 hg hl1
      generalize w7.heap.size = b at hst11 ⊢
      have h10 : SPQ w r' it g b nq nq gs 0 rm B' keys [Rs.map rv isTp []] (.int .i64 0) w8 := ⟨0, [], B', [], cs, rfl, rfl, .refl _, rfl, by rw [HCS.out, HB2.out.2.2.2]; omega, by simpa [ptrs] using hst11⟩
      have H10 := Zhd h10; clear h10 hst11
      try go_frame
      go_loopw [16] (fun i wr => SPQ w r' it g b nq nq gs 0 rm B' keys [Rs.map rv isTp []] i wr) (fun _ wr => leftOf wr it r')
      case atStart => exact H10.out
      case round =>
       obtain ⟨k, Dq, Lf, L, rs, rfl, hkD, hperm, hmade, hrs, hst⟩ := hrel
       have hkL := hmade.len
       have hkn : k + Lf.length = nq := by rw [← HB2.out.2.2.2, ← hperm.length_eq, List.length_append]; omega
       by_cases hlf : rawR (rowsT Lf) = []
       · have h0 := rawR_nil hlf
         subst h0
         have hit0 : IterAt wr it r' (rawR (rowsT B')) [] := (hst.m 3 rfl).2.1
         obtain rfl : rs = [] := List.eq_nil_of_length_eq_zero (by simpa using hrs)
         have hst5 := (hst.weak 3 rfl (X' := Rs.cur r' B') (fun h => h.1) (fun g hg => List.mem_append_left [it] hg)).front 2 rfl
         simp only [Zs0, Zs1, Ze0, Ze1, List.append_nil] at hst5
         rw [List.append_nil] at hperm
         have hrw : RowsAt wr isStr r' 384 2 (rowsT B') := hst5.m 3 rfl
         obtain ⟨Q, hQ1, hQ2, hQ3⟩ := made_queue hrw Dq L hmade (fun x hx => hperm.mem_iff.1 hx)
         have hqO : Hq _ wr b g nq nq L L wr := Hq.start (hst5.own.sub (List.sublist_append_left [_, _, _] _)) (fun x h => h) (by omega)
         have HQ := Zhd (Zan hQ1 (Zan hQ2 (Zan hQ3 hperm))); clear hQ1 hQ2 hQ3 hperm hrw hst hmade hrs
         go_wp2_with (first
          | (refine wl_nx0 rfl rfl rfl hit0 ?_)
          | (go_at_call 240
             refine (init_q b g nq nq L L _ _ _ hqO).mono ?_
             rintro e w5 ⟨rfl, L', hLp, hq⟩
             have hst6 := St.call (M1 := [qrow g nq nq L]) hst5 hq.st)
          | fail)
         obtain ⟨Q', hQ1', hQp⟩ := perm_map_exists (fun z : It × List TP => z.1) L' Q (by rw [HQ.out.1]; exact hLp)
         have hst7 := hst6.itsSub (J' := L') 1 rfl ⟨[], by simpa using hLp⟩
         simp only [List.cons_append, List.nil_append, Zs0, Zs1] at hst7
         rw [← hQ1'] at hst7
         have hQn : Q'.length = nq := by rw [hQp.length_eq]; have := congrArg List.length HQ.out.1; simp at this hkn; omega
         have hfm : (Q'.flatMap (·.2)).Perm (B'.flatMap (·.2.2)) := (hQp.flatMap_right _).trans (by rw [HQ.out.2.1]; exact HQ.out.2.2.2.flatMap_right _)
         have h20 : ∃ m, SPM w r' b g nq rm B' keys (B'.flatMap (·.2.2)) [Rs.map rv isTp []] (.slice (some ⟨gs, 0, none⟩) 0 0) w5 m :=
          ⟨_, nq, 0, Q', [], keys, hQn, rfl, hnq1, rfl, fun z hz => HQ.out.2.2.1 z (hQp.mem_iff.1 hz), by simpa using hfm, by simp, hst7⟩
         have H20 := Zhd h20; clear h20 hst7 hst6 hst5 hq hqO hLp hfm hQ1' hQp
         go_loopw [13] (fun v wr => ∃ m, SPM w r' b g nq rm B' keys (B'.flatMap (·.2.2)) [Rs.map rv isTp []] v wr m) (fun v wr => leastM (SPM w r' b g nq rm B' keys (B'.flatMap (·.2.2)) [Rs.map rv isTp []] v wr))
         case atStart => exact H20.out
         case round =>
          obtain ⟨mm, hme⟩ : ∃ mm, mm = leastM (SPM w r' b g nq rm B' keys (B'.flatMap (·.2.2)) [Rs.map rv isTp []] u13 wr) := ⟨_, rfl⟩
          have hm0 : SPM w r' b g nq rm B' keys (B'.flatMap (·.2.2)) [Rs.map rv isTp []] u13 wr mm := by rw [hme]; exact leastM_spec hrel
          have HME := Zhd hme; clear hme hrel
          obtain ⟨n3, na, Q3, acc, Un, hn3, hna, hn31, hmm, hit3, htot, hkeys3, hst⟩ := hm0
          cases n3 with
          | zero =>
            obtain rfl : Q3 = [] := List.eq_nil_of_length_eq_zero hn3
            have c0 := (hst.cell1 2 rfl).1
            have hst5 := ((((hst.drop 3).drop 2).drop 1).drop 0)
            simp only [Ze0, Ze1] at hst5
            have HK3 := Zhd (Zan hkeys3 hna); clear hkeys3 hna hst hit3 htot hn3 hmm
            go_wp2_with (first
             | (go_at_call 241; refine (len_it _ 0 _ _).mono ?_; rintro e w6 ⟨rfl, rfl⟩)
             | (refine wl_rng 1 rfl rfl rfl Tryz.underlying388 hst5 rfl (by simp [Rs.map]) (hst5.m 1 rfl) ?_
                intro it2 w7 hst6 hit6)
             | fail)
            simp only [Zs0, Zs1] at hst6
            have h30 : SPF w rm it2 Un keys [Rs.map rv isTp []] _ w7 := ⟨na, acc, Un, HK3.out.2, HK3.out.1, hst6⟩
            have H30 := Zhd h30; clear h30 hst6 hit6 hst5 c0
            try go_frame
            go_loopw [13] (fun v wr => SPF w rm it2 Un keys [Rs.map rv isTp []] v wr) (fun _ wr => leftOf wr it2 rm)
            case atStart => exact H30.out
            case round =>
             obtain ⟨na4, acc4, Lf4, hna4, hp4, hst4⟩ := hrel
             have hlen4 : na4 + Lf4.length = N := by
              have h1 := hp4.length_eq
              have h2 := HB2.out.2.2.1.length_eq
              have h3 := HOK.out.bn
              simp only [List.length_append, List.length_map] at h1 h2
              omega
             by_cases hlf5 : UnT Lf4 = []
             · obtain rfl : Lf4 = [] := by simpa [UnT] using hlf5
               have hit5 : IterAt wr it2 rm (UnT Un) [] := (hst4.m 1 rfl).2.1
               have hst5 := (hst4.drop 1).noR
               simp only [Ze0, Ze1] at hst5
               obtain rfl : na4 = N := by simpa using hlen4
               rw [List.append_nil] at hp4
               have HF := Zhd (Zan hst5 (hp4.trans HB2.out.2.2.1)); clear hst5 hp4
               go_wp2_with (first | (refine wl_nx0 rfl rfl rfl hit5 ?_) | fail)
               go_ret
               exact ⟨_, acc4, rfl, HF.out.2, HF.out.1⟩
             · obtain ⟨wC, rfl⟩ : ∃ wC, wC = wr := ⟨_, rfl⟩
               have HL4 := Zhd (Zan hp4 (Zan hna4 hlen4)); clear hp4 hna4
               have hnb : na4 ≤ 1000 := by omega
               clear hlen4
               go_wp2_with (first
                | (refine wl_nx1 1 (by simp [Rs.map]) rfl rfl rfl hst4 rfl hlf5 ?_
                   intro kx vx l1 l2 w6 hsp hst6 hent
                   simp only [Zs0, Zs1] at hst6
                   obtain ⟨A4, p, B4, rfl, rfl, rfl, rfl, rfl⟩ := unT_split hsp
                   have HS4 := Zhd hsp; clear hsp)
                | (refine wl_entry rfl rfl rfl hent ?_)
                | (refine wl_build1 (x := tpV p) rfl rfl rfl (build_tp p _) ?_)
                | (refine wl_push 0 rfl rfl elTp rfl rfl ((hst6.alloc _).alloc _) rfl ((new_tp _ p).src Tryz.underlying375) (by omega) (by omega) ?_
                   intro v' w7 hst7
                   simp only [Zs0, Zs1] at hst7
                   rw [enc_snoc] at hst7)
                | fail)
               rw [← unT_append] at hst7
               refine ⟨⟨na4 + 1, acc4 ++ [p], A4 ++ B4, by simp [HL4.out.2.1], ?_, hst7⟩, ?_⟩
               · refine List.Perm.trans ?_ HL4.out.1
                 rw [List.append_assoc]
                 exact List.Perm.append_left _ (by simpa using (List.perm_middle (l₁ := A4) (l₂ := B4) (a := p)).symm)
               · rw [(hst7.m 1 rfl).2.1.leftOf, (hst4.m 1 rfl).2.1.leftOf, HS4.out, unT_append]
                 simp
          | succ n3 =>
            obtain ⟨⟨x, ts⟩, Q4, rfl⟩ : ∃ z Q4, Q3 = z :: Q4 := by cases Q3 with | nil => simp at hn3 | cons z Q4 => exact ⟨z, Q4, rfl⟩
            have hxo := hit3 _ (List.mem_cons_self ..)
            obtain ⟨bx, mx, xa, xn, xc⟩ := x
            have hn4 : Q4.length = n3 := by simpa using hn3
            have HI := Zhd (Zan hit3 (Zan htot (Zan hkeys3 (Zan hna (Zan hmm hn4))))); clear hit3 htot hkeys3 hn3
            have c0 := (hst.cell1 2 rfl).1
            have hrow0 : (Rs.row 412 1 (.slice (some ⟨g, 0, none⟩) (n3 + 1 : Nat) nq) (n3 + 1) (ptrs (((bx, mx, xa, xn, xc), ts) :: Q4 |>.map (·.1)))).holds wr := hst.m 0 rfl
            have cg := (own_cell (j := 0) (u := .pointer (some ⟨bx, 0, none⟩)) hrow0 rfl).1
            obtain ⟨cx0, cx1⟩ := it_cells ((hst.m 1 rfl : (Rs.its _).holds wr).1 (bx, mx, xa, xn, xc) (List.mem_cons_self ..))
            simp only at cx0 cx1
            clear hrow0
            cases ts with
            | nil =>
              obtain ⟨_, _, _, _, _, hxn, _, _⟩ := hxo
              obtain rfl : xn = 0 := by simpa using hxn
              clear hxn
              have hqO : Hq _ wr b g (n3 + 1) nq _ _ wr := Hq.startPop (hst.own.sub (List.sublist_append_left [_, _, _] _)) (fun x h => h) (by omega)
              have hn0i : ((n3 + 1 : Nat) : Int) ≠ 0 := by omega
              go_wp2_with (first
               | (go_at_call 241; refine (len_it _ (n3 + 1) _ _).mono ?_; rintro e w6 ⟨rfl, rfl⟩)
               | fail)
              go_loopw [20, 81] (fun u i wr' => u = .int .i64 0 ∧ i = .int .i64 0 ∧ wr' = w6) (fun _ _ _ => 0)
              case atStart => exact ⟨rfl, rfl, rfl⟩
              case round =>
               obtain ⟨rfl, rfl, rfl⟩ := hrel
               go_wp2_with (first
                | (go_at_call 243
                   refine (pop_q b g n3 nq _ _ _ _ _ (.inl (by simp [foots_cons, Rs.blk])) hqO).mono ?_
                   rintro e w7 ⟨⟨vv, rfl⟩, xx, L', hxx, hLp, hq⟩)
                | fail)
               clear c0 cg cx0 cx1
               have hst1 := hst.front 2 rfl
               simp only [Ze0, Ze1] at hst1
               have h7 := hq.st.fromR 1 rfl (fun gg hg => .inl (by simp only [foots_cons]; exact List.mem_append_left _ hg))
               simp only [Ze0, Ze1] at h7
               have hst2 := St.call (M1 := [qbox b g (n3 + 1) nq, qrow g (n3 + 1) nq _]) hst1 h7
               have hst3 := (hst2.front 2 rfl).front 2 rfl
               simp only [List.cons_append, List.nil_append, Ze0, Ze1] at hst3
               have exx : (bx, mx, xa, 0, xc) = xx := by simpa using hxx
               subst exx
               have hLp2 : L'.Perm (Q4.map (·.1)) := List.Perm.cons_inv hLp
               obtain ⟨Q', hQ1', hQp⟩ := perm_map_exists (fun z : It × List TP => z.1) L' Q4 hLp2
               have hst4 := hst3.itsSub (J' := L') 1 rfl ⟨[(bx, mx, xa, 0, xc)], List.perm_append_comm.trans (by simpa using hLp)⟩
               simp only [Zs0, Zs1] at hst4
               rw [← hQ1'] at hst4
               have hfin : SPM w r' b g nq rm B' keys (B'.flatMap (·.2.2)) [Rs.map rv isTp []] u13 w7 (n3 + (Q'.flatMap (·.2)).length) :=
                ⟨n3, na, Q', acc, Un, by rw [hQp.length_eq]; exact HI.out.2.2.2.2.2, HI.out.2.2.2.1, by omega, rfl, fun z hz => HI.out.1 z (List.mem_cons_of_mem _ (hQp.mem_iff.1 hz)),
                  (List.Perm.append_left _ (hQp.flatMap_right _)).trans (by simpa using HI.out.2.1), HI.out.2.2.1, hst4⟩
               refine ⟨⟨_, hfin⟩, Nat.lt_of_le_of_lt (leastM_le hfin) ?_⟩
               rw [← HME.out]
               have h8 := HI.out.2.2.2.2.1
               have h9 := (hQp.flatMap_right (·.2)).length_eq
               simp only [List.flatMap_cons, List.nil_append] at h8
               omega
            | cons p ts =>
              obtain ⟨v0, ps, d, hmem, hts, hxn, hxc, hwin⟩ := hxo
              obtain ⟨gx, C, rfl, exa⟩ := hwin (by simp)
              replace hts : p :: ts = ps.drop d := hts
              simp only at exa hmem hxn hxc
              subst exa
              obtain ⟨tl, htl⟩ : ∃ tl, ts.length = tl := ⟨_, rfl⟩
              obtain rfl : xn = tl + 1 := by rw [hxn, List.length_cons, htl]
              obtain ⟨xc, rfl⟩ : ∃ c', xc = c' + 1 := ⟨xc - 1, by omega⟩
              have htl1 : tl + 1 ≤ 1000 := by
               have h1 : (p :: ts).length ≤ (B'.flatMap (·.2.2)).length := by
                rw [hts, List.length_drop]
                have h2 : ps.length ≤ (B'.flatMap (·.2.2)).length := by
                 obtain ⟨A1, A2, rfl⟩ := List.append_of_mem hmem
                 simp only [List.flatMap_append, List.flatMap_cons, List.length_append]; omega
                omega
               have h3 : (B'.flatMap (·.2.2)).length ≤ N := by have h4 := HT.out.2.2.2; omega
               simp only [List.length_cons, htl] at h1; omega
              have HW := Zhd (Zan hmem (Zan hts htl)); clear hmem hts hxn hwin
              have hn0i : ((n3 + 1 : Nat) : Int) ≠ 0 := by omega
              go_wp2_with (first
               | (go_at_call 241; refine (len_it _ (n3 + 1) _ _).mono ?_; rintro e w6 ⟨rfl, rfl⟩)
               | fail)
              have HST := Zhd hst; clear hst c0 cg cx0 cx1
              go_loopw [20, 81] (fun u i wr' => ∃ j : Nat, u = .int .i64 0 ∧ i = .int .i64 j ∧ j ≤ tl + 1 ∧ St [] w wr' (MQ r' b g (n3 + 1) nq rm B' (((bx, mx, some ⟨gx, d * 2, none⟩, tl + 1, xc + 1), p :: ts) :: Q4) u13 na acc Un) [Rs.map rv isTp []]) (fun _ i _ => (tl + 1) - (intOf i).toNat)
              case atStart => exact ⟨0, rfl, rfl, Nat.zero_le _, HST.out⟩
              case round =>
               obtain ⟨j, rfl, rfl, hj, hstI⟩ := hrel
               by_cases hjn : j < tl + 1
               · obtain ⟨q, hq⟩ : ∃ q, (p :: ts)[j]? = some q := ⟨_, List.getElem?_eq_getElem (by simp only [List.length_cons, HW.out.2.2]; exact hjn)⟩
                 obtain ⟨c1, c2⟩ := win_cell (j := j) (d := d) (hstI.m 3 rfl) HW.out.1 (by rw [← HW.out.2.1]; exact hq)
                 have hji : (j : Int) < (tl : Int) + 1 := by omega
                 clear hq
                 go_wp2_with (first
                  | (refine wl_lkN2 (vv := .agg #[.string ⟨#[]⟩, .int .i64 0]) rfl rfl rfl rfl keyT_tp Tryz.underlying379 (show MapAt _ isTp rv [] from (hstI.alloc _).r 0 rfl) ⟨_, _, rfl⟩ (by simp) (Tryz.zeroValue406 _) ?_)
                  | fail)
                 have hst' := (hstI.alloc (.cells #[.string q.1, .int .i32 q.2] 384)).alloc (.cells #[.string ⟨#[]⟩, .int .i64 0] 406)
                 refine ⟨?_, by simp [intOf]; omega⟩
                 (repeat apply Exists.intro)
                 refine ⟨⟨j + 1, ?_, ?_, by omega, hst'⟩, rfl⟩
                 · rfl
                 · go_num
               · obtain rfl : j = tl + 1 := by omega
                 obtain ⟨cx0, cx1⟩ := it_cells ((hstI.m 1 rfl : (Rs.its _).holds wr).1 (bx, mx, some ⟨gx, d * 2, none⟩, tl + 1, xc + 1) (List.mem_cons_self ..))
                 simp only at cx0 cx1
                 obtain ⟨c1, c2⟩ := win_cell (j := 0) (d := d) (hstI.m 3 rfl) HW.out.1 (by rw [← HW.out.2.1]; rfl)
                 simp only [Nat.zero_mul, Nat.add_zero] at c1 c2
                 have hna2 : na ≤ 1000 := by
                  have h1 := HI.out.2.2.1.length_eq
                  have h2 := HT.out.2.2.2.1
                  have h3 := HI.out.2.2.2.1
                  simp only [List.length_append] at h1
                  omega
                 have hpin : p ∈ B'.flatMap (·.2.2) := HI.out.2.1.mem_iff.1 (by simp)
                 have hpacc : p ∉ acc := fun hp => by
                  have h1 := HI.out.2.1.nodup_iff.2 HT.out.2.1
                  rw [List.nodup_append] at h1
                  exact h1.2.2 p hp p (by simp) rfl
                 have hpUn : p ∈ Un := by
                  rcases Zap.1 (HI.out.2.2.1.mem_iff.2 (HT.out.1 p hpin)) with h | h
                  · exact absurd h hpacc
                  · exact h
                 obtain ⟨U1, U2, rfl⟩ := List.append_of_mem hpUn
                 have hpk : ((UnT (U1 ++ p :: U2)).map (·.1)).Nodup := unT_nodup (List.nodup_append.1 (HI.out.2.2.1.nodup_iff.2 HT.out.2.2.1)).2.1
                 have hdel : delE (UnT (U1 ++ p :: U2)) (tpV p) = UnT (U1 ++ U2) := by
                  rw [unT_append, unT_append]
                  rw [unT_append] at hpk
                  exact delE_hit hpk
                 have HD := Zhd hdel; clear hdel hpk hpUn hpacc hpin HST
                 have htli : (0 : Int) < ((tl + 1 : Nat) : Int) := by omega
                 go_wp2_with (first
                  | (refine wl_build1 (x := tpV p) rfl rfl rfl (build_tp p _) ?_)
                  | (refine wl_push 5 rfl rfl elTp rfl rfl ((hstI.blk _).alloc _) rfl ((new_tp _ p).src Tryz.underlying375) (by omega) (by omega) ?_
                     intro v' w7 hst7
                     simp only [Zs0, Zs1] at hst7
                     rw [enc_snoc] at hst7
                     have cb7 := hst7.cell2 0 rfl)
                  | (refine wl_del (kv := tpV p) 6 rfl rfl rfl rfl keyT_tp Tryz.underlying388 hst7 rfl ⟨_, _, rfl⟩ ?_
                     intro w8 hst8
                     simp only [Zs0, Zs1] at hst8
                     rw [HD.out] at hst8
                     have hst9 := hst8.drop 0
                     simp only [Ze0] at hst9
                     have hit9 := ((hst9.m 1 rfl : (Rs.its _).holds w8).1 (bx, mx, some ⟨gx, d * 2, none⟩, tl + 1, xc + 1) (List.mem_cons_self ..))
                     obtain ⟨cy0, cy1⟩ := it_cells hit9
                     simp only at cy0 cy1
                     have fy1 : w8.frozen? ⟨bx, 1, none⟩ = false := by simp [World.frozen?, hit9]
                     clear hit9
                     have hst9' : ∀ a' c', St [] w (w8.setCell ⟨bx, 1, none⟩ (.slice a' tl c')) (MQ r' b g (n3 + 1) nq rm B' (((bx, mx, a', tl, c'), ts) :: Q4) v' (na + 1) (acc ++ [p]) (U1 ++ U2)) [Rs.map rv isTp []] := fun a' c' => hst9.setIt (a' := a') (n' := tl) (c' := c') 1 rfl
                     have hqF : ∀ a' c', Hq (foots [qrow g (n3 + 1) nq ((((bx, mx, a', tl, c'), ts) :: Q4).map (·.1))]) (w8.setCell ⟨bx, 1, none⟩ (.slice a' tl c')) b g (n3 + 1) nq ((((bx, mx, a', tl, c'), ts) :: Q4).map (·.1)) ((((bx, mx, a', tl, c'), ts) :: Q4).map (·.1)) (w8.setCell ⟨bx, 1, none⟩ (.slice a' tl c')) :=
                      fun a' c' => Hq.start ((hst9' a' c').own.sub (List.sublist_append_left [_, _, _] _)) (fun x h => h) (by omega))
                  | (go_at_call 242
                     refine (fix_q b g (n3 + 1) nq _ _ _ _ _ (hqF _ _)).mono ?_
                     rintro e w9 ⟨rfl, L', hLp, hq⟩
                     have hst10 := St.call (M1 := [qrow g (n3 + 1) nq _]) (hst9' _ _) hq.st)
                  | fail)
                 clear cx0 cx1 c1 c2 cb7 cy0 cy1 fy1 hst7 hst8 hst9 hst9' hqF
                 obtain ⟨a', hea⟩ : ∃ a', a' = (if xc = 0 then some (⟨gx, d * 2, none⟩ : Addr) else some ⟨gx, d * 2 + 2, none⟩) := ⟨_, rfl⟩
                 rw [← hea] at hst10 hLp
                 obtain ⟨Q', hQ1', hQp⟩ := perm_map_exists (fun z : It × List TP => z.1) L' (((bx, mx, a', tl, xc), ts) :: Q4) hLp
                 have hst11 := hst10.itsSub (J' := L') 1 rfl ⟨[], by simpa using hLp⟩
                 simp only [List.cons_append, List.nil_append, Zs0, Zs1] at hst11
                 rw [← hQ1'] at hst11
                 have hts2 : ts = ps.drop (d + 1) := by
                  have h1 := congrArg (List.drop 1) HW.out.2.1
                  simpa [List.drop_drop] using h1
                 have hio : ItOf B' (bx, mx, a', tl, xc) ts := ⟨_, ps, d + 1, HW.out.1, hts2, HW.out.2.2.symm, by simp only; omega, fun hne => ⟨gx, C, rfl, by
                  have h1 : 0 < ts.length := List.length_pos_iff.2 hne
                  have h2 := HW.out.2.2
                  simp only [hea]
                  rw [if_neg (by omega)]
                  simp⟩⟩
                 have hfin : SPM w r' b g nq rm B' keys (B'.flatMap (·.2.2)) [Rs.map rv isTp []] v' w9 (n3 + 1 + (Q'.flatMap (·.2)).length) :=
                  ⟨n3 + 1, na + 1, Q', acc ++ [p], U1 ++ U2, by rw [hQp.length_eq, List.length_cons, HI.out.2.2.2.2.2], by rw [List.length_append, HI.out.2.2.2.1]; rfl, by omega, rfl, fun z hz => by
                    rcases Zmc.1 (hQp.mem_iff.1 hz) with rfl | hz
                    · exact hio
                    · exact HI.out.1 z (List.mem_cons_of_mem _ hz),
                    (List.Perm.append_left _ (hQp.flatMap_right _)).trans (by simpa using HI.out.2.1),
                    List.Perm.trans (by simpa using List.Perm.append_left acc (List.perm_middle (l₁ := U1) (l₂ := U2) (a := p)).symm) HI.out.2.2.1, hst11⟩
                 refine ⟨⟨_, hfin⟩, Nat.lt_of_le_of_lt (leastM_le hfin) ?_⟩
                 rw [← HME.out]
                 have h8 := HI.out.2.2.2.2.1
                 have h9 := (hQp.flatMap_right (·.2)).length_eq
                 simp only [List.flatMap_cons, List.length_append, List.length_cons] at h8 h9
                 omega
       · obtain ⟨wB, rfl⟩ : ∃ wB, wB = wr := ⟨_, rfl⟩
         have HL := Zhd (Zan hperm (Zan hmade (Zan hkD (Zan hkL hkn)))); clear hperm hmade hkD
         go_wp2_with (first
          | (refine wl_nx1 3 (cur_foot r' B') rfl rfl rfl hst rfl hlf ?_
             intro kx v l1 l2 w3 hsp hst2 hent
             simp only [Zs0, Zs1] at hst2
             obtain ⟨L1, x, L2, rfl, rfl, rfl, rfl, rfl⟩ := rawR_split hsp
             obtain ⟨m, pv, ps⟩ := x
             have hxB : (m, pv, ps) ∈ B' := HL.out.1.mem_iff.1 (by simp)
             obtain ⟨hrow, xa, xc, hxv⟩ := cur_row (show RowsAt w3 isStr r' 384 2 (rowsT B') from (hst2.m 3 rfl).1) hxB
             simp only at hxv hrow
             subst hxv
             obtain ⟨u, rs', rfl⟩ : ∃ u rs', rs = u :: rs' := by cases rs with | nil => simp at hrs | cons u rs' => exact ⟨u, rs', rfl⟩
             have cb := (hst2.cell1 1 rfl).1
             have hgk : (ptrs L ++ u :: rs')[k]? = some u := ptrs_at (hkL.trans HL.out.2.2.1)
             have cqo := fun o => own_cell ((hst2.alloc o).m 2 rfl) hgk
             have cq := fun o => (cqo o).1
             have fq := fun o => (cqo o).2
             have hkn2 : k < nq := by have := HL.out.2.2.2.2; simp only [List.length_append, List.length_cons] at this; omega
             have hki : (k : Int) < (nq : Int) := by omega
             have HS := Zhd (Zan hsp (Zan hxB hrow)); clear hsp hxB hrow hgk cqo)
          | (refine wl_entry rfl rfl rfl hent ?_)
          | fail)
         have hst3 := (hst2.blk (.cells (itCells (w3.heap.size, m, xa, ps.length, xc)) 414)).addIt (x := (w3.heap.size, m, xa, ps.length, xc))
         have hst4 := hst3.setRow 2 rfl k (.pointer (some ⟨w3.heap.size, 0, none⟩))
         simp only [Zs0, Zs1] at hst4
         rw [ptrs_set (x := (w3.heap.size, m, xa, ps.length, xc)) (hkL.trans HL.out.2.2.1)] at hst4
         have e : rawR (rowsT L1) ++ rawR (rowsT L2) = rawR (rowsT (L1 ++ L2)) := by rw [rowsT_append, rawR_append]
         simp only [e] at hst4
         refine ⟨⟨k + 1, Dq ++ [(m, .slice xa ps.length xc, ps)], L1 ++ L2, L ++ [(w3.heap.size, m, xa, ps.length, xc)], rs', by go_num, by simp [HL.out.2.2.1], ?_, HL.out.2.1.snoc _ _ _ _ _ _, by simp at hrs ⊢; omega, hst4⟩, ?_⟩
         · refine List.Perm.trans ?_ HL.out.1
           rw [List.append_assoc]
           exact List.Perm.append_left _ (by simpa using (List.perm_middle (l₁ := L1) (l₂ := L2) (a := ((m, .slice xa ps.length xc, ps) : Rw))).symm)
         · have h1 : IterAt _ it r' (rawR (rowsT B')) (rawR (rowsT (L1 ++ L2))) := (hst4.m 3 rfl).2.1
           have h2 : IterAt wB it r' (rawR (rowsT B')) _ := (hst.m 3 rfl).2.1
           rw [h1.leftOf, h2.leftOf, HS.out.1, ← e]
           simp
    · go_wp2_with (first
       | (refine wl_nx0 rfl rfl rfl hit0 ?_)
       | (refine wl_mkslice 0 rfl rfl rfl rfl elTp hst1 (by omega) (by unfold maxLen; omega) ?_
          intro g w4 hst4 hg)
       | (go_at_call 244
          refine (sort_parts rk n N B _ (hst4.r 0 rfl) (fun x hx => by rw [(HOK.out.id.rows x hx).length_eq]; exact HOK.out.id.len) (by rw [rawS_len]; exact HOK.out.bn) hBS).mono ?_
          rintro e w5 ⟨g5, c5, zs, rfl, hzs, hst5⟩)
       | fail)
      have hst6 := (St.call (M1 := []) hst4.noR hst5)
      have hst7 : St [] w w5 [Rs.row 384 2 (.slice (some ⟨g5, 0, none⟩) N c5) N (zs.flatMap encTp)] [] := ((hst6.perm (M' := _) (.refl _)).drop 1).drop 1
      go_ret
      exact ⟨_, zs, rfl, hzs, hst7⟩
  · obtain ⟨wB, rfl⟩ : ∃ wB, wB = wr := ⟨_, rfl⟩
    have HL := Zhd hperm; clear hperm
    go_wp2_with (first
     | (refine wl_nx1R 0 (cur_footS rk B) rfl rfl rfl hst rfl hlf HFIT.out ?_
        intro k v l1 l2 w3 hsp hst2 hent
        simp only [Zs0] at hst2
        obtain ⟨L1, x, L2, rfl, rfl, rfl, rfl, rfl⟩ := rawS_split hsp
        obtain ⟨p, pv, nm⟩ := x
        have hmi : p ∉ Dn.map (·.1) := fun hp => by
         have hk := (HL.out.map (·.1)).nodup_iff.2 (p2c_keys (show RowsAt w3 isTp rk 9 1 (rowsS B) from (hst2.r 0 rfl).1))
         rw [List.map_append, List.nodup_append] at hk
         exact hk.2.2 p hp p (by simp) rfl
        have HM := Zhd (Zan hmi hsp); clear hmi hsp)
     | (refine wl_entry rfl rfl rfl hent ?_)
     | (refine wl_upd (kv := tpV p) (vv := .bool true) 0 rfl rfl rfl rfl rfl keyT_tp Tryz.underlying388 (hst2.alloc _) rfl ⟨_, _, rfl⟩ ?_
        intro w5 hst5
        simp only [Zs0] at hst5
        rw [putE_miss (unT_miss HM.out.1), unT_snoc] at hst5)
     | fail)
    have e : rawR (rowsS L1) ++ rawR (rowsS L2) = rawR (rowsS (L1 ++ L2)) := by rw [rowsS_append, rawR_append]
    rw [e] at hst5
    refine ⟨⟨Dn ++ [(p, pv, nm)], L1 ++ L2, ?_, by simpa using hst5⟩, ?_⟩
    · refine List.Perm.trans ?_ HL.out
      rw [List.append_assoc]
      exact List.Perm.append_left _ (by simpa using (List.perm_middle (l₁ := L1) (l₂ := L2) (a := ((p, pv, nm) : Sw))).symm)
    · have h1 : IterAt w5 it rk (rawR (rowsS B)) (rawR (rowsS (L1 ++ L2))) := (hst5.r 0 rfl).2.1
      have h2 : IterAt wB it rk (rawR (rowsS B)) _ := (hst.r 0 rfl).2.1
      rw [h1.leftOf, h2.leftOf, HM.out.2, ← e]
      simp
end
end Go.Proofs.YticcnlpfmekagaaGreat
