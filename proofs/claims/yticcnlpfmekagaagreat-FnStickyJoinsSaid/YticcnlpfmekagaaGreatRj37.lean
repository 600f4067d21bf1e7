/- Part 37 of the proof of the row: BalJp, BalJ, PlanJp. -/
import Derived.Test.YticcnlpfmekagaaGreatRj00
import Derived.Test.YticcnlpfmekagaaGreatRj36
import Derived.Test.YticcnlpfmekagaaGreatRj31
import Derived.Test.YticcnlpfmekagaaGreatRj29
set_option linter.unusedVariables false
set_option linter.unusedSimpArgs false
set_option maxRecDepth 100000
set_option maxHeartbeats 8000000
namespace Go.Proofs.YticcnlpfmekagaaGreat
section
open Go Go.Proofs Go.RowKit Go.Lib
open Classical
abbrev bjM (sp rb rm rc rq ks n g0 c0 : Nat) (cp : Bool) (vs : Value) (A : List Rw) (lq : List (Value × Value)) (zs : List TP) (L : List (ByteArray × Nat)) (E0 : List (ByteArray × Nat)) (D : List (Nat × List (Pr × Nat))) (I : List (Nat × List (Value × Value))) (Mv : List (TP × Pr)) : List Res :=
 [Rs.cur rc A, Rs.map rq isTp lq, Rs.ids (.slice (some ⟨g0, 0, none⟩) n c0) n L, Rs.row 384 2 vs ks (zs.flatMap encTp)] ++ movM sp rb rm cp E0 D I Mv
abbrev bjR (rp rk rv : Nat) (vu : Value) (Pp : List Rw) (B : List Sw) : List Res := [Rs.cur rp Pp, Rs.p2c rk B, Rs.row 384 2 vu 0 [], Rs.map rv isTp []]
def BJP (S : List Nat) (w : World) (rc rf rq n ks : Nat) (vs : Value) (zs : List TP) (Ks : List ByteArray) (P : List TP) (Inv : Nat → Asg → Prop) (sp rb rm : Nat) (cp : Bool) (R : List Res) (e : Ending) (w' : World) : Prop :=
 ∃ A' b k vi E0 D I Mv lq L, e = .returned (.bool b) ∧ Inv k (asgT A') ∧ Near (A'.map (·.2.2.length)) ∧ A'.map (·.1) = Ks ∧ (allOf (asgT A')).Perm P ∧ St S w w' (Rs.cur rc A' :: Rs.cur rf [] :: Rs.map rq isTp lq :: Rs.ids vi n L :: Rs.row 384 2 vs ks (zs.flatMap encTp) :: movM sp rb rm cp E0 D I Mv) R
theorem pj1 {f c q i z : Res} {N : List Res} : (f :: c :: q :: i :: z :: N).Perm ((c :: q :: i :: N) ++ [f, z]) :=
 ((List.perm_middle (l₁ := [c, q, i]) (a := z) (l₂ := N)).cons f).trans (List.perm_append_comm (l₁ := [f, z]) (l₂ := c :: q :: i :: N))
theorem bj_perf {S : List Nat} {w w3 : World} {sp rb rm rc rf rq rp rk rv ks n g0 c0 zc : Nat} {cp : Bool} {za : Option Addr} {A Pp : List Rw} {B : List Sw} {lq : List (Value × Value)} {zs P : List TP} {Ks : List ByteArray} {L : List (ByteArray × Nat)} {E0 : List (ByteArray × Nat)} {D : List (Nat × List (Pr × Nat))} {I : List (Nat × List (Value × Value))} {Mv : List (TP × Pr)} {Inv : Nat → Asg → Prop} {X : Res}
 (hok : PfOk n ks Ks P zs B Pp) (hI : MInv zs Inv) (h0 : Inv 0 (asgT A)) (hL : IdsOf A L) (hKs : A.map (·.1) = Ks) (hAll : (allOf (asgT A)).Perm P)
 (hcpc : ∀ x ∈ A, ∀ p ∈ x.2.2, (tpV p, Value.string x.1) ∈ lq) (hmov : MovOk (fun x => x ∈ ([] : List ByteArray)) (fun q => ∃ z ∈ ([] : List ByteArray), q ∈ rowOf (asgT A) z) E0 D I Mv)
 (hst : St S w w3 (Rs.cur rf [] :: bjM sp rb rm rc rq ks n g0 c0 cp (.slice za ks zc) A lq zs L E0 D I Mv) [Rs.cur rp Pp, Rs.p2c rk B, X, Rs.map rv isTp []]) :
 Calls Tryz.prog 253 #[.pointer (some ⟨sp, 0, none⟩), .slice za ks zc, .map (some rc), .map (some rv), .slice (some ⟨g0, 0, none⟩) n c0, .map (some rp), .map (some rk), .map (some rq)] w3
  (BJP S w rc rf rq n ks (.slice za ks zc) zs Ks P Inv sp rb rm cp [Rs.cur rp Pp, Rs.p2c rk B, X, Rs.map rv isTp []]) := by
 have hst1 : St S w w3 (([Rs.cur rc A, Rs.map rq isTp lq, Rs.ids (.slice (some ⟨g0, 0, none⟩) n c0) n L] ++ movM sp rb rm cp E0 D I Mv) ++ [Rs.cur rf [], Rs.row 384 2 (.slice za ks zc) ks (zs.flatMap encTp)]) [Rs.cur rp Pp, Rs.p2c rk B, X, Rs.map rv isTp []] :=
  hst.perm pj1
 have how : Ow w3 (([Rs.cur rc A, Rs.map rq isTp lq, Rs.ids (.slice (some ⟨g0, 0, none⟩) n c0) n L] ++ movM sp rb rm cp E0 D I Mv) ++ pfR za ks zc rp rk rv zs Pp B) := by
  have h := hst1.ow
  rw [List.append_assoc] at h
  exact h.sub ((List.Sublist.refl _).append (List.Sublist.cons _ (List.Sublist.cons_cons _ (List.Sublist.cons_cons _ (List.Sublist.cons_cons _ (List.Sublist.cons _ (List.Sublist.refl _)))))))
 have hpf : PfSt (foots ([Rs.cur rc A, Rs.map rq isTp lq, Rs.ids (.slice (some ⟨g0, 0, none⟩) n c0) n L] ++ movM sp rb rm cp E0 D I Mv)) w3 sp rb rm rc rq n cp Ks P (pfR za ks zc rp rk rv zs Pp B) (.slice (some ⟨g0, 0, none⟩) n c0) A w3 :=
  ⟨lq, L, g0, c0, [], E0, D, I, Mv, rfl, hL, gain_nil _, hmov, hcpc, hKs, hAll, St.start how⟩
 refine (perf_any _ sp rb rm rc rq n rp rk rv ks zc cp za Ks P zs B Pp A Inv _ w3 hok hI h0 hpf).mono ?_
 rintro e w4 ⟨A', b, k, vi, rfl, hI', hN', lq', L', g', c', Gs, E', D', I', Mv', rfl, _, _, _, _, hK', hA', hst'⟩
 refine ⟨A', b, k, .slice (some ⟨g', 0, none⟩) n c', E', D', I', Mv', lq', L', rfl, hI', hN', hK', hA', ?_⟩
 have h := St.call hst1 hst'
 exact h.perm (pj1.symm.trans (List.Perm.swap _ _ _))
end
section
open Go Go.Proofs Go.RowKit Go.Lib
open Classical
def BalJPost (S : List Nat) (w : World) (rc : Nat) (Ks : List ByteArray) (P : List TP) (Inv : Nat → Asg → Prop) (sp rb rm : Nat) (cp : Bool) (e : Ending) (w' : World) : Prop :=
 ∃ A' E0 D I Mv k, e = .returned (.tuple #[]) ∧ Inv k (asgT A') ∧ Near (A'.map (·.2.2.length)) ∧ A'.map (·.1) = Ks ∧ (allOf (asgT A')).Perm P ∧ St S w w' (Rs.cur rc A' :: movM sp rb rm cp E0 D I Mv) []
def BJ2 (S : List Nat) (w : World) (rk it : Nat) (M : List Res) (B : List Sw) (X Z V : Res) (vs vz : Value) (wr : World) : Prop :=
 vz = vs ∧ ∃ Lf : List Sw, (∀ x ∈ Lf, x ∈ B) ∧ St S w wr M [X, itS rk B (rawR (rowsS Lf)) it, Z, V]
def BJ3 (S : List Nat) (w : World) (rf rp it : Nat) (M : List Res) (Pp : List Rw) (X Z V : Res) (wr : World) : Prop :=
 ∃ Lf : List Rw, (∀ x ∈ Lf, x ∈ Pp) ∧ St S w wr (Rs.cur rf [] :: M) [itT rp Pp (rawR (rowsT Lf)) it, X, Z, V]
theorem balance_join (sp rb rm rc rq rp rk rv ks n g0 c0 : Nat) (cp : Bool) (vs vu : Value) (A Pp : List Rw) (B : List Sw) (lq : List (Value × Value)) (zs P : List TP) (Ks : List ByteArray) (L : List (ByteArray × Nat)) (E0 : List (ByteArray × Nat)) (D : List (Nat × List (Pr × Nat))) (I : List (Nat × List (Value × Value))) (Mv : List (TP × Pr)) (Inv : Nat → Asg → Prop) (w : World)
 (how : Ow w (bjM sp rb rm rc rq ks n g0 c0 cp vs A lq zs L E0 D I Mv ++ bjR rp rk rv vu Pp B)) (hok : PfOk n ks Ks P zs B Pp) (hn2 : 2 ≤ n) (hI : MInv zs Inv) (h0 : Inv 0 (asgT A)) (hL : IdsOf A L) (hKs : A.map (·.1) = Ks) (hAll : (allOf (asgT A)).Perm P)
 (hcpc : ∀ x ∈ A, ∀ p ∈ x.2.2, (tpV p, Value.string x.1) ∈ lq) (hmov : MovOk (fun x => x ∈ ([] : List ByteArray)) (fun q => ∃ z ∈ ([] : List ByteArray), q ∈ rowOf (asgT A) z) E0 D I Mv) (hnil : Nils A) (hnw : ∃ x ∈ A, x.2.2 = []) (hP0 : 0 < P.length) (hPk : ∀ x ∈ Pp, x.1 ∈ Ks ∧ x.2.2.Perm P) :
 Calls Tryz.prog 233 #[.pointer (some ⟨sp, 0, none⟩), .map (some rc), .map (some rv), vs, vu, .slice (some ⟨g0, 0, none⟩) n c0, .map (some rp), .map (some rk), .map (some rq)] w (BalJPost (foots (bjM sp rb rm rc rq ks n g0 c0 cp vs A lq zs L E0 D I Mv)) w rc Ks P Inv sp rb rm cp) := by
 have hst0 : St (foots (bjM sp rb rm rc rq ks n g0 c0 cp vs A lq zs L E0 D I Mv)) w w (bjM sp rb rm rc rq ks n g0 c0 cp vs A lq zs L E0 D I Mv) (bjR rp rk rv vu Pp B) := St.start how
 generalize foots (bjM sp rb rm rc rq ks n g0 c0 cp vs A lq zs L E0 D I Mv) = S at *
 have hlen : A.length = n := by have := congrArg List.length hKs; have := hok.kn; simp at *; omega
 obtain ⟨ua, uc, rfl, _⟩ := own_cap (show w.ownsRow 0 384 2 vu 0 [] from hst0.r 2 rfl)
 obtain ⟨za, zc, rfl, _⟩ := own_cap (show w.ownsRow 0 384 2 vs ks (zs.flatMap encTp) from hst0.m 3 rfl)
 obtain ⟨m0, v0, p0, hm0, e0⟩ := hL.get (i := 0) (by rw [hL.len, hlen]; omega)
 have hp00 : p0 = [] := by
  obtain ⟨x, hx, hxe⟩ := hnw
  cases L with
  | nil => have := hL.perm.length_eq; simp [loadT] at this; omega
  | cons z L0 =>
    obtain ⟨A1, v, ps, A2, hA, hps, hmin⟩ := hL.first
    have h1 := hmin x hx
    rw [hxe] at h1
    have h2 : z = (m0, p0.length) := by simpa using e0
    rw [h2] at hps
    simp at hps h1
    exact List.eq_nil_of_length_eq_zero (by rw [← hps, h1]; rfl)
 subst hp00
 obtain ⟨_, a0, k0, hv0⟩ := cur_row (hst0.m 0 rfl) hm0
 simp only at hv0
 subst hv0
 have c0' : w.cell? ⟨g0, 0, none⟩ = some (.string m0) := by
  have := (own_cell (hst0.m 2 rfl) (names_get (L := L) (j := 0) (by rw [hL.len, hlen]; omega))).1
  rw [e0] at this; exact this
 clear e0
 have hin0 := cur_in hm0
 simp only [List.length_nil] at hin0
 have hn1 := hok.n1
 have hks := hok.zl
 have hkz1 : ks ≤ 1000 := by have := hok.zl; have := hok.zp.length_eq; have := hok.p1; omega
 have HB := Zhd (Zan hok (Zan hI (Zan h0 (Zan hL (Zan hKs (Zan hAll (Zan hcpc (Zan hmov (Zan hnil (Zan hlen hPk)))))))))); clear hok hI h0 hL hKs hAll hcpc hmov hnil hlen hPk hm0 hnw how
 have hni : (0 : Int) < (n : Int) := by omega
 have hn3 : ((n : Int) == 0) = false := by simp; omega
 have hl0 : (Instr.lookup 378 (.map (some rc)) (.string m0) false).run Tryz.prog w = .ok (.slice a0 0 k0) w := by
  simpa using map_lookup_hit (P := Tryz.prog) (show RowsAt w isStr rc 384 2 (rowsT A) from hst0.m 0 rfl).map (keyT_str Tryz.underlying9) Tryz.underlying378 hin0 false
 have HS0 := Zhd hst0; clear hst0 hin0
 go_enter Tryz.func233, Tryz.ntmps233
 go_wp2_with fail
 clear hl0 c0' hn3
 go_loopw [5, 41] (fun vi i wr => vi = .slice (some ⟨g0, 0, none⟩) n c0 ∧ i = .int .i64 0 ∧ wr = w) (fun _ _ _ => 0)
 case atStart => exact ⟨rfl, rfl, rfl⟩
 case round =>
  obtain ⟨rfl, rfl, hwr⟩ := hrel
  obtain rfl : w = wr := hwr.symm
  have hst := HS0.out
  go_wp2_with (first
   | (refine wl_rngR 1 rfl rfl rfl Tryz.underlying382 hst rfl (cur_footS rk B) (show RowsAt _ isTp rk 9 1 (rowsS B) from hst.r 1 rfl).map ?_
      intro it w2 hst2 hit)
   | fail)
  simp only [Zs0, Zs1] at hst2
  have hfit : w.heap.size ≤ it := hit
  have HFIT := Zhd hfit; clear hfit hit
  have h20 : BJ2 S w rk it (bjM sp rb rm rc rq ks n g0 c0 cp (.slice za ks zc) A lq zs L E0 D I Mv) B (Rs.cur rp Pp) (Rs.row 384 2 (.slice ua 0 uc) 0 []) (Rs.map rv isTp []) (.slice za ks zc) (.slice za ks zc) w2 := ⟨rfl, B, fun x hx => hx, hst2⟩
  have H20 := Zhd h20; clear h20 hst2 hst
  try go_frame
  go_loopw [3] (fun vz wr => BJ2 S w rk it (bjM sp rb rm rc rq ks n g0 c0 cp (.slice za ks zc) A lq zs L E0 D I Mv) B (Rs.cur rp Pp) (Rs.row 384 2 (.slice ua 0 uc) 0 []) (Rs.map rv isTp []) (.slice za ks zc) vz wr) (fun _ wr => leftOf wr it rk)
  case atStart => exact H20.out
  case round =>
   clear H20
   obtain ⟨hvz, Lf, hLf, hst⟩ := hrel
   subst hvz
   by_cases hlf : rawR (rowsS Lf) = []
   · have h0 := rawS_nil hlf
     subst h0
     have hit0 : IterAt wr it rk (rawR (rowsS B)) [] := (hst.r 1 rfl).2.1
     have hst1 := (hst.weakR 1 rfl (X' := Rs.p2c rk B) (fun h => h.1) (fun g hg => by simp [Rs.it, hg]))
     simp only [Zs0, Zs1] at hst1
     clear hLf hst
     go_wp2_with (first
      | (refine wl_nx0 rfl rfl rfl hit0 ?_)
      | (refine wl_mkmap (V := isStr) rfl rfl hst1 ?_
         intro rf w3 hst3 hrf
         have hst4 := hst3.mapRows 384 2)
      | (refine wl_rngR 0 rfl rfl rfl Tryz.underlying378 hst4 rfl (cur_foot rp Pp) (show RowsAt _ isStr rp 384 2 (rowsT Pp) from hst4.r 0 rfl).map ?_
         intro it2 w4 hst5 hit2)
      | fail)
     simp only [Zs0, Zs1] at hst5
     have hfit2 : w.heap.size ≤ it2 := by have := hst4.size; omega
     have HFIT2 := Zhd hfit2; clear hfit2 hit2 hst4 hst3 hst1 hrf hit0
     have h30 : BJ3 S w rf rp it2 (bjM sp rb rm rc rq ks n g0 c0 cp (.slice za ks zc) A lq zs L E0 D I Mv) Pp (Rs.p2c rk B) (Rs.row 384 2 (.slice ua 0 uc) 0 []) (Rs.map rv isTp []) w4 := ⟨Pp, fun x hx => hx, hst5⟩
     have H30 := Zhd h30; clear h30 hst5
     try go_frame
     go_loopw [5, 23] (fun vi _ wr => vi = .slice (some ⟨g0, 0, none⟩) n c0 ∧ BJ3 S w rf rp it2 (bjM sp rb rm rc rq ks n g0 c0 cp (.slice za ks zc) A lq zs L E0 D I Mv) Pp (Rs.p2c rk B) (Rs.row 384 2 (.slice ua 0 uc) 0 []) (Rs.map rv isTp []) wr) (fun _ _ wr => leftOf wr it2 rp)
     case atStart => exact ⟨rfl, H30.out⟩
     case round =>
      clear H30
      obtain ⟨hvi, Lf, hLf, hst⟩ := hrel
      subst hvi
      by_cases hlf : rawR (rowsT Lf) = []
      · have h0 := rawR_nil hlf
        subst h0
        have hit0 : IterAt wr it2 rp (rawR (rowsT Pp)) [] := (hst.r 0 rfl).2.1
        have hst1 := hst.weakR 0 rfl (X' := Rs.cur rp Pp) (fun h => h.1) (fun g hg => by simp [Rs.it, hg])
        simp only [Zs0] at hst1
        clear hst hLf
        have hbA : ∀ x ∈ A, x.2.2.length ≤ 1000000 := fun x hx => by
         have h1 := row_le hx
         have h2 := HB.out.2.2.2.2.2.1.length_eq
         have h3 := HB.out.1.p1
         omega
        have hlA : A.length ≤ 1000000 := by have := HB.out.2.2.2.2.2.2.2.2.2.1; omega
        have hdc := deep_copy rc A wr (Ow.one (hst1.m 1 rfl) (hst1.lt 1 rfl)) hlA hbA HB.out.2.2.2.2.2.2.2.2.1
        have HDC := Zhd hdc; clear hdc hbA hlA
        go_wp2_with (first
         | (refine wl_nx0 rfl rfl rfl hit0 ?_)
         | (go_at_call 251
            refine (HDC.out).mono ?_
            rintro e w2 ⟨r2, B2, rfl, _, _, hst2⟩
            have hst3 := hst1.kept0 hst2.kept
            have hcl := clone_cpc rq lq w2 (hst3.m 2 rfl)
            have HCL := Zhd hcl; clear hcl)
         | (go_at_call 252
            refine (HCL.out).mono ?_
            rintro e w3 ⟨r3, l3, rfl, _, hst4⟩
            have HPF := Zhd (bj_perf HB.out.1 HB.out.2.1 HB.out.2.2.1 HB.out.2.2.2.1 HB.out.2.2.2.2.1 HB.out.2.2.2.2.2.1 HB.out.2.2.2.2.2.2.1 HB.out.2.2.2.2.2.2.2.1 (hst3.kept0 hst4.kept)))
         | (go_at_call 253
            refine (HPF.out).mono ?_
            rintro e w4 ⟨A2, b2, k2, vi2, E2, D2, I2, Mv2, lq2, L2, rfl, hI2, hN2, hK2, hA2, hst5⟩
            have HCP := Zhd (copy_rows rc rf A2 [] w4 ((hst5.ow).sub (List.Sublist.cons_cons _ (List.Sublist.cons_cons _ (List.nil_sublist _)))) (fun x hx => by cases hx)))
         | (go_at_call 256
            refine (HCP.out).mono ?_
            rintro e w5 ⟨F', rfl, hF', hst7⟩)
         | fail)
        have hst8 := St.call (M1 := [Rs.cur rc A2, Rs.cur rf []]) hst5 hst7
        have h0 : F' = [] := by simpa using hF'
        subst h0
        have hfin : BalJPost S w rc Ks P Inv sp rb rm cp (.returned (.tuple #[])) w5 := by
         refine ⟨A2, E2, D2, I2, Mv2, k2, rfl, hI2, hN2, hK2, hA2, ?_⟩
         have := ((((hst8.drop 1).drop 1).drop 1)).noR
         simpa using this
        go_end0
        exact hfin
      · obtain ⟨wB, rfl⟩ : ∃ wB, wB = wr := ⟨_, rfl⟩
        have HI := Zhd hLf; clear hLf
        go_upto_region 16 with (first
         | (refine wl_nx1R 0 (cur_foot rp Pp) rfl rfl rfl hst rfl hlf HFIT2.out ?_
            intro k v l1 l2 w5 hsp hst2 hent
            simp only [Zs0, Zs1] at hst2
            obtain ⟨L1, x, L2, rfl, rfl, rfl, rfl, rfl⟩ := rawR_split hsp
            obtain ⟨m, pv, qs⟩ := x
            have hxP := HI.out (m, pv, qs) (by simp)
            have HSP := Zhd hsp; clear hsp)
         | (refine wl_entry rfl rfl rfl hent ?_)
         | fail)
        have hmA : m ∈ A.map (·.1) := by rw [HB.out.2.2.2.2.1]; exact (HB.out.2.2.2.2.2.2.2.2.2.2 _ hxP).1
        have hqs := (HB.out.2.2.2.2.2.2.2.2.2.2 _ hxP).2
        obtain ⟨⟨m', va, ps⟩, hxA, hme⟩ := List.mem_map.1 hmA
        simp only at hme hqs
        subst hme
        obtain ⟨_, aa, ca, hva⟩ := cur_row (show RowsAt w5 isStr rc 384 2 (rowsT A) from hst2.m 1 rfl) hxA
        obtain ⟨_, ap, cp2, hvp⟩ := cur_row (show RowsAt w5 isStr rp 384 2 (rowsT Pp) from (hst2.r 0 rfl).1) hxP
        simp only at hva hvp
        subst hva hvp
        have hall : ∀ z ∈ ps, z ∈ B.map (·.1) := fun z hz => HB.out.1.bk.mem_iff.2 (HB.out.2.2.2.2.2.1.mem_iff.1 (List.mem_flatMap.2 ⟨(m', ps), List.mem_map.2 ⟨_, hxA, rfl⟩, hz⟩))
        have hql := hqs.length_eq
        have hp1 := HB.out.1.p1
        have hpl : ps.length ≤ qs.length := by
         have h1 := row_le hxA
         have h2 := HB.out.2.2.2.2.2.1.length_eq
         simp only at h1
         omega
        have hq0 : 0 < qs.length := by omega
        have hcan := can_member m' rc rp rk _ _ _ aa ap ps.length ca qs.length cp2 ps (decide (2 ≤ n)) w5
         (show RowsAt w5 isStr rc 384 2 (rowsT A) from hst2.m 1 rfl).map (show RowsAt w5 isStr rp 384 2 (rowsT Pp) from (hst2.r 0 rfl).1).map (show RowsAt w5 isTp rk 9 1 (rowsS B) from hst2.r 1 rfl).map
         (cur_in hxA) (cur_in hxP) (cur_sl (show RowsAt w5 isStr rc 384 2 (rowsT A) from hst2.m 1 rfl) hxA) rfl (by unfold maxLen; omega) hpl (fun z hz => by
           obtain ⟨⟨z', vz, nm⟩, hzm, hze⟩ := List.mem_map.1 (hall z hz)
           simp only at hze
           subst hze
           have hnm : nm.length = n := by rw [(HB.out.1.bn _ hzm).length_eq]; exact HB.out.1.kn
           obtain ⟨_, az, cz, hvz⟩ := p2c_row (show RowsAt w5 isTp rk 9 1 (rowsS B) from hst2.r 1 rfl) hzm
           simp only [hnm] at hvz
           subst hvz
           exact ⟨az, n, cz, p2c_in hzm, rfl⟩)
        have hval : (decide (ps.length < qs.length) || (decide (2 ≤ n) && decide (0 < ps.length))) = true := by
         by_cases h : ps.length < qs.length
         · simp [h]
         · have : 0 < ps.length := by omega
           simp [hn2, this]
        rw [hval] at hcan
        have HC := Zhd hcan; clear hcan
        go_wp2_with (first
         | (go_at_call 250
            refine (HC.out).mono ?_
            rintro e w6 ⟨rfl, hk6⟩)
         | fail)
        have e : rawR (rowsT L1) ++ rawR (rowsT L2) = rawR (rowsT (L1 ++ L2)) := by rw [rowsT_append, rawR_append]
        have hst3 := hst2.kept0 hk6
        simp only [e] at hst3
        refine ⟨⟨rfl, L1 ++ L2, fun y hy => HI.out y (by rcases Zap.1 hy with h | h <;> simp [h]), hst3⟩, ?_⟩
        have h1 : IterAt w6 it2 rp (rawR (rowsT Pp)) (rawR (rowsT (L1 ++ L2))) := (hst3.r 0 rfl).2.1
        have h2 : IterAt wB it2 rp (rawR (rowsT Pp)) _ := (hst.r 0 rfl).2.1
        rw [h1.leftOf, h2.leftOf, HSP.out, ← e]
        simp
   · obtain ⟨wB, rfl⟩ : ∃ wB, wB = wr := ⟨_, rfl⟩
     have HZ := Zhd hLf; clear hLf
     go_upto_region 10 with (first
      | (refine wl_nx1R 1 (cur_footS rk B) rfl rfl rfl hst rfl hlf HFIT.out ?_
         intro k v l1 l2 w2 hsp hst2 hent
         simp only [Zs0, Zs1] at hst2
         obtain ⟨L1, x, L2, rfl, rfl, rfl, rfl, rfl⟩ := rawS_split hsp
         obtain ⟨p, pv, nm⟩ := x
         have hxB := HZ.out (p, pv, nm) (by simp)
         obtain ⟨_, pa, pc, hpv⟩ := p2c_row (hst2.r 1 rfl).1 hxB
         have hnm : nm.length = n := by rw [(HB.out.1.bn _ hxB).length_eq]; exact HB.out.1.kn
         simp only at hpv
         rw [hnm] at hpv
         subst hpv
         have hpin := p2c_in hxB
         simp only at hpin
         have HSP := Zhd hsp; clear hsp hnm)
      | (refine wl_entry rfl rfl rfl hent ?_)
      | fail)
     have hcan := fun o => can_tp rk _ p pa n pc (w2.alloc o) (show RowsAt _ isTp rk 9 1 (rowsS B) from ((hst2.alloc o).r 1 rfl).1).map hpin
     have hdn : decide (2 ≤ n) = true := by simpa using hn2
     simp only [hdn] at hcan
     have HC := Zhd hcan; clear hcan
     go_wp2_with (first
      | (go_at_call 248
         refine (HC.out _).mono ?_
         rintro e w3 ⟨rfl, hk3⟩)
      | fail)
     have e : rawR (rowsS L1) ++ rawR (rowsS L2) = rawR (rowsS (L1 ++ L2)) := by rw [rowsS_append, rawR_append]
     have hst3 := (hst2.alloc (.cells #[.string p.1, .int .i32 p.2] 384)).kept0 hk3
     simp only [e] at hst3
     refine ⟨⟨rfl, L1 ++ L2, fun y hy => HZ.out y (by rcases Zap.1 hy with h | h <;> simp [h]), hst3⟩, ?_⟩
     have h1 : IterAt w3 it rk (rawR (rowsS B)) (rawR (rowsS (L1 ++ L2))) := (hst3.r 1 rfl).2.1
     have h2 : IterAt wB it rk (rawR (rowsS B)) _ := (hst.r 1 rfl).2.1
     rw [h1.leftOf, h2.leftOf, HSP.out, ← e]
     simp
end
section
open Go Go.Proofs Go.RowKit Go.Lib
open Classical
structure PlInJ (Xs : List Md) (D : Tops) (nw : ByteArray) : Prop where
 n1 : 1 ≤ Xs.length
 n2 : Xs.length ≤ 1000
 dk : (D.map (·.1)).Nodup
 tn : (topTps D).Nodup
 t0 : 0 < (topTps D).length
 t1 : (topTps D).length ≤ 1000
 dl : D.length ≤ 1000
 all : (Xs.flatMap (·.parts)).Perm (topTps D)
 nwIn : ∃ x ∈ Xs, x.name = nw ∧ x.parts = []
 near : ∀ x ∈ Xs, ∀ y ∈ Xs, x.name ≠ nw → y.name ≠ nw → x.parts.length ≤ y.parts.length + 1
section
variable {Xs : List Md} {D : Tops} {nw : ByteArray}
theorem PlInJ.nd (h : PlInJ Xs D nw) : (Xs.flatMap (·.parts)).Nodup := h.all.nodup_iff.2 h.tn
theorem PlInJ.sub (h : PlInJ Xs D nw) : ∀ x ∈ Xs, ∀ p ∈ x.parts, p ∈ topTps D := fun x hx p hp => h.all.mem_iff.1 (List.mem_flatMap.2 ⟨x, hx, hp⟩)
theorem PlInJ.plen (h : PlInJ Xs D nw) : (Xs.flatMap (·.parts)).length ≤ (topTps D).length := by rw [h.all.length_eq]; exact Nat.le_refl _
theorem PlInJ.n2b (h : PlInJ Xs D nw) : 2 ≤ Xs.length := by
 refine Classical.byContradiction fun hno => ?_
 have h1 := h.n1
 obtain ⟨x, hx⟩ := List.length_eq_one_iff.1 (show Xs.length = 1 by omega)
 obtain ⟨y, hy, _, h3⟩ := h.nwIn
 rw [hx] at hy
 simp only [Zmc, Znn, or_false] at hy
 subst hy
 have h4 := h.all.length_eq
 have h5 := h.t0
 rw [hx] at h4
 simp [h3] at h4
 omega
def PlanPostJ (sp : Nat) (w : World) (Xs : List Md) (D : Tops) (nw : ByteArray) (e : Ending) (w' : World) : Prop :=
 ∃ (p : Nat) (P : PL) (A : Asg), e = .returned (.tuple #[.map (some p), .nilIface]) ∧ PlanAt w' p P ∧ PlanFresh sp w' p P ∧ Plans P A ∧
  (A.map (·.1)).Perm (Xs.map (·.name)) ∧ (allOf A).Perm (topTps D) ∧ Near (loads A) ∧ (∀ x ∈ Xs, x.name ≠ nw → ∀ ps, (x.name, ps) ∈ A → ∀ p ∈ ps, p ∈ x.parts) ∧ Kept [sp] w w'
theorem St.sub {S : List Nat} {w0 w : World} {M M' R : List Res} (h : St S w0 w M R) (p : M'.Sublist M) : St S w0 w M' R :=
 ⟨h.kept, h.ow.sub (p.append (List.Sublist.refl _)), fun g hg => by
   obtain ⟨X, hX, hg⟩ := List.mem_flatMap.1 hg
   exact h.turn g (foots_mem (p.subset hX) g hg)⟩
theorem St.newmap {S : List Nat} {w0 w : World} {M R : List Res} (h : St S w0 w M R) (V : Value → Prop) : St S w0 (w.alloc (.map #[] 0)) (Rs.map w.heap.size V [] :: M) R :=
 h.push ((Kept.refl _ _).alloc _) (MapAt.new w V) (by simp [Rs.map])
theorem movM_new {S : List Nat} {w0 w : World} {R : List Res} {sp rb rm : Nat} (h : St S w0 w [Rs.map rb isStr [], Rs.map rm isTp [], Rs.blk sp (.cells #[.map (some rb), .map (some rm), .bool false] 176 (0, 0))] R) : St S w0 w (movM sp rb rm false [] [] [] []) R := by
 have h1 := ((h.push (X := Rs.maps []) (Kept.refl _ _) (by simp [Rs.maps]) (by simp [Rs.maps])).push (X := Rs.maps []) (Kept.refl _ _) (by simp [Rs.maps]) (by simp [Rs.maps]))
 exact (h1.front 4 rfl).perm ((List.perm_middle (l₁ := [Rs.maps [], Rs.maps []]) (a := Rs.map rb isStr []) (l₂ := [Rs.map rm isTp []])).cons _)
theorem movM_old {S : List Nat} {w0 w : World} {R M2 : List Res} {X : Res} {sp rb rm : Nat} {E0 D I Mv} (h : St S w0 w ((X :: movM sp rb rm false E0 D I Mv) ++ M2) R) : St S w0 w [X, Rs.strat sp] R := by
 have h1 := h.weak 1 rfl (X' := Rs.strat sp) (fun h => ⟨_, _, h⟩) (fun g hg => hg)
 simp only [List.cons_append, Zs0, Zs1] at h1
 exact h1.sub (List.Sublist.cons_cons _ (List.Sublist.cons_cons _ (List.nil_sublist _)))
def LqOk (A : List Rw) (lq : List (Value × Value)) : Prop := ∀ x ∈ A, ∀ p ∈ x.2.2, (tpV p, Value.string x.1) ∈ lq
theorem LqOk.zero {Dn : List Rw} {lq : List (Value × Value)} {m : ByteArray} {ps : List TP} {v : Value} (h : LqOk Dn lq) : LqOk (Dn ++ [(m, v, ps.take 0)]) lq := fun x hx p hp => by
 rcases Zap.1 hx with hx | hx
 · exact h x hx p hp
 · simp only [Zmc, Znn, or_false] at hx
   subst hx; simp at hp
theorem LqOk.val {Dn : List Rw} {lq : List (Value × Value)} {m : ByteArray} {ps : List TP} {v v' : Value} (h : LqOk (Dn ++ [(m, v, ps)]) lq) : LqOk (Dn ++ [(m, v', ps)]) lq := fun x hx p hp => by
 rcases Zap.1 hx with hx | hx
 · exact h x (by simp [hx]) p hp
 · simp only [Zmc, Znn, or_false] at hx
   subst hx
   exact h (m, v, ps) (by simp) p hp
theorem LqOk.step {Dn : List Rw} {lq : List (Value × Value)} {m : ByteArray} {ps : List TP} {v : Value} {k : Nat} {q : TP} (h : LqOk (Dn ++ [(m, v, ps.take k)]) lq) (hq : ps[k]? = some q) (hn : q ∉ Dn.flatMap (·.2.2) ++ ps.take k) : LqOk (Dn ++ [(m, v, ps.take (k + 1))]) (putE lq (tpV q) (.string m)) := fun x hx p hp => by
 obtain ⟨h1, h2⟩ := List.getElem?_eq_some_iff.1 hq
 rcases Zap.1 hx with hx | hx
 · refine mem_putE_oth (h x (by simp [hx]) p hp) fun e => hn ?_
   rw [← tpV_inj e]
   exact List.mem_append_left _ (List.mem_flatMap.2 ⟨x, hx, hp⟩)
 · simp only [Zmc, Znn, or_false] at hx
   subst hx
   simp only at hp
   rw [List.take_succ_eq_append_getElem h1, h2] at hp
   rcases Zap.1 hp with hp | hp
   · refine mem_putE_oth (h (m, v, ps.take k) (by simp) p hp) fun e => hn ?_
     rw [← tpV_inj e]
     exact List.mem_append_right _ hp
   · simp only [Zmc, Znn, or_false] at hp
     subst hp
     exact mem_putE_self _ _ _
theorem LqOk.fin {Dn A1 A2 : List Rw} {lq : List (Value × Value)} (h : LqOk Dn lq) (hp : Dn.Perm A1) (ha : asgT A2 = asgT A1) : LqOk A2 lq := fun x hx p hp2 => by
 have h1 : (x.1, x.2.2) ∈ asgT A1 := by rw [← ha]; exact List.mem_map.2 ⟨x, hx, rfl⟩
 obtain ⟨y, hy, e⟩ := List.mem_map.1 h1
 rw [Prod.mk.injEq] at e
 rw [← e.1]
 exact h y (hp.mem_iff.2 hy) p (by rw [e.2]; exact hp2)
theorem not_fresh {A : List Rw} (h : PlInJ Xs D nw) (hA : (A.flatMap fun y => y.2.2.map fun p => (y.1, p)).Perm (Xs.flatMap fun x => x.parts.map fun p => (x.name, p))) : (((rawR (rowsT A)).length : Int) == 0) = false := by
 have h1 : A ≠ [] := fun e => by
  subst e
  have h2 := hA.length_eq
  have h3 := h.all.length_eq
  have h4 := h.t0
  have h5 : (Xs.flatMap fun x => x.parts.map fun p => (x.name, p)) = [] := List.eq_nil_of_length_eq_zero (by rw [← h2]; rfl)
  have h6 : Xs.flatMap (·.parts) = [] := List.flatMap_eq_nil_iff.2 fun x hx => by
   have := List.flatMap_eq_nil_iff.1 h5 x hx
   simpa using this
  rw [h6] at h3; simp at h3; omega
 have h2 : 0 < A.length := List.length_pos_iff.2 h1
 have h3 : (rawR (rowsT A)).length = A.length := by simp [rawR, rowsT]
 rw [h3]
 simp; exact h1
theorem join_start {A2 : List Rw} {B : List Sw} {K Un acc zs : List TP} (h : PlInJ Xs D nw) (hk : (A2.map (·.1)).Perm (Xs.map (·.name))) (hX : (Xs.map (·.name)).Nodup) (hrow : ∀ x ∈ Xs, ∀ ps, (x.name, ps) ∈ asgT A2 → ps.Perm x.parts) (hUK : (Un ++ A2.flatMap (·.2.2)).Perm K) (hacc : acc.Perm Un) (hK : K.Perm (topTps D)) (hB : B.map (·.1) = K) (hz : zs.Perm (B.map (·.1)))
 (hm : ∃ acc rest, zs = acc ++ rest ∧ acc.Perm (allOf (asgT A2)) ∧ MostTo (asgT A2) acc) :
 acc = [] ∧ (allOf (asgT A2)).Perm (topTps D) ∧ MInv zs (JInv (asgT A2) nw zs) ∧ JInv (asgT A2) nw zs 0 (asgT A2) ∧ (∃ x ∈ A2, x.2.2 = []) := by
 have hkn : (ks (asgT A2)).Nodup := by rw [asgT_ks]; exact hk.nodup_iff.2 hX
 have hkk : ∀ m ∈ ks (asgT A2), ∃ x ∈ Xs, x.name = m ∧ (rowOf (asgT A2) m).Perm x.parts := fun m hm => by
  have h1 := hm
  rw [asgT_ks] at h1
  obtain ⟨x, hx, e⟩ := List.mem_map.1 (hk.mem_iff.1 h1)
  refine ⟨x, hx, e, hrow x hx _ ?_⟩
  rw [e]; exact ks_mem hkn hm
 have hlen : (A2.flatMap (·.2.2)).length = (topTps D).length := by
  rw [← h.all.length_eq]
  rw [← asgT_flat3, all_rows hkn]
  have h1 : ((ks (asgT A2)).flatMap (rowOf (asgT A2))).length = (((Xs.map (·.name)).flatMap (rowOf (asgT A2)))).length := by
   have h2 : (ks (asgT A2)).Perm (Xs.map (·.name)) := by rw [asgT_ks]; exact hk
   exact (h2.flatMap_right _).length_eq
  rw [h1, List.flatMap_map, List.length_flatMap, List.length_flatMap]
  congr 1
  refine List.map_congr_left fun x hx => ?_
  have h3 : x.name ∈ ks (asgT A2) := by rw [asgT_ks]; exact hk.mem_iff.2 (List.mem_map_of_mem hx)
  exact (hrow x hx _ (ks_mem hkn h3)).length_eq
 have hUl := hUK.length_eq
 have hKl := hK.length_eq
 rw [List.length_append] at hUl
 have hU0 : Un = [] := List.eq_nil_of_length_eq_zero (by omega)
 subst hU0
 have ha0 : acc = [] := List.perm_nil.1 hacc
 have hall : (allOf (asgT A2)).Perm (topTps D) := by
  rw [asgT_flat3]
  simpa using hUK.trans hK
 have hzP : zs.Perm (topTps D) := hz.trans (by rw [hB]; exact hK)
 have hzA : zs.Perm (allOf (asgT A2)) := hzP.trans hall.symm
 obtain ⟨acc', rest, e, hp, hmt⟩ := hm
 have hr0 : rest = [] := List.eq_nil_of_length_eq_zero (by
  have h1 := hzA.length_eq
  have h2 := hp.length_eq
  rw [e, List.length_append] at h1; omega)
 subst hr0
 rw [List.append_nil] at e
 subst e
 have hAn : (allOf (asgT A2)).Nodup := hall.nodup_iff.2 h.tn
 have hkn' : ((asgT A2).map (·.1)).Nodup := hkn
 have hM : Most (asgT A2) nw zs := most_of hkn' hAn hzA hmt
 obtain ⟨x0, hx0, hxn, hxp⟩ := h.nwIn
 have hnwk : nw ∈ ks (asgT A2) := by rw [asgT_ks, ← hxn]; exact hk.mem_iff.2 (List.mem_map_of_mem hx0)
 have hnw0 : rowOf (asgT A2) nw = [] := by
  have h1 := hrow x0 hx0 (rowOf (asgT A2) nw) (by rw [hxn]; exact ks_mem hkn hnwk)
  rw [hxp] at h1
  exact List.perm_nil.1 h1
 refine ⟨ha0, hall, minv_join hM hkn hAn hnwk, ⟨0, ⟨rfl, by rw [hnw0]; simp, fun m hm hmw => ?_, fun m hm m' hm' h1 h2 => ?_, fun m hm hmw => ?_⟩, .inl rfl⟩, ?_⟩
 · rw [List.filter_eq_self.2]
   intro x hx; simp
 · obtain ⟨x, hx, e1, p1⟩ := hkk m hm
   obtain ⟨y, hy, e2, p2⟩ := hkk m' hm'
   unfold ld
   rw [p1.length_eq, p2.length_eq]
   exact h.near x hx y hy (by rw [e1]; exact h1) (by rw [e2]; exact h2)
 · unfold ld; rw [hnw0]; exact Nat.zero_le _
 · have h1 := hnwk
   rw [asgT_ks] at h1
   obtain ⟨y, hy, e⟩ := List.mem_map.1 h1
   refine ⟨y, hy, ?_⟩
   have h2 := row_of (hk.nodup_iff.2 hX) hy
   rw [← h2, e]; exact hnw0
theorem join_ok {A2 Pp : List Rw} {B : List Sw} {K zs : List TP} {n N : Nat} (h : PlInJ Xs D nw) (hk : (A2.map (·.1)).Perm (Xs.map (·.name))) (hX : (Xs.map (·.name)).Nodup) (hP : (Pp.map (·.1)).Perm (Xs.map (·.name))) (hPt : ∀ x ∈ Pp, x.2.2.Perm (topTps D)) (hB : B.map (·.1) = K) (hBf : ∀ y ∈ B, y.2.2.Perm (Xs.map (·.name))) (hK : K.Perm (topTps D)) (hz : zs.Perm (B.map (·.1))) (hzl : N = zs.length) (hn : A2.length = n) (hnX : n = Xs.length) (hn0 : 0 < n) (hn1 : n ≤ 1000) :
 PfOk n N (A2.map (·.1)) (topTps D) zs B Pp :=
 ⟨hn0, hn1, by rw [List.length_map]; exact hn, hk.nodup_iff.2 hX, h.tn, h.t1, hz.trans (by rw [hB]; exact hK), hzl.symm, by rw [hB]; exact hK, fun x hx => (hBf x hx).trans hk.symm, fun m hm => by
   obtain ⟨y, hy, e⟩ := List.mem_map.1 (hP.mem_iff.2 (hk.mem_iff.1 hm))
   exact ⟨y.2.1, y.2.2, by rw [← e]; exact hy, hPt y hy⟩⟩
theorem join_end {A2 A3 : List Rw} {zs : List TP} {k : Nat} (hk : (A2.map (·.1)).Perm (Xs.map (·.name))) (hX : (Xs.map (·.name)).Nodup) (hrow : ∀ x ∈ Xs, ∀ ps, (x.name, ps) ∈ asgT A2 → ps.Perm x.parts) (hI : JInv (asgT A2) nw zs k (asgT A3)) (hk3 : A3.map (·.1) = A2.map (·.1)) :
 ∀ x ∈ Xs, x.name ≠ nw → ∀ ps, (x.name, ps) ∈ asgT A3 → ∀ p ∈ ps, p ∈ x.parts := by
 intro x hx hxn ps hps p hp
 obtain ⟨k', hJ, _⟩ := hI
 have hkn : (ks (asgT A2)).Nodup := by rw [asgT_ks]; exact hk.nodup_iff.2 hX
 have hk3n : ((asgT A3).map (·.1)).Nodup := by
  have : (asgT A3).map (·.1) = A3.map (·.1) := asgT_ks A3
  rw [this, hk3]; exact hk.nodup_iff.2 hX
 have hm : x.name ∈ ks (asgT A2) := by rw [asgT_ks]; exact hk.mem_iff.2 (List.mem_map_of_mem hx)
 have h1 : rowOf (asgT A3) x.name = ps := rowOf_mem hk3n hps
 have h2 := hJ.sub hm hxn p (by rw [h1]; exact hp)
 exact (hrow x hx _ (ks_mem hkn hm)).mem_iff.1 h2
end
end
end Go.Proofs.YticcnlpfmekagaaGreat
