/- Part 36 of the proof of the row: BalC. -/
import Derived.Test.YticcnlpfmekagaaGreatRc00
import Derived.Test.YticcnlpfmekagaaGreatRc34
import Derived.Test.YticcnlpfmekagaaGreatRc35
set_option linter.unusedVariables false
set_option linter.unusedSimpArgs false
set_option maxRecDepth 100000
set_option maxHeartbeats 8000000
namespace Go.Proofs.YticcnlpfmekagaaGreat
section
open Go Go.Proofs Go.RowKit Go.Lib
open Classical
theorem pc1 {x y f c q i z : Res} {N : List Res} : (x :: y :: f :: c :: q :: i :: z :: N).Perm ((c :: q :: i :: N) ++ [f, z, x, y]) := by
 have h1 : (x :: y :: f :: c :: q :: i :: z :: N).Perm (x :: y :: ((c :: q :: i :: N) ++ [f, z])) := (pj1.cons y).cons x
 refine h1.trans ?_
 have h2 : (x :: y :: ((c :: q :: i :: N) ++ [f, z])).Perm (((c :: q :: i :: N) ++ [f, z]) ++ [x, y]) := List.perm_append_comm (l₁ := [x, y])
 rw [List.append_assoc] at h2
 exact h2
theorem pc2 {x y f c q i z : Res} {N : List Res} : ((c :: q :: i :: N) ++ [f, z, x, y]).Perm (([c, f]) ++ ((q :: i :: z :: N) ++ [x, y])) := by
 have h1 : ((c :: q :: i :: N) ++ [f, z, x, y]).Perm (((c :: q :: i :: N) ++ [f, z]) ++ [x, y]) := by rw [List.append_assoc]; exact .refl _
 have h2 : ((c :: q :: i :: N) ++ [f, z]).Perm (c :: f :: q :: i :: z :: N) := pj1.symm.trans (List.Perm.swap _ _ _)
 exact h1.trans (h2.append_right [x, y])
def BCP (S : List Nat) (w : World) (rc rf rq n ks : Nat) (vs : Value) (zs : List TP) (Ks : List ByteArray) (P : List TP) (Inv : Nat → Asg → Prop) (sp rb rm : Nat) (cp : Bool) (X1 X2 : Res) (R : List Res) (e : Ending) (w' : World) : Prop :=
 ∃ A' b k vi E0 D I Mv lq L, e = .returned (.bool b) ∧ Inv k (asgT A') ∧ Near (A'.map (·.2.2.length)) ∧ A'.map (·.1) = Ks ∧ (allOf (asgT A')).Perm P ∧ St S w w' ([Rs.cur rc A', Rs.cur rf []] ++ ((Rs.map rq isTp lq :: Rs.ids vi n L :: Rs.row 384 2 vs ks (zs.flatMap encTp) :: movM sp rb rm cp E0 D I Mv) ++ [X1, X2])) R
theorem bjc_perf {S : List Nat} {w w3 : World} {sp rb rm rc rf rq rp rk rv ks n g0 c0 zc : Nat} {cp : Bool} {za : Option Addr} {A Pp : List Rw} {B : List Sw} {lq : List (Value × Value)} {zs P : List TP} {Ks : List ByteArray} {L : List (ByteArray × Nat)} {E0 : List (ByteArray × Nat)} {D : List (Nat × List (Pr × Nat))} {I : List (Nat × List (Value × Value))} {Mv : List (TP × Pr)} {Inv : Nat → Asg → Prop} {X X1 X2 : Res}
 (hok : PfOk n ks Ks P zs B Pp) (hI : MInv zs Inv) (h0 : Inv 0 (asgT A)) (hL : IdsOf A L) (hKs : A.map (·.1) = Ks) (hAll : (allOf (asgT A)).Perm P)
 (hcpc : ∀ x ∈ A, ∀ p ∈ x.2.2, (tpV p, Value.string x.1) ∈ lq) (hmov : MovOk (fun x => x ∈ ([] : List ByteArray)) (fun q => ∃ z ∈ ([] : List ByteArray), q ∈ rowOf (asgT A) z) E0 D I Mv)
 (hst : St S w w3 (X1 :: X2 :: Rs.cur rf [] :: bjM sp rb rm rc rq ks n g0 c0 cp (.slice za ks zc) A lq zs L E0 D I Mv) [Rs.cur rp Pp, Rs.p2c rk B, X, Rs.map rv isTp []]) :
 Calls Tryz.prog 253 #[.pointer (some ⟨sp, 0, none⟩), .slice za ks zc, .map (some rc), .map (some rv), .slice (some ⟨g0, 0, none⟩) n c0, .map (some rp), .map (some rk), .map (some rq)] w3
  (BCP S w rc rf rq n ks (.slice za ks zc) zs Ks P Inv sp rb rm cp X1 X2 [Rs.cur rp Pp, Rs.p2c rk B, X, Rs.map rv isTp []]) := by
 have hst1 : St S w w3 (([Rs.cur rc A, Rs.map rq isTp lq, Rs.ids (.slice (some ⟨g0, 0, none⟩) n c0) n L] ++ movM sp rb rm cp E0 D I Mv) ++ [Rs.cur rf [], Rs.row 384 2 (.slice za ks zc) ks (zs.flatMap encTp), X1, X2]) [Rs.cur rp Pp, Rs.p2c rk B, X, Rs.map rv isTp []] :=
  hst.perm pc1
 have how : Ow w3 (([Rs.cur rc A, Rs.map rq isTp lq, Rs.ids (.slice (some ⟨g0, 0, none⟩) n c0) n L] ++ movM sp rb rm cp E0 D I Mv) ++ pfR za ks zc rp rk rv zs Pp B) := by
  have h := hst1.ow
  rw [List.append_assoc] at h
  exact h.sub ((List.Sublist.refl _).append (List.Sublist.cons _ (List.Sublist.cons_cons _ (List.Sublist.cons _ (List.Sublist.cons _ (List.Sublist.cons_cons _ (List.Sublist.cons_cons _ (List.Sublist.cons _ (List.Sublist.refl _)))))))))
 have hpf : PfSt (foots ([Rs.cur rc A, Rs.map rq isTp lq, Rs.ids (.slice (some ⟨g0, 0, none⟩) n c0) n L] ++ movM sp rb rm cp E0 D I Mv)) w3 sp rb rm rc rq n cp Ks P (pfR za ks zc rp rk rv zs Pp B) (.slice (some ⟨g0, 0, none⟩) n c0) A w3 :=
  ⟨lq, L, g0, c0, [], E0, D, I, Mv, rfl, hL, gain_nil _, hmov, hcpc, hKs, hAll, St.start how⟩
 refine (perf_any _ sp rb rm rc rq n rp rk rv ks zc cp za Ks P zs B Pp A Inv _ w3 hok hI h0 hpf).mono ?_
 rintro e w4 ⟨A', b, k, vi, rfl, hI', hN', lq', L', g', c', Gs, E', D', I', Mv', rfl, _, _, _, _, hK', hA', hst'⟩
 refine ⟨A', b, k, .slice (some ⟨g', 0, none⟩) n c', E', D', I', Mv', lq', L', rfl, hI', hN', hK', hA', ?_⟩
 have h := St.call hst1 hst'
 exact h.perm pc2
def BalCPost (S : List Nat) (w : World) (rc : Nat) (Ks : List ByteArray) (P : List TP) (sp rb rm : Nat) (cp : Bool) (e : Ending) (w' : World) : Prop :=
 ∃ A' E0 D I Mv, e = .returned (.tuple #[]) ∧ A'.map (·.1) = Ks ∧ (allOf (asgT A')).Perm P ∧ St S w w' (Rs.cur rc A' :: movM sp rb rm cp E0 D I Mv) []
def BInvC (S : List Nat) (w : World) (sp rb rm rc rq ks n : Nat) (cp : Bool) (vs : Value) (A : List Rw) (us zs : List TP) (R : List Res) (k : Nat) (vi : Value) (wr : World) : Prop :=
 ∃ (A' : List Rw) (lq' : List (Value × Value)) (g c : Nat) (L' : List (ByteArray × Nat)), vi = .slice (some ⟨g, 0, none⟩) n c ∧ IdsOf A' L' ∧ Dealt (asgT A) (us.take k) (asgT A') ∧ Nils A' ∧ LqOk A' lq' ∧
  St S w wr (bjM sp rb rm rc rq ks n g c cp vs A' lq' zs L' [] [] [] []) R
theorem balance_co (sp rb rm rc rq rp rk rv ks ku n g0 c0 : Nat) (cp : Bool) (vs vu : Value) (A Pp : List Rw) (B : List Sw) (lq : List (Value × Value)) (us zs P : List TP) (Ks : List ByteArray) (L : List (ByteArray × Nat)) (w : World)
 (how : Ow w (bjM sp rb rm rc rq ks n g0 c0 cp vs A lq zs L [] [] [] [] ++ [Rs.cur rp Pp, Rs.p2c rk B, Rs.row 384 2 vu ku (us.flatMap encTp), Rs.map rv isTp []])) (hok : PfOk n ks Ks P zs B Pp) (hn2 : 2 ≤ n) (hL : IdsOf A L) (hKs : A.map (·.1) = Ks) (hAll : (allOf (asgT A) ++ us).Perm P)
 (hcpc : LqOk A lq) (hnil : Nils A) (hP0 : 0 < P.length) (hPk : ∀ x ∈ Pp, x.1 ∈ Ks ∧ x.2.2.Perm P) (hkuu : us.length = ku) :
 Calls Tryz.prog 233 #[.pointer (some ⟨sp, 0, none⟩), .map (some rc), .map (some rv), vs, vu, .slice (some ⟨g0, 0, none⟩) n c0, .map (some rp), .map (some rk), .map (some rq)] w (BalCPost (foots (bjM sp rb rm rc rq ks n g0 c0 cp vs A lq zs L [] [] [] [])) w rc Ks P sp rb rm cp) := by
 have hst0 : St (foots (bjM sp rb rm rc rq ks n g0 c0 cp vs A lq zs L [] [] [] [])) w w (bjM sp rb rm rc rq ks n g0 c0 cp vs A lq zs L [] [] [] []) [Rs.cur rp Pp, Rs.p2c rk B, Rs.row 384 2 vu ku (us.flatMap encTp), Rs.map rv isTp []] := St.start how
 generalize foots (bjM sp rb rm rc rq ks n g0 c0 cp vs A lq zs L [] [] [] []) = S at *
 have hlen : A.length = n := by have := congrArg List.length hKs; have := hok.kn; simp at *; omega
 obtain ⟨ua, uc, rfl, huc⟩ := own_cap (show w.ownsRow 0 384 2 vu ku (us.flatMap encTp) from hst0.r 2 rfl)
 obtain ⟨za, zc, rfl, _⟩ := own_cap (show w.ownsRow 0 384 2 vs ks (zs.flatMap encTp) from hst0.m 3 rfl)
 clear huc
 have hn0 : 0 < n := by omega
 have hn1 := hok.n1
 have hle : (allOf (asgT A) ++ us).length ≤ 1000 := by rw [hAll.length_eq]; exact hok.p1
 have hkl : us.length ≤ 1000 := by simp at hle; omega
 have hkz1 : ks ≤ 1000 := by have := hok.zl; have := hok.zp.length_eq; have := hok.p1; omega
 obtain ⟨m0, v0, p0, hm0, e0⟩ := hL.get (i := 0) (by rw [hL.len, hlen]; omega)
 obtain ⟨_, a0, k0, hv0⟩ := cur_row (hst0.m 0 rfl) hm0
 simp only at hv0
 subst hv0
 have c0' : w.cell? ⟨g0, 0, none⟩ = some (.string m0) := by
  have := (own_cell (hst0.m 2 rfl) (names_get (L := L) (j := 0) (by rw [hL.len, hlen]; omega))).1
  rw [e0] at this; exact this
 clear e0
 have hin0 := cur_in hm0
 simp only at hin0
 have hp0 : p0.length ≤ 1000 := by have := row_le hm0; simp at hle this; omega
 have hB0 : BInvC S w sp rb rm rc rq ks n cp (.slice za ks zc) A us zs [Rs.cur rp Pp, Rs.p2c rk B, Rs.row 384 2 (.slice ua ku uc) ku (us.flatMap encTp), Rs.map rv isTp []] 0 (.slice (some ⟨g0, 0, none⟩) n c0) w := ⟨A, lq, g0, c0, L, rfl, hL, Dealt.refl _, hnil, hcpc, hst0⟩
 have HB := Zhd (Zan hok (Zan hkuu (Zan hPk (Zan hKs (Zan hAll hlen))))); clear hok hPk hKs hkuu hAll hlen
 have HS := Zhd hB0; clear hB0 hnil hL hcpc how hm0
 have hni : (0 : Int) < (n : Int) := by omega
 have hn3 : ((n : Int) == 0) = false := by simp; omega
 have hl0 : (Instr.lookup 378 (.map (some rc)) (.string m0) false).run Tryz.prog w = .ok (.slice a0 p0.length k0) w := by
  simpa using map_lookup_hit (P := Tryz.prog) (show RowsAt w isStr rc 384 2 (rowsT A) from hst0.m 0 rfl).map (keyT_str Tryz.underlying9) Tryz.underlying378 hin0 false
 obtain ⟨b0, hb0⟩ : ∃ b0, ((p0.length : Int) == 0) = b0 := ⟨_, rfl⟩
 clear hst0 hin0
 go_enter Tryz.func233, Tryz.ntmps233
 go_wp2_with fail
 clear hl0 hb0 c0' hn3
 go_loopw [5, 41] (fun vi i wr => ∃ k : Nat, i = .int .i64 k ∧ k ≤ us.length ∧ BInvC S w sp rb rm rc rq ks n cp (.slice za ks zc) A us zs [Rs.cur rp Pp, Rs.p2c rk B, Rs.row 384 2 (.slice ua ku uc) ku (us.flatMap encTp), Rs.map rv isTp []] k vi wr) (fun _ i _ => ku - (intOf i).toNat)
 case atStart => exact ⟨0, rfl, Nat.zero_le _, HS.out⟩
 case round =>
  obtain ⟨k, rfl, hk, A', lq', g, c, L', rfl, hL', hD, hN', hq', hst⟩ := hrel
  have hlen' : A'.length = n := by
   have := congrArg List.length (dealt_keys hD)
   simpa [HB.out.2.2.2.2.2] using this
  by_cases hku : k < us.length
  · obtain ⟨x, hkx⟩ : ∃ x, us[k]? = some x := ⟨_, List.getElem?_eq_getElem hku⟩
    obtain ⟨g1, g2⟩ := tp_get hkx
    have hkl0 : 0 < ku := by have := HB.out.2.1; omega
    obtain ⟨gu, cu, eu⟩ := own_some (show wr.ownsRow 0 384 2 (.slice ua ku uc) ku (us.flatMap encTp) from hst.r 2 rfl) hkl0
    cases eu
    have d1 := (own_cell (hst.r 2 rfl) g1).1
    have d2 := (own_cell (hst.r 2 rfl) g2).1
    have hxP : x ∈ P := HB.out.2.2.2.2.1.mem_iff.1 (by simp [List.mem_of_getElem? hkx])
    have hxB : x ∈ B.map (·.1) := HB.out.1.bk.mem_iff.2 hxP
    obtain ⟨⟨x', vx, nm⟩, hxm, hxe⟩ := List.mem_map.1 hxB
    simp only at hxe
    subst hxe
    have hnm : nm.length = n := by rw [(HB.out.1.bn _ hxm).length_eq]; exact HB.out.1.kn
    obtain ⟨_, ax, cx, hvx⟩ := p2c_row (hst.r 1 rfl) hxm
    simp only [hnm] at hvx
    subst hvx
    have hpin := p2c_in hxm
    simp only at hpin
    have hass := fun o => assign_any x' rc rp rq g n c A' Pp lq' L' (wr.alloc o) (((hst.alloc o).ow).sub (by
     refine List.Sublist.cons_cons _ (List.Sublist.cons_cons _ (List.Sublist.cons_cons _ ?_))
     exact (List.nil_sublist _).append (List.Sublist.cons_cons _ (List.nil_sublist _)))) hL' hlen' hn0 (by omega) (fun y hy => by have := dealt_le hD hy; omega) (fun y hy => by
     have hk' : y.1 ∈ Ks := by rw [← HB.out.2.2.2.1, ← dealt_keys hD]; exact List.mem_map_of_mem hy
     obtain ⟨v, qs, h1, h2⟩ := HB.out.1.pp _ hk'
     refine ⟨v, qs, h1, h2.mem_iff.2 hxP, ?_⟩
     have := h2.length_eq; have := HB.out.1.p1; omega)
    have HA := Zhd hass; clear hass
    have HX := Zhd (Zan hkx (Zan hL' (Zan hD (Zan hN' (Zan hlen' hq'))))); clear hkx hL' hD hN' hlen' hq' hxm hxB hxP g1 g2
    have hki : (k : Int) < (ku : Int) := by have := HB.out.2.1; omega
    go_wp2_with (first
     | (refine wl_lk rfl rfl rfl rfl keyT_tp Tryz.underlying382 (show RowsAt _ isTp rk 9 1 (rowsS B) from (hst.alloc _).r 1 rfl).map hpin ?_)
     | (go_at_call 247
        refine (HA.out _).mono ?_
        rintro e w1 ⟨A1, m, v, ps, A2, v', g', c', L2, hA, hmin, rfl, hL2, hst1⟩)
     | fail)
    subst hA
    have hD2 : Dealt (asgT A) (us.take (k + 1)) (asgT (A1 ++ (m, v', ps ++ [x']) :: A2)) := by
     have h1 := HX.out.2.2.1
     rw [asgT_mid] at h1 ⊢
     rw [take_snoc HX.out.1]
     refine h1.step x' (fun r hr => ?_)
     have h2 : asgT A1 ++ (m, ps) :: asgT A2 = asgT (A1 ++ (m, v, ps) :: A2) := by rw [asgT_mid]
     simp only [h2] at hr
     obtain ⟨y, hy, rfl⟩ := List.mem_map.1 hr
     exact hmin y hy
    have hN2 : Nils (A1 ++ (m, v', ps ++ [x']) :: A2) := by
     intro y hy h0
     have h1 := HX.out.2.2.2.1
     rcases Zap.1 hy with hy | hy
     · exact h1 y (by simp [hy]) h0
     · rcases Zmc.1 hy with rfl | hy
       · simp at h0
       · exact h1 y (by simp [hy]) h0
    have hst2 := (St.call (M1 := [Rs.cur rc (A1 ++ (m, v, ps) :: A2), Rs.map rq isTp lq']) (hst.alloc (.cells #[.string x'.1, .int .i32 x'.2] 384)) hst1).drop 3
    have hst3 : St S w w1 (bjM sp rb rm rc rq ks n g' c' cp (.slice za ks zc) (A1 ++ (m, v', ps ++ [x']) :: A2) (putE lq' (tpV x') (.string m)) zs L2 [] [] [] []) _ :=
     hst2.perm (by
      refine List.Perm.trans (List.Perm.swap ..) (List.Perm.cons _ (List.Perm.swap ..)))
    have hnew : ∀ y ∈ A1 ++ (m, v, ps) :: A2, x' ∉ y.2.2 := fun y hy hyx => by
     have h1 := HX.out.2.2.1.perm
     have h2 : ((asgT A).flatMap (·.2) ++ us).Nodup := HB.out.2.2.2.2.1.nodup_iff.2 HB.out.1.pn
     obtain ⟨h3, h4⟩ := List.getElem?_eq_some_iff.1 HX.out.1
     have h5 : x' ∈ (asgT (A1 ++ (m, v, ps) :: A2)).flatMap (·.2) := List.mem_flatMap.2 ⟨(y.1, y.2.2), List.mem_map.2 ⟨y, hy, rfl⟩, hyx⟩
     have h6 := h1.mem_iff.1 h5
     rw [List.nodup_append] at h2
     rcases Zap.1 h6 with h | h
     · exact h2.2.2 x' h x' (List.mem_of_getElem? HX.out.1) rfl
     · exact take_new h2.2.1 HX.out.1 h
    have hq2 : LqOk (A1 ++ (m, v', ps ++ [x']) :: A2) (putE lq' (tpV x') (.string m)) := fun y hy p hp => by
     have h1 := HX.out.2.2.2.2.2
     have hoth : ∀ z ∈ A1 ++ (m, v, ps) :: A2, ∀ p ∈ z.2.2, (tpV p, Value.string z.1) ∈ putE lq' (tpV x') (.string m) := fun z hz p hp => by
      refine mem_putE_oth (h1 z hz p hp) fun e => hnew z hz ?_
      rw [← tpV_inj e]; exact hp
     rcases Zap.1 hy with h | h
     · exact hoth y (by simp [h]) p hp
     · rcases Zmc.1 h with rfl | h
       · simp only at hp ⊢
         rcases Zap.1 hp with h | h
         · exact hoth (m, v, ps) (by simp) p h
         · simp only [Zmc, Znn, or_false] at h
           subst h
           exact mem_putE_self _ _ _
       · exact hoth y (by simp [h]) p hp
    refine ⟨⟨k + 1, by go_num, by omega, ?_⟩, by simp [intOf]; omega⟩
    exact ⟨_, _, g', c', L2, rfl, hL2, hD2, hN2, hq2, hst3⟩
  · obtain rfl : k = us.length := by omega
    rw [List.take_of_length_le (Nat.le_refl _)] at hD
    have hKq : A'.map (·.1) = Ks := by rw [dealt_keys hD]; exact HB.out.2.2.2.1
    have hAq : (allOf (asgT A')).Perm P := hD.perm.trans HB.out.2.2.2.2.1
    have hmv : MovOk (fun x => x ∈ ([] : List ByteArray)) (fun q => ∃ z ∈ ([] : List ByteArray), q ∈ rowOf (asgT A') z) [] [] [] [] := movOk_nil _ _
    have HBq := Zhd (Zan HB.out.1 (Zan (minv_true zs) (Zan (show (fun _ _ => True : Nat → Asg → Prop) 0 (asgT A') from trivial) (Zan hL' (Zan hKq (Zan hAq (Zan hq' (Zan hmv (Zan hN' (Zan hlen' HB.out.2.2.1))))))))))
    have hki : ¬ ((us.length : Int) < (ku : Int)) := by have := HB.out.2.1; omega
    clear hL' hKq hAq hmv hq' hN' hlen' hD
    obtain ⟨Aq, rfl⟩ : ∃ Aq, Aq = A' := ⟨_, rfl⟩
    obtain ⟨lqq, rfl⟩ : ∃ lqq, lqq = lq' := ⟨_, rfl⟩
    obtain ⟨Lq, rfl⟩ : ∃ Lq, Lq = L' := ⟨_, rfl⟩
    obtain ⟨gq, rfl⟩ : ∃ gq, gq = g := ⟨_, rfl⟩
    obtain ⟨cq, rfl⟩ : ∃ cq, cq = c := ⟨_, rfl⟩
    go_wp2_with (first
     | (refine wl_rngR 1 rfl rfl rfl Tryz.underlying382 hst rfl (cur_footS rk B) (show RowsAt _ isTp rk 9 1 (rowsS B) from hst.r 1 rfl).map ?_
        intro it w2 hst2 hit)
     | fail)
    simp only [Zs0, Zs1] at hst2
    have hfit : w.heap.size ≤ it := by have := hst.size; omega
    have HFIT := Zhd hfit; clear hfit hit
    have h20 : BJ2 S w rk it (bjM sp rb rm rc rq ks n gq cq cp (.slice za ks zc) Aq lqq zs Lq [] [] [] []) B (Rs.cur rp Pp) (Rs.row 384 2 (.slice ua ku uc) ku (us.flatMap encTp)) (Rs.map rv isTp []) (.slice za ks zc) (.slice za ks zc) w2 := ⟨rfl, B, fun x hx => hx, hst2⟩
    have H20 := Zhd h20; clear h20 hst2 hst
    try go_frame
    go_loopw [3] (fun vz wr => BJ2 S w rk it (bjM sp rb rm rc rq ks n gq cq cp (.slice za ks zc) Aq lqq zs Lq [] [] [] []) B (Rs.cur rp Pp) (Rs.row 384 2 (.slice ua ku uc) ku (us.flatMap encTp)) (Rs.map rv isTp []) (.slice za ks zc) vz wr) (fun _ wr => leftOf wr it rk)
    case atStart => exact H20.out
    case round =>
     clear H20
     obtain ⟨hvz, Lf, hLf, hst⟩ := hrel
     subst hvz
     by_cases hlf : rawR (rowsS Lf) = []
     · have h0 := rawS_nil hlf
       subst h0
       have hit0 : IterAt wr it rk (rawR (rowsS B)) [] := (hst.r 1 rfl).2.1
       have hst1 := (hst.weakR 1 rfl (X' := Rs.p2c rk B) (fun h => h.1) (fun g hg => by simp [Rs.it, hg]))
       simp only [Zs0, Zs1] at hst1
       clear hLf hst
       go_wp2_with (first
        | (refine wl_nx0 rfl rfl rfl hit0 ?_)
        | (refine wl_mkmap (V := isStr) rfl rfl hst1 ?_
           intro rf w3 hst3 hrf
           have hst4 := hst3.mapRows 384 2)
        | (refine wl_rngR 0 rfl rfl rfl Tryz.underlying378 hst4 rfl (cur_foot rp Pp) (show RowsAt _ isStr rp 384 2 (rowsT Pp) from hst4.r 0 rfl).map ?_
           intro it2 w4 hst5 hit2)
        | fail)
       simp only [Zs0, Zs1] at hst5
       have hfit2 : w.heap.size ≤ it2 := by have := hst4.size; omega
       have HFIT2 := Zhd hfit2; clear hfit2 hit2 hst4 hst3 hst1 hrf hit0
       have h30 : BJ3 S w rf rp it2 (bjM sp rb rm rc rq ks n gq cq cp (.slice za ks zc) Aq lqq zs Lq [] [] [] []) Pp (Rs.p2c rk B) (Rs.row 384 2 (.slice ua ku uc) ku (us.flatMap encTp)) (Rs.map rv isTp []) w4 := ⟨Pp, fun x hx => hx, hst5⟩
       have H30 := Zhd h30; clear h30 hst5
       try go_frame
       go_loopw [5, 23] (fun vi _ wr => vi = .slice (some ⟨gq, 0, none⟩) n cq ∧ BJ3 S w rf rp it2 (bjM sp rb rm rc rq ks n gq cq cp (.slice za ks zc) Aq lqq zs Lq [] [] [] []) Pp (Rs.p2c rk B) (Rs.row 384 2 (.slice ua ku uc) ku (us.flatMap encTp)) (Rs.map rv isTp []) wr) (fun _ _ wr => leftOf wr it2 rp)
       case atStart => exact ⟨rfl, H30.out⟩
       case round =>
        clear H30
        obtain ⟨hvi, Lf, hLf, hst⟩ := hrel
        subst hvi
        by_cases hlf : rawR (rowsT Lf) = []
        · have h0 := rawR_nil hlf
          subst h0
          have hit0 : IterAt wr it2 rp (rawR (rowsT Pp)) [] := (hst.r 0 rfl).2.1
          have hst1 := hst.weakR 0 rfl (X' := Rs.cur rp Pp) (fun h => h.1) (fun g hg => by simp [Rs.it, hg])
          simp only [Zs0] at hst1
          clear hst hLf
          have hbA : ∀ x ∈ Aq, x.2.2.length ≤ 1000000 := fun x hx => by
           have h1 := row_le hx
           have h2 := HBq.out.2.2.2.2.2.1.length_eq
           have h3 := HBq.out.1.p1
           omega
          have hlA : Aq.length ≤ 1000000 := by have := HBq.out.2.2.2.2.2.2.2.2.2.1; omega
          have hdc := deep_copy rc Aq wr (Ow.one (hst1.m 1 rfl) (hst1.lt 1 rfl)) hlA hbA HBq.out.2.2.2.2.2.2.2.2.1
          have HDC := Zhd hdc; clear hdc hbA hlA
          go_upto_region 23 with (first
           | (refine wl_nx0 rfl rfl rfl hit0 ?_)
           | (go_at_call 251
              refine (HDC.out).mono ?_
              rintro e w2 ⟨r2, B2, rfl, hB2, hN2, hst2⟩
              have hst3 := St.call (M1 := []) hst1 hst2
              have hcl := clone_cpc rq lqq w2 (hst3.m 3 rfl)
              have HCL := Zhd (Zan hB2 hN2); clear hB2 hN2
              have HCL2 := Zhd hcl; clear hcl)
           | (go_at_call 252
              refine (HCL2.out).mono ?_
              rintro e w3 ⟨r3, l3, rfl, _, hst4⟩
              have hst5 := St.call (M1 := []) hst3 hst4
              have HPF := Zhd (bjc_perf HBq.out.1 HBq.out.2.1 HBq.out.2.2.1 HBq.out.2.2.2.1 HBq.out.2.2.2.2.1 HBq.out.2.2.2.2.2.1 HBq.out.2.2.2.2.2.2.1 HBq.out.2.2.2.2.2.2.2.1 hst5))
           | (go_at_call 253
              refine (HPF.out).mono ?_
              rintro e w4 ⟨A2, b2, k2, vi2, E2, D2, I2, Mv2, lq2, L2, rfl, hI2, hN2, hK2, hA2, hst6⟩
              have HCP := Zhd (copy_rows rc rf A2 [] w4 ((hst6.ow).sub (List.Sublist.cons_cons _ (List.Sublist.cons_cons _ (List.nil_sublist _)))) (fun x hx => by cases hx)))
           | fail)
          have hfin0 : ∀ w5 N0 R0, (movM sp rb rm cp E2 D2 I2 Mv2).Sublist N0 → St S w w5 (Rs.cur rc A2 :: N0) R0 → BalCPost S w rc Ks P sp rb rm cp (.returned (.tuple #[])) w5 := fun w5 N0 R0 hs h =>
           ⟨A2, E2, D2, I2, Mv2, rfl, hK2, hA2, (h.noR).sub (List.Sublist.cons_cons _ hs)⟩
          have hbB : ∀ x ∈ B2, x.2.2.length ≤ 1000000 := fun x hx => by
           have h1 := row_le hx
           have h2 := ((HCL.out.1).flatMap_right (·.2)).length_eq
           have h3 := HBq.out.2.2.2.2.2.1.length_eq
           have h4 := HBq.out.1.p1
           unfold allOf at h1 h3
           omega
          have hlB : B2.length ≤ 1000000 := by
           have h1 := HCL.out.1.length_eq
           have h2 := HBq.out.2.2.2.2.2.2.2.2.2.1
           simp only [asgT, List.length_map] at h1
           omega
          have hs1 := score_any rc A2 w4 ((hst6.ow).sub (List.Sublist.cons_cons _ (List.nil_sublist _)))
          have HFN := Zhd (Zan hfin0 (Zan hbB (Zan hlB (Zan HCL.out.2 hs1)))); clear hfin0 hK2 hA2 hI2 hN2 hst1 hst2 hst3 hst4 hst5 HPF HCL2 HDC hbB hlB HCL hs1
          have hskip : ∀ wX, St S w wX ([Rs.cur rc A2, Rs.cur rf []] ++ ((Rs.map rq isTp lq2 :: Rs.ids vi2 n L2 :: Rs.row 384 2 (.slice za ks zc) ks (zs.flatMap encTp) :: movM sp rb rm cp E2 D2 I2 Mv2) ++ [Rs.map r3 isTp l3, Rs.cur r2 B2])) [Rs.cur rp Pp, Rs.p2c rk B, Rs.row 384 2 (.slice ua ku uc) ku (us.flatMap encTp), Rs.map rv isTp []] → ∀ w5 F', F'.Perm [] → St (foots [Rs.cur rc A2, Rs.cur rf []]) wX w5 [Rs.cur rc (A2 ++ F')] [] → BalCPost S w rc Ks P sp rb rm cp (.returned (.tuple #[])) w5 := fun wX hX w5 F' hF' hst7 => by
           obtain rfl : F' = [] := by simpa using hF'
           have hst8 := St.call (M1 := [Rs.cur rc A2, Rs.cur rf []]) hX hst7
           rw [List.append_nil] at hst8
           exact HFN.out.1 w5 _ _ (List.Sublist.cons _ (List.Sublist.cons _ (List.Sublist.cons _ (List.sublist_append_left _ _)))) hst8
          have HSK := Zhd hskip; clear hskip
          cases b0
          · cases b2
            · go_upto_region 27 with fail
              go_wp2_with (first
               | (go_at_call 256
                  refine (HCP.out).mono ?_
                  rintro e w5 ⟨F', rfl, hF', hst7⟩)
               | fail)
              go_end0
              exact HSK.out w4 hst6 _ _ hF' hst7
            · have hs1 := HFN.out.2.2.2.2
              have HS1 := Zhd hs1; clear hs1
              go_upto_region 24 with (first
               | (go_at_call 254
                  first
                  | (refine (HS2.out).mono ?_
                     rintro e w6 ⟨n2, rfl, hk6⟩
                     have hst8 := hst7.kept0 hk6
                     have hcp6 := copy_rows rc rf A2 [] w6 ((hst8.ow).sub (List.Sublist.cons_cons _ (List.Sublist.cons_cons _ (List.nil_sublist _)))) (fun x hx => by cases hx)
                     have hdc6 := deep_copy r2 B2 w6 (Ow.one (hst8.m 11 rfl) (hst8.lt 11 rfl)) HFN.out.2.2.1 HFN.out.2.1 HFN.out.2.2.2.1
                     have H6 := Zhd (Zan hcp6 hdc6); clear hcp6 hdc6)
                  | (refine (HS1.out).mono ?_
                     rintro e w5 ⟨n1, rfl, hk5⟩
                     have hst7 := hst6.kept0 hk5
                     have hs2 := score_any r2 B2 w5 (Ow.one (hst7.m 11 rfl) (hst7.lt 11 rfl))
                     have HS2 := Zhd hs2; clear hs2))
               | fail)
              rotate_left
              · refine (H6.out.1).mono ?_
                rintro e w7 ⟨F', rfl, hF', hst9⟩
                go_wp2_with fail
                go_end0
                exact HSK.out w6 hst8 _ _ hF' hst9
              clear hst7 HS1 HS2
              go_wp2_with (first
               | (go_at_call 251
                  refine (H6.out.2).mono ?_
                  rintro e w7 ⟨r9, B9, rfl, _, _, hst9⟩
                  have hst10 := St.call (M1 := []) hst8 hst9)
               | (refine wl_clear 3 rfl rfl rfl Tryz.underlying387 hst10 rfl ?_
                  intro w8 hst11
                  simp only [List.nil_append, List.cons_append, Zs0, Zs1] at hst11
                  have hst12 := hst11.front 3 rfl
                  simp only [Ze0, Ze1] at hst12
                  have hcp := copy_cpc rq r3 [] l3 w8 ((hst12.ow).sub (by
                   refine List.Sublist.cons_cons _ ?_
                   refine List.Sublist.cons _ ?_
                   refine List.Sublist.cons _ ?_
                   refine List.Sublist.cons _ ?_
                   refine List.Sublist.cons _ ?_
                   refine List.Sublist.cons _ ?_
                   refine List.Sublist.cons _ ?_
                   refine List.Sublist.cons _ ?_
                   refine List.Sublist.cons _ ?_
                   refine List.Sublist.cons _ ?_
                   refine List.Sublist.cons _ ?_
                   exact List.Sublist.cons_cons _ (List.nil_sublist _)))
                  have HC8 := Zhd hcp; clear hcp)
               | (go_at_call 255
                  refine (HC8.out).mono ?_
                  rintro e w9 ⟨l9, rfl, hst13⟩
                  have hst14 := St.call1 hst12 hst13
                  simp only [List.nil_append, List.cons_append] at hst14
                  have hst15 := (hst14.front 3 rfl).front 2 rfl
                  simp only [Ze0, Ze1] at hst15
                  have hcp9 := copy_rows r9 rf B9 [] w9 ((hst15.ow).sub (List.Sublist.cons_cons _ (List.Sublist.cons_cons _ (List.nil_sublist _)))) (fun x hx => by cases hx)
                  have HC9 := Zhd hcp9; clear hcp9)
               | (go_at_call 256
                  refine (HC9.out).mono ?_
                  rintro e w10 ⟨F', rfl, hF', hst16⟩)
               | fail)
              go_end0
              have hst17 := St.call (M1 := [Rs.cur r9 B9, Rs.cur rf []]) hst15 hst16
              simp only [List.nil_append, List.cons_append] at hst17
              have hst18 := hst17.front 2 rfl
              simp only [Ze0, Ze1] at hst18
              exact HFN.out.1 _ _ _ (List.Sublist.cons _ (List.Sublist.cons _ (List.Sublist.cons _ (List.Sublist.cons _ (List.sublist_append_left _ [Rs.map r3 isTp l3, Rs.cur r2 B2]))))) hst18
          · cases b2
            · go_upto_region 27 with fail
              go_wp2_with (first
               | (go_at_call 256
                  refine (HCP.out).mono ?_
                  rintro e w5 ⟨F', rfl, hF', hst7⟩)
               | fail)
              go_end0
              exact HSK.out w4 hst6 _ _ hF' hst7
            · go_upto_region 27 with fail
              go_wp2_with (first
               | (go_at_call 256
                  refine (HCP.out).mono ?_
                  rintro e w5 ⟨F', rfl, hF', hst7⟩)
               | fail)
              go_end0
              exact HSK.out w4 hst6 _ _ hF' hst7
        · obtain ⟨wB, rfl⟩ : ∃ wB, wB = wr := ⟨_, rfl⟩
          have HI := Zhd hLf; clear hLf
          go_upto_region 16 with (first
           | (refine wl_nx1R 0 (cur_foot rp Pp) rfl rfl rfl hst rfl hlf HFIT2.out ?_
              intro k v l1 l2 w5 hsp hst2 hent
              simp only [Zs0, Zs1] at hst2
              obtain ⟨L1, x, L2, rfl, rfl, rfl, rfl, rfl⟩ := rawR_split hsp
              obtain ⟨m, pv, qs⟩ := x
              have hxP := HI.out (m, pv, qs) (by simp)
              have HSP := Zhd hsp; clear hsp)
           | (refine wl_entry rfl rfl rfl hent ?_)
           | fail)
          have hmA : m ∈ Aq.map (·.1) := by rw [HBq.out.2.2.2.2.1]; exact (HBq.out.2.2.2.2.2.2.2.2.2.2 _ hxP).1
          have hqs := (HBq.out.2.2.2.2.2.2.2.2.2.2 _ hxP).2
          obtain ⟨⟨m', va, ps⟩, hxA, hme⟩ := List.mem_map.1 hmA
          simp only at hme hqs
          subst hme
          obtain ⟨_, aa, ca, hva⟩ := cur_row (show RowsAt w5 isStr rc 384 2 (rowsT Aq) from hst2.m 1 rfl) hxA
          obtain ⟨_, ap, cp2, hvp⟩ := cur_row (show RowsAt w5 isStr rp 384 2 (rowsT Pp) from (hst2.r 0 rfl).1) hxP
          simp only at hva hvp
          subst hva hvp
          have hall : ∀ z ∈ ps, z ∈ B.map (·.1) := fun z hz => HBq.out.1.bk.mem_iff.2 (HBq.out.2.2.2.2.2.1.mem_iff.1 (List.mem_flatMap.2 ⟨(m', ps), List.mem_map.2 ⟨_, hxA, rfl⟩, hz⟩))
          have hql := hqs.length_eq
          have hp1 := HBq.out.1.p1
          have hpl : ps.length ≤ qs.length := by
           have h1 := row_le hxA
           have h2 := HBq.out.2.2.2.2.2.1.length_eq
           simp only at h1
           omega
          have hq0 : 0 < qs.length := by omega
          have hcan := can_member m' rc rp rk _ _ _ aa ap ps.length ca qs.length cp2 ps (decide (2 ≤ n)) w5
           (show RowsAt w5 isStr rc 384 2 (rowsT Aq) from hst2.m 1 rfl).map (show RowsAt w5 isStr rp 384 2 (rowsT Pp) from (hst2.r 0 rfl).1).map (show RowsAt w5 isTp rk 9 1 (rowsS B) from hst2.r 1 rfl).map
           (cur_in hxA) (cur_in hxP) (cur_sl (show RowsAt w5 isStr rc 384 2 (rowsT Aq) from hst2.m 1 rfl) hxA) rfl (by unfold maxLen; omega) hpl (fun z hz => by
             obtain ⟨⟨z', vz, nm⟩, hzm, hze⟩ := List.mem_map.1 (hall z hz)
             simp only at hze
             subst hze
             have hnm : nm.length = n := by rw [(HBq.out.1.bn _ hzm).length_eq]; exact HBq.out.1.kn
             obtain ⟨_, az, cz, hvz⟩ := p2c_row (show RowsAt w5 isTp rk 9 1 (rowsS B) from hst2.r 1 rfl) hzm
             simp only [hnm] at hvz
             subst hvz
             exact ⟨az, n, cz, p2c_in hzm, rfl⟩)
          have hval : (decide (ps.length < qs.length) || (decide (2 ≤ n) && decide (0 < ps.length))) = true := by
           by_cases h : ps.length < qs.length
           · simp [h]
           · have : 0 < ps.length := by omega
             simp [hn2, this]
          rw [hval] at hcan
          have HC := Zhd hcan; clear hcan
          go_wp2_with (first
           | (go_at_call 250
              refine (HC.out).mono ?_
              rintro e w6 ⟨rfl, hk6⟩)
           | fail)
          have e : rawR (rowsT L1) ++ rawR (rowsT L2) = rawR (rowsT (L1 ++ L2)) := by rw [rowsT_append, rawR_append]
          have hst3 := hst2.kept0 hk6
          simp only [e] at hst3
          refine ⟨⟨rfl, L1 ++ L2, fun y hy => HI.out y (by rcases Zap.1 hy with h | h <;> simp [h]), hst3⟩, ?_⟩
          have h1 : IterAt w6 it2 rp (rawR (rowsT Pp)) (rawR (rowsT (L1 ++ L2))) := (hst3.r 0 rfl).2.1
          have h2 : IterAt wB it2 rp (rawR (rowsT Pp)) _ := (hst.r 0 rfl).2.1
          rw [h1.leftOf, h2.leftOf, HSP.out, ← e]
          simp
     · obtain ⟨wB, rfl⟩ : ∃ wB, wB = wr := ⟨_, rfl⟩
       have HZ := Zhd hLf; clear hLf
       go_upto_region 10 with (first
        | (refine wl_nx1R 1 (cur_footS rk B) rfl rfl rfl hst rfl hlf HFIT.out ?_
           intro k v l1 l2 w2 hsp hst2 hent
           simp only [Zs0, Zs1] at hst2
           obtain ⟨L1, x, L2, rfl, rfl, rfl, rfl, rfl⟩ := rawS_split hsp
           obtain ⟨p, pv, nm⟩ := x
           have hxB := HZ.out (p, pv, nm) (by simp)
           obtain ⟨_, pa, pc, hpv⟩ := p2c_row (hst2.r 1 rfl).1 hxB
           have hnm : nm.length = n := by rw [(HBq.out.1.bn _ hxB).length_eq]; exact HBq.out.1.kn
           simp only at hpv
           rw [hnm] at hpv
           subst hpv
           have hpin := p2c_in hxB
           simp only at hpin
           have HSP := Zhd hsp; clear hsp hnm)
        | (refine wl_entry rfl rfl rfl hent ?_)
        | fail)
       have hcan := fun o => can_tp rk _ p pa n pc (w2.alloc o) (show RowsAt _ isTp rk 9 1 (rowsS B) from ((hst2.alloc o).r 1 rfl).1).map hpin
       have hdn : decide (2 ≤ n) = true := by simpa using hn2
       simp only [hdn] at hcan
       have HC := Zhd hcan; clear hcan
       go_wp2_with (first
        | (go_at_call 248
           refine (HC.out _).mono ?_
           rintro e w3 ⟨rfl, hk3⟩)
        | fail)
       have e : rawR (rowsS L1) ++ rawR (rowsS L2) = rawR (rowsS (L1 ++ L2)) := by rw [rowsS_append, rawR_append]
       have hst3 := (hst2.alloc (.cells #[.string p.1, .int .i32 p.2] 384)).kept0 hk3
       simp only [e] at hst3
       refine ⟨⟨rfl, L1 ++ L2, fun y hy => HZ.out y (by rcases Zap.1 hy with h | h <;> simp [h]), hst3⟩, ?_⟩
       have h1 : IterAt w3 it rk (rawR (rowsS B)) (rawR (rowsS (L1 ++ L2))) := (hst3.r 1 rfl).2.1
       have h2 : IterAt wB it rk (rawR (rowsS B)) _ := (hst.r 1 rfl).2.1
       rw [h1.leftOf, h2.leftOf, HSP.out, ← e]
       simp
end
end Go.Proofs.YticcnlpfmekagaaGreat
