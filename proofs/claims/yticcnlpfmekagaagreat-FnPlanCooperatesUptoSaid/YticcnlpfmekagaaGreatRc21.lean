/- Part 21 of the proof of the row: BalB. -/
import Derived.Test.YticcnlpfmekagaaGreatRc00
import Derived.Test.YticcnlpfmekagaaGreatRc14
set_option linter.unusedVariables false
set_option linter.unusedSimpArgs false
set_option maxRecDepth 100000
set_option maxHeartbeats 8000000
namespace Go.Proofs.YticcnlpfmekagaaGreat
section
open Go Go.Proofs Go.RowKit Go.Lib
open Classical
abbrev balM (rc rq ks : Nat) (vs : Value) (A : List Rw) (lq : List (Value × Value)) (zs : List TP) (vi : Value) (n : Nat) (L : List (ByteArray × Nat)) : List Res := [Rs.cur rc A, Rs.map rq isTp lq, Rs.ids vi n L, Rs.row 384 2 vs ks (zs.flatMap encTp)]
abbrev balR (rp rk ku : Nat) (vu : Value) (Pp : List Rw) (B : List Sw) (us : List TP) : List Res := [Rs.cur rp Pp, Rs.p2c rk B, Rs.row 384 2 vu ku (us.flatMap encTp)]
def BalPost (S : List Nat) (w : World) (rc rq : Nat) (A : List Rw) (us : List TP) (e : Ending) (w' : World) : Prop :=
 ∃ A' lq', e = .returned (.tuple #[]) ∧ Dealt (asgT A) us (asgT A') ∧ St S w w' [Rs.cur rc A', Rs.map rq isTp lq'] []
abbrev itS (rk : Nat) (B : List Sw) (lf : List (Value × Value)) (it : Nat) : Res := Rs.it (Rs.p2c rk B) rk (rawR (rowsS B)) lf it (cur_footS rk B)
def BInv2 (S : List Nat) (w : World) (n rc rq rk it : Nat) (A' : List Rw) (lq' : List (Value × Value)) (vi : Value) (L : List (ByteArray × Nat)) (B : List Sw) (Xp Xu : Res) (vz : Value) (wr : World) : Prop :=
 ∃ (Lf : List Sw) (zs : List TP) (kz : Nat), zs.length = kz ∧ kz ≤ 1000 ∧ (n = 1 → zs.Perm (Lf.map (·.1))) ∧ (∀ x ∈ Lf, x ∈ B) ∧
  St S w wr [Rs.cur rc A', Rs.map rq isTp lq', Rs.ids vi n L, Rs.row 384 2 vz kz (zs.flatMap encTp)] [Xp, itS rk B (rawR (rowsS Lf)) it, Xu]
abbrev itT (rp : Nat) (Pp : List Rw) (lf : List (Value × Value)) (it : Nat) : Res := Rs.it (Rs.cur rp Pp) rp (rawR (rowsT Pp)) lf it (cur_foot rp Pp)
def BInv3 (S : List Nat) (w : World) (n rc rq rf rp it kz : Nat) (A' : List Rw) (lq' : List (Value × Value)) (Pp : List Rw) (zs : List TP) (vz : Value) (Xk Xu : Res) (wr : World) : Prop :=
 ∃ (Lf Ac F : List Rw), (2 ≤ n → Ac = A' ∧ F = []) ∧ (n = 1 → (Lf.length = 1 ∧ Ac = A' ∧ F = []) ∨ (Lf = [] ∧ Ac = [] ∧ F = A')) ∧ (∀ x ∈ Lf, x ∈ Pp) ∧
  St S w wr [Rs.cur rf F, Rs.cur rc Ac, Rs.map rq isTp lq', Rs.row 384 2 vz kz (zs.flatMap encTp)] [itT rp Pp (rawR (rowsT Lf)) it, Xk, Xu]
theorem St.mapRows {S : List Nat} {w0 w : World} {M R : List Res} {V : Value → Prop} {r : Nat} (h : St S w0 w (Rs.map r V [] :: M) R) (E sz : Nat) : St S w0 w (Rs.rows V r E sz [] :: M) R :=
 h.weak 0 rfl (X' := Rs.rows V r E sz []) (fun h => ⟨h, by simp, by simp [footR]⟩) (by simp [Rs.rows, Rs.map, footR])
theorem row_inj : ∀ (L : List Rw), (L.map (·.1)).Nodup → ∀ a ∈ L, ∀ b ∈ L, a.1 = b.1 → a = b := by
 intro L
 induction L with
 | nil => intro _ a ha; cases ha
 | cons c L ih =>
   intro hn a ha b hb e
   simp only [List.map_cons, List.nodup_cons] at hn
   rcases Zmc.1 ha with h1 | h1
   · rcases Zmc.1 hb with h2 | h2
     · rw [h1, h2]
     · exact absurd (List.mem_map.2 ⟨b, h2, by rw [← e, h1]⟩) hn.1
   · rcases Zmc.1 hb with h2 | h2
     · exact absurd (List.mem_map.2 ⟨a, h1, by rw [e, h2]⟩) hn.1
     · exact ih hn.2 a h1 b h2 e
theorem perm_cancel {α : Type} {xs ys l1 l2 : List α} {p : α} (h : (xs ++ p :: ys).Perm (l1 ++ p :: l2)) : (xs ++ ys).Perm (l1 ++ l2) :=
 (List.perm_cons p).1 ((List.perm_middle.symm.trans h).trans List.perm_middle)
theorem balance_near (sp vr : Value) (n rc rq rp rk ks ku g0 c0 : Nat) (vs vu : Value) (A Pp : List Rw) (B : List Sw) (lq : List (Value × Value)) (us zs : List TP) (L : List (ByteArray × Nat)) (w : World)
 (how : Ow w (balM rc rq ks vs A lq zs (.slice (some ⟨g0, 0, none⟩) n c0) n L ++ balR rp rk ku vu Pp B us)) (hB : BalOk n A Pp B us zs) (hL : IdsOf A L) (hks : ks = zs.length) (hku : us.length = ku)
 (hnear : Near (A.map (·.2.2.length))) (hnil : Nils A) :
 Calls Tryz.prog 233 #[sp, .map (some rc), vr, vs, vu, .slice (some ⟨g0, 0, none⟩) n c0, .map (some rp), .map (some rk), .map (some rq)] w (BalPost (foots (balM rc rq ks vs A lq zs (.slice (some ⟨g0, 0, none⟩) n c0) n L)) w rc rq A us) := by
 have hst0 : St (foots (balM rc rq ks vs A lq zs (.slice (some ⟨g0, 0, none⟩) n c0) n L)) w w (balM rc rq ks vs A lq zs (.slice (some ⟨g0, 0, none⟩) n c0) n L) (balR rp rk ku vu Pp B us) := St.start how
 generalize foots (balM rc rq ks vs A lq zs (.slice (some ⟨g0, 0, none⟩) n c0) n L) = S at *
 obtain ⟨ua, uc, rfl, huc⟩ := own_cap (show w.ownsRow 0 384 2 vu ku (us.flatMap encTp) from hst0.r 2 rfl)
 clear huc
 have hn0 := hB.pos
 have hn1 := hB.small
 have hle := hB.le
 have hkl : us.length ≤ 1000 := by simp at hle; omega
 obtain ⟨m0, v0, p0, hm0, e0⟩ := hL.get (i := 0) (by rw [hL.len, hB.len]; omega)
 obtain ⟨_, a0, k0, hv0⟩ := cur_row (hst0.m 0 rfl) hm0
 simp only at hv0
 subst hv0
 have c0' : w.cell? ⟨g0, 0, none⟩ = some (.string m0) := by
  have := (own_cell (hst0.m 2 rfl) (names_get (L := L) (j := 0) (by rw [hL.len, hB.len]; omega))).1
  rw [e0] at this; exact this
 clear e0
 have hin0 := cur_in hm0
 simp only at hin0
 have hp0 : p0.length ≤ 1000 := by have := row_le hm0; simp at hle this; omega
 have hB0 : BInv S w n rc rq ks vs A us zs (balR rp rk ku (.slice ua ku uc) Pp B us) 0 (.slice (some ⟨g0, 0, none⟩) n c0) w := ⟨A, lq, g0, c0, L, rfl, hL, Dealt.refl _, hnil, hst0⟩
 have HB := Zhd hB; clear hB
 have HS := Zhd (Zan hB0 (Zan hnear (Zan hks hku))); clear hB0 hnear hks hnil hL how hm0
 have hn2 : (0 : Int) < (n : Int) := by omega
 have hn3 : ((n : Int) == 0) = false := by simp; omega
 have hl0 : (Instr.lookup 378 (.map (some rc)) (.string m0) false).run Tryz.prog w = .ok (.slice a0 p0.length k0) w := by
  simpa using map_lookup_hit (P := Tryz.prog) (show RowsAt w isStr rc 384 2 (rowsT A) from hst0.m 0 rfl).map (keyT_str Tryz.underlying9) Tryz.underlying378 hin0 false
 obtain ⟨b0, hb0⟩ : ∃ b0, ((p0.length : Int) == 0) = b0 := ⟨_, rfl⟩
 clear hst0 hin0
 go_enter Tryz.func233, Tryz.ntmps233
 go_wp2_with fail
 clear hl0 hb0 c0' hn3
 go_loopw [5, 41] (fun vi i wr => ∃ k : Nat, i = .int .i64 k ∧ k ≤ us.length ∧ BInv S w n rc rq ks vs A us zs (balR rp rk ku (.slice ua ku uc) Pp B us) k vi wr) (fun _ i _ => ku - (intOf i).toNat)
 case atStart => exact ⟨0, rfl, Nat.zero_le _, HS.out.1⟩
 case round =>
  obtain ⟨k, rfl, hk, A', lq', g, c, L', rfl, hL', hD, hN', hst⟩ := hrel
  have hlen' : A'.length = n := by
   have := congrArg List.length (dealt_keys hD)
   simpa [HB.out.len] using this
  by_cases hku : k < us.length
  · obtain ⟨x, hkx⟩ : ∃ x, us[k]? = some x := ⟨_, List.getElem?_eq_getElem hku⟩
    obtain ⟨g1, g2⟩ := tp_get hkx
    have hkl0 : 0 < ku := by have := HS.out.2.2.2; omega
    obtain ⟨gu, cu, eu⟩ := own_some (show wr.ownsRow 0 384 2 (.slice ua ku uc) ku (us.flatMap encTp) from hst.r 2 rfl) hkl0
    cases eu
    have d1 := (own_cell (hst.r 2 rfl) g1).1
    have d2 := (own_cell (hst.r 2 rfl) g2).1
    have hxB : x ∈ B.map (·.1) := HB.out.total.mem_iff.1 (by simp [List.mem_of_getElem? hkx])
    obtain ⟨⟨x', vx, nm⟩, hxm, hxe⟩ := List.mem_map.1 hxB
    simp only at hxe
    subst hxe
    have hnm := HB.out.full _ hxm
    simp only at hnm
    obtain ⟨_, ax, cx, hvx⟩ := p2c_row (hst.r 1 rfl) hxm
    simp only [hnm] at hvx
    subst hvx
    have hpin := p2c_in hxm
    simp only at hpin
    have hass := fun o => assign_any x' rc rp rq g n c A' Pp lq' L' (wr.alloc o) (((hst.alloc o).ow).sub (by
     refine List.Sublist.cons_cons _ (List.Sublist.cons_cons _ (List.Sublist.cons_cons _ (List.Sublist.cons _ (List.Sublist.cons_cons _ ?_))))
     exact List.nil_sublist _)) hL' hlen' hn0 (by omega) (fun y hy => by have := dealt_le hD hy; omega) (fun y hy => by
     have hk' : y.1 ∈ A.map (·.1) := by rw [← dealt_keys hD]; exact List.mem_map_of_mem hy
     obtain ⟨z, hz, hze⟩ := List.mem_map.1 hk'
     obtain ⟨v, qs, h1, h2⟩ := HB.out.P z hz
     refine ⟨v, qs, by rw [← hze]; exact h1, h2.mem_iff.2 hxB, ?_⟩
     have := h2.length_eq; have := HB.out.cap; simp at *; omega)
    have HA := Zhd hass; clear hass
    have HX := Zhd (Zan hkx (Zan hL' (Zan hD (Zan hN' hlen')))); clear hkx hL' hD hN' hlen' hxm hxB g1 g2
    have hki : (k : Int) < (ku : Int) := by have := HS.out.2.2.2; omega
    go_wp2_with (first
     | (refine wl_lk rfl rfl rfl rfl keyT_tp Tryz.underlying382 (show RowsAt _ isTp rk 9 1 (rowsS B) from (hst.alloc _).r 1 rfl).map hpin ?_)
     | (go_at_call 247
        refine (HA.out _).mono ?_
        rintro e w1 ⟨A1, m, v, ps, A2, v', g', c', L2, hA, hmin, rfl, hL2, hst1⟩)
     | fail)
    subst hA
    have hD2 : Dealt (asgT A) (us.take (k + 1)) (asgT (A1 ++ (m, v', ps ++ [x']) :: A2)) := by
     have h1 := HX.out.2.2.1
     rw [asgT_mid] at h1 ⊢
     rw [take_snoc HX.out.1]
     refine h1.step x' (fun r hr => ?_)
     have h2 : asgT A1 ++ (m, ps) :: asgT A2 = asgT (A1 ++ (m, v, ps) :: A2) := by rw [asgT_mid]
     simp only [h2] at hr
     obtain ⟨y, hy, rfl⟩ := List.mem_map.1 hr
     exact hmin y hy
    have hN2 : Nils (A1 ++ (m, v', ps ++ [x']) :: A2) := by
     intro y hy h0
     have h1 := HX.out.2.2.2.1
     rcases Zap.1 hy with hy | hy
     · exact h1 y (by simp [hy]) h0
     · rcases Zmc.1 hy with rfl | hy
       · simp at h0
       · exact h1 y (by simp [hy]) h0
    have hst2 := (St.call (M1 := [Rs.cur rc (A1 ++ (m, v, ps) :: A2), Rs.map rq isTp lq']) (hst.alloc (.cells #[.string x'.1, .int .i32 x'.2] 384)) hst1).drop 3
    have hst3 : St S w w1 [Rs.cur rc (A1 ++ (m, v', ps ++ [x']) :: A2), Rs.map rq isTp (putE lq' (tpV x') (.string m)), Rs.ids (.slice (some ⟨g', 0, none⟩) n c') n L2, Rs.row 384 2 vs ks (zs.flatMap encTp)] _ :=
     hst2.perm (by
      refine List.Perm.trans (List.Perm.swap ..) (List.Perm.cons _ (List.Perm.swap ..)))
    refine ⟨⟨k + 1, by go_num, by omega, ?_⟩, by simp [intOf]; omega⟩
    exact ⟨_, _, g', c', L2, rfl, hL2, hD2, hN2, hst3⟩
  · obtain rfl : k = us.length := by omega
    rw [List.take_of_length_le (Nat.le_refl _)] at hD
    have hnr : Near (A'.map (·.2.2.length)) := by
     have h1 := hD.near (by simpa [asgT, Function.comp_def] using HS.out.2.1)
     simpa [asgT, Function.comp_def] using h1
    have HX := Zhd (Zan hL' (Zan hD (Zan hN' (Zan hlen' hnr)))); clear hL' hD hN' hlen' hnr
    have hki : ¬ ((us.length : Int) < (ku : Int)) := by have := HS.out.2.2.2; omega
    have hks0 : zs.length ≤ 1000 := by have := HB.out.zs.length_eq; have := HB.out.cap; simp at *; omega
    go_wp2_with (first
     | (refine wl_rngR 1 rfl rfl rfl Tryz.underlying382 hst rfl (cur_footS rk B) (show RowsAt _ isTp rk 9 1 (rowsS B) from hst.r 1 rfl).map ?_
        intro it w2 hst2 hit)
     | fail)
    simp only [Zs0, Zs1] at hst2
    have hfit : w.heap.size ≤ it := by have := hst.size; omega
    have HFIT := Zhd hfit; clear hfit hit
    have h20 : BInv2 S w n rc rq rk it A' lq' (.slice (some ⟨g, 0, none⟩) n c) L' B (Rs.cur rp Pp) (Rs.row 384 2 (.slice ua ku uc) ku (us.flatMap encTp)) vs w2 :=
     ⟨B, zs, ks, HS.out.2.2.1.symm, by have := HS.out.2.2.1; omega, fun _ => HB.out.zs, fun x hx => hx, hst2⟩
    have H20 := Zhd h20; clear h20 hst2 hst hks0
    try go_frame
    go_loopw [3] (fun vz wr => BInv2 S w n rc rq rk it A' lq' (.slice (some ⟨g, 0, none⟩) n c) L' B (Rs.cur rp Pp) (Rs.row 384 2 (.slice ua ku uc) ku (us.flatMap encTp)) vz wr) (fun _ wr => leftOf wr it rk)
    case atStart => exact H20.out
    case round =>
     obtain ⟨Lf, zs', kz, hkz, hkz1, hz1, hLf, hst⟩ := hrel
     by_cases hlf : rawR (rowsS Lf) = []
     · have h0 := rawS_nil hlf
       subst h0
       have hit0 : IterAt wr it rk (rawR (rowsS B)) [] := (hst.r 1 rfl).2.1
       have hst1 := (hst.weakR 1 rfl (X' := Rs.p2c rk B) (fun h => h.1) (fun g hg => by simp [Rs.it, hg])).drop 2
       simp only [Zs0, Zs1, Ze1, Ze0] at hst1
       have hz0 : n = 1 → zs' = [] := fun h => by have := hz1 h; simpa using this
       have HZ := Zhd (Zan hkz hz0); clear hkz hz1 hz0 hLf hst
       go_wp2_with (first
        | (refine wl_nx0 rfl rfl rfl hit0 ?_)
        | (refine wl_mkmap (V := isStr) rfl rfl hst1 ?_
           intro rf w3 hst3 hrf
           have hst4 := hst3.mapRows 384 2)
        | (refine wl_rngR 0 rfl rfl rfl Tryz.underlying378 hst4 rfl (cur_foot rp Pp) (show RowsAt _ isStr rp 384 2 (rowsT Pp) from hst4.r 0 rfl).map ?_
           intro it2 w4 hst5 hit2)
        | fail)
       simp only [Zs0, Zs1] at hst5
       have hfit2 : w.heap.size ≤ it2 := by have := hst4.size; omega
       have HFIT2 := Zhd hfit2; clear hfit2 hit2 hst4 hst3 hst1 hrf hit0
       have hPl : Pp.length = n := by have := HB.out.Pk.length_eq; simp at this; have := HB.out.len; omega
       have h30 : BInv3 S w n rc rq rf rp it2 kz A' lq' Pp zs' u3 (Rs.p2c rk B) (Rs.row 384 2 (.slice ua ku uc) ku (us.flatMap encTp)) w4 :=
        ⟨Pp, A', [], fun _ => ⟨rfl, rfl⟩, fun h => .inl ⟨by omega, rfl, rfl⟩, fun x hx => hx, hst5⟩
       have H30 := Zhd h30; clear h30 hst5 hPl
       try go_frame
       go_loopw [23] (fun _ wr => BInv3 S w n rc rq rf rp it2 kz A' lq' Pp zs' u3 (Rs.p2c rk B) (Rs.row 384 2 (.slice ua ku uc) ku (us.flatMap encTp)) wr) (fun _ wr => leftOf wr it2 rp)
       case atStart => exact H30.out
       case round =>
        obtain ⟨Lf, Ac, F, h2, h1, hLf, hst⟩ := hrel
        have HI := Zhd (Zan h2 (Zan h1 hLf)); clear h2 h1 hLf
        by_cases hlf : rawR (rowsT Lf) = []
        · have h0 := rawR_nil hlf
          subst h0
          have hit0 : IterAt wr it2 rp (rawR (rowsT Pp)) [] := (hst.r 0 rfl).2.1
          have hAF : (2 ≤ n ∧ Ac = A' ∧ F = []) ∨ (n = 1 ∧ Ac = [] ∧ F = A') := by
           by_cases hn : 2 ≤ n
           · exact .inl ⟨hn, HI.out.1 hn⟩
           · have h1 : n = 1 := by omega
             rcases HI.out.2.1 h1 with ⟨h, _⟩ | ⟨_, h⟩
             · simp at h
             · exact .inr ⟨h1, h⟩
          have hAl : Ac.length ≤ 1000 ∧ (∀ x ∈ Ac, x ∈ A') := by
           rcases hAF with ⟨_, rfl, _⟩ | ⟨_, rfl, _⟩
           · exact ⟨by have := HX.out.2.2.2.1; omega, fun x hx => hx⟩
           · exact ⟨by simp, by simp⟩
          have hNA : Nils Ac := fun x hx => HX.out.2.2.1 x (hAl.2 x hx)
          have hbA : ∀ x ∈ Ac, x.2.2.length ≤ 1000000 := fun x hx => by
           have h1 := dealt_le (k := us.length) (by rw [List.take_of_length_le (Nat.le_refl _)]; exact HX.out.2.1) (hAl.2 x hx)
           have := HB.out.le; omega
          have hst1 := hst.dropR 0
          simp only [Ze0] at hst1
          have hdc := fun w' (k' : Kept [] wr w') => deep_copy rc Ac w' ((Ow.one (hst.m 1 rfl) (hst.lt 1 rfl)).kept k' (by simp)) (by omega) hbA hNA
          have HDC := Zhd hdc; clear hdc
          obtain ⟨za, zc, rfl, _⟩ := own_cap (show wr.ownsRow 0 384 2 u3 kz (zs'.flatMap encTp) from hst.m 3 rfl)
          have hre := fun w' (k' : Kept [] wr w') => reassign_none sp za kz zc rc vr u5 (.map (some rp)) (.map (some rk)) (.map (some rq)) zs' w'
           ((own_sl (show wr.ownsRow 0 384 2 (.slice za kz zc) kz (zs'.flatMap encTp) from hst.m 3 rfl) (encs_one _)).kept k' (by simp)) HZ.out.1 (by omega) (fun h0 w'' k'' => by
             rcases hAF with ⟨h2, rfl, _⟩ | ⟨h1, _, _⟩
             · exact balanced_yes rc n (.map (some rp)) Ac w'' ((show RowsAt wr isStr rc 384 2 (rowsT Ac) from hst.m 1 rfl).kept (k'.trans k'' (U := []) (by simp) (by simp)) (by simp)) HX.out.2.2.2.1 hn0 (by omega) hbA HX.out.2.2.2.2
             · have := HZ.out.2 h1
               have h3 := HZ.out.1
               rw [this] at h3; simp at h3; omega)
          have HRE := Zhd hre; clear hre
          have hco := fun w' (hs : St S w w' [Rs.cur rf F, Rs.cur rc Ac, Rs.map rq isTp lq', Rs.row 384 2 (.slice za kz zc) kz (zs'.flatMap encTp)] [Rs.p2c rk B, Rs.row 384 2 (.slice ua ku uc) ku (us.flatMap encTp)]) =>
           copy_rows rc rf Ac F w' ((hs.ow).perm (List.Perm.swap ..) |>.sub (List.Sublist.cons_cons _ (List.Sublist.cons_cons _ (List.nil_sublist _)))) (fun x hx => by
            rcases hAF with ⟨_, _, rfl⟩ | ⟨_, rfl, _⟩
            · cases hx
            · simp)
          have HCO := Zhd hco; clear hco
          have HA2 := Zhd (Zan hAF (Zan hAl hbA)); clear hAF hAl hNA hbA
          go_wp2_with (first
           | (refine wl_nx0 rfl rfl rfl hit0 ?_)
           | (go_at_call 251
              refine (HDC.out _ (Kept.refl _ _)).mono ?_
              rintro e w2 ⟨r2, B2, rfl, _, _, hst2⟩
              have hst3 := hst1.kept0 hst2.kept
              have hcl := clone_cpc rq lq' w2 (hst3.m 2 rfl)
              have HCL := Zhd hcl; clear hcl)
           | (go_at_call 252
              refine (HCL.out).mono ?_
              rintro e w3 ⟨r3, l3, rfl, _, hst4⟩
              have hst5 := hst3.kept0 hst4.kept
              have HRA := Zhd (HRE.out w3 (hst2.kept.trans hst4.kept (by simp) (by simp))))
           | (go_at_call 253
              refine (HRA.out).mono ?_
              rintro e w4 ⟨rfl, hk4⟩
              have hst6 := hst5.kept0 hk4
              have HCP := Zhd (HCO.out w4 hst6))
           | (go_at_call 256
              refine (HCP.out).mono ?_
              rintro e w5 ⟨F', rfl, hF', hst7⟩)
           | fail)
          all_goals
           have hst8 := St.call (M1 := [Rs.cur rc Ac, Rs.cur rf F]) (hst6.perm (M' := [Rs.cur rc Ac, Rs.cur rf F, Rs.map rq isTp lq', Rs.row 384 2 (.slice za kz zc) kz (zs'.flatMap encTp)]) (List.Perm.swap ..)) hst7
           have hfin : BalPost S w rc rq A us (.returned (.tuple #[])) w5 := by
            rcases HA2.out.1 with ⟨_, rfl, rfl⟩ | ⟨h1, rfl, rfl⟩
            · have h0 : F' = [] := by simpa using hF'
              subst h0
              refine ⟨Ac, lq', rfl, HX.out.2.1, ?_⟩
              have := (hst8.drop 2).noR
              simpa using this
            · have hl1 : F.length = 1 := by rw [HX.out.2.2.2.1]; exact h1
              obtain ⟨x, hx⟩ := List.length_eq_one_iff.1 hl1
              have h0 : F' = F := by rw [hx] at hF' ⊢; exact List.perm_singleton.1 hF'
              subst h0
              refine ⟨F', lq', rfl, HX.out.2.1, ?_⟩
              have := (hst8.drop 2).noR
              simpa using this
           go_end0
           exact hfin
        · obtain ⟨wB, rfl⟩ : ∃ wB, wB = wr := ⟨_, rfl⟩
          go_upto_region 16 with (first
           | (refine wl_nx1R 0 (cur_foot rp Pp) rfl rfl rfl hst rfl hlf HFIT2.out ?_
              intro k v l1 l2 w5 hsp hst2 hent
              simp only [Zs0, Zs1] at hst2
              obtain ⟨L1, x, L2, rfl, rfl, rfl, rfl, rfl⟩ := rawR_split hsp
              obtain ⟨m, pv, qs⟩ := x
              have hxP := HI.out.2.2 (m, pv, qs) (by simp)
              have HSP := Zhd hsp; clear hsp)
           | (refine wl_entry rfl rfl rfl hent ?_)
           | fail)
          have hmA : m ∈ A'.map (·.1) := by rw [dealt_keys HX.out.2.1]; exact HB.out.Pk.mem_iff.1 (List.mem_map.2 ⟨_, hxP, rfl⟩)
          have hAc : Ac = A' ∧ F = [] := by
           by_cases hn : 2 ≤ n
           · exact HI.out.1 hn
           · rcases HI.out.2.1 (by omega) with ⟨_, h⟩ | ⟨h, _⟩
             · exact h
             · simp at h
          obtain ⟨rfl, rfl⟩ := hAc
          obtain ⟨⟨m', va, ps⟩, hxA, hme⟩ := List.mem_map.1 hmA
          simp only at hme
          subst hme
          obtain ⟨_, aa, ca, hva⟩ := cur_row (show RowsAt w5 isStr rc 384 2 (rowsT Ac) from hst2.m 1 rfl) hxA
          obtain ⟨_, ap, cp, hvp⟩ := cur_row (show RowsAt w5 isStr rp 384 2 (rowsT Pp) from (hst2.r 0 rfl).1) hxP
          simp only at hva hvp
          subst hva hvp
          have hall : ∀ z ∈ ps, z ∈ B.map (·.1) := fun z hz => HB.out.total.mem_iff.1 (HX.out.2.1.perm.mem_iff.1 (List.mem_flatMap.2 ⟨(m', ps), List.mem_map.2 ⟨_, hxA, rfl⟩, hz⟩))
          have hqs : qs.Perm (B.map (·.1)) := by
           have hmA0 : m' ∈ A.map (·.1) := by rw [← dealt_keys HX.out.2.1]; exact hmA
           obtain ⟨y, hy, hye⟩ := List.mem_map.1 hmA0
           obtain ⟨v, qs', h1, h2⟩ := HB.out.P y hy
           rw [hye] at h1
           have hk := cur_keys (show RowsAt w5 isStr rp 384 2 (rowsT Pp) from (hst2.r 0 rfl).1)
           have : (m', Value.slice ap qs.length cp, qs) = (m', v, qs') := by
            exact row_inj Pp hk _ hxP _ h1 rfl
           cases this
           exact h2
          have hpl : ps.length ≤ qs.length := by
           have h1 := HX.out.2.1.perm.length_eq
           have h2 := HB.out.total.length_eq
           have h3 := hqs.length_eq
           have h4 := row_le hxA
           simp only at h4
           unfold allOf at h2 h4
           simp only [List.length_append] at h1 h2
           omega
          have hqb : qs.length ≤ 1000 ∧ 0 < qs.length := by
           have h3 := hqs.length_eq; have := HB.out.cap; have := HB.out.nonempty; simp at h3; omega
          have hcan := can_member m' rc rp rk _ _ _ aa ap ps.length ca qs.length cp ps (decide (2 ≤ n)) w5
           (show RowsAt w5 isStr rc 384 2 (rowsT Ac) from hst2.m 1 rfl).map (show RowsAt w5 isStr rp 384 2 (rowsT Pp) from (hst2.r 0 rfl).1).map (show RowsAt w5 isTp rk 9 1 (rowsS B) from hst2.r 1 rfl).map
           (cur_in hxA) (cur_in hxP) (cur_sl (show RowsAt w5 isStr rc 384 2 (rowsT Ac) from hst2.m 1 rfl) hxA) rfl (by unfold maxLen; omega) hpl (fun z hz => by
             obtain ⟨⟨z', vz, nm⟩, hzm, hze⟩ := List.mem_map.1 (hall z hz)
             simp only at hze
             subst hze
             have hnm := HB.out.full _ hzm
             simp only at hnm
             obtain ⟨_, az, cz, hvz⟩ := p2c_row (show RowsAt w5 isTp rk 9 1 (rowsS B) from hst2.r 1 rfl) hzm
             simp only [hnm] at hvz
             subst hvz
             exact ⟨az, n, cz, p2c_in hzm, rfl⟩)
          have HC := Zhd hcan; clear hcan
          by_cases hn : 2 ≤ n
          · have hval : (decide (ps.length < qs.length) || (decide (2 ≤ n) && decide (0 < ps.length))) = true := by
             by_cases h : ps.length < qs.length
             · simp [h]
             · have : 0 < ps.length := by omega
               simp [hn, this]
            rw [hval] at HC
            go_wp2_with (first
             | (go_at_call 250
                refine (HC.out).mono ?_
                rintro e w6 ⟨rfl, hk6⟩)
             | fail)
            have e : rawR (rowsT L1) ++ rawR (rowsT L2) = rawR (rowsT (L1 ++ L2)) := by rw [rowsT_append, rawR_append]
            have hst3 := hst2.kept0 hk6
            simp only [e] at hst3
            have hend : BInv3 S w n rc rq rf rp it2 kz Ac lq' Pp zs' u3 (Rs.p2c rk B) (Rs.row 384 2 (.slice ua ku uc) ku (us.flatMap encTp)) w6 ∧ leftOf w6 it2 rp < leftOf wB it2 rp := by
             refine ⟨⟨L1 ++ L2, Ac, [], fun _ => ⟨rfl, rfl⟩, fun h => by omega, fun y hy => HI.out.2.2 y (by rcases Zap.1 hy with h | h <;> simp [h]), hst3⟩, ?_⟩
             have h1 : IterAt w6 it2 rp (rawR (rowsT Pp)) (rawR (rowsT (L1 ++ L2))) := (hst3.r 0 rfl).2.1
             have h2 : IterAt wB it2 rp (rawR (rowsT Pp)) _ := (hst.r 0 rfl).2.1
             rw [h1.leftOf, h2.leftOf, HSP.out, ← e]
             simp
            exact hend
          · have hL12 : L1 ++ L2 = [] := by
             rcases HI.out.2.1 (by omega) with ⟨h, _⟩ | ⟨h, _⟩
             · simp only [List.length_append, List.length_cons] at h
               exact List.eq_nil_of_length_eq_zero (by rw [List.length_append]; omega)
             · simp at h
            have HL12 := Zhd hL12; clear hL12
            obtain rfl : n = 1 := by omega
            obtain ⟨x0, rfl⟩ : ∃ x0, Ac = [x0] := List.length_eq_one_iff.1 HX.out.2.2.2.1
            obtain rfl : (m', Value.slice aa ps.length ca, ps) = x0 := by simpa using hxA
            have hval : (decide (ps.length < qs.length) || (decide (2 ≤ 1) && decide (0 < ps.length))) = false := by
             have h1 := HX.out.2.1.perm.length_eq
             have h2 := HB.out.total.length_eq
             have h3 := hqs.length_eq
             unfold allOf at h2
             simp [asgT] at h1 h2 h3
             simp; omega
            rw [hval] at HC
            go_upto_region 17 with (first
             | (go_at_call 250
                refine (HC.out).mono ?_
                rintro e w6 ⟨rfl, hk6⟩)
             | fail)
            have hst3 := ((hst2.kept0 hk6).front 1 rfl).unrow
            simp only [Ze1, Ze0] at hst3
            have hst4 := hst3.perm (M' := [Rs.rw 384 2 (rowT (m', .slice aa ps.length ca, ps)), Rs.map rc isStr (rawR (rowsT [(m', .slice aa ps.length ca, ps)])), Rs.cur rf [], Rs.map rq isTp lq', Rs.row 384 2 u3 kz (zs'.flatMap encTp)]) (List.Perm.swap ..)
            obtain ⟨nn, hst5⟩ := hst4.rwOut
            have hraw : rawR (rowsT [(m', Value.slice aa ps.length ca, ps)]) = [(.string m', .slice aa ps.length ca)] := rfl
            rw [hraw] at hst5
            have hde : delE [((.string m' : Value), Value.slice aa ps.length ca)] (.string m') = [] := by simp [delE]
            clear hst3 hst4
            go_wp2_with (first
             | (refine wl_lk rfl rfl rfl rfl (keyT_str Tryz.underlying9) Tryz.underlying378 (show MapAt _ isStr rc _ from hst5.m 1 rfl) (vv := .slice aa ps.length ca) (List.mem_singleton.2 rfl) ?_)
             | (refine wl_rownew 1 rfl rfl rfl (kv := .string m') (v := .slice aa ps.length ca) rfl rfl (keyT_str Tryz.underlying9) Tryz.underlying378 ⟨_, rfl⟩ hst5 rfl (by simp [rowsT]) ?_
                intro w7 hst6
                simp only [Zs0, Zs1] at hst6)
             | (refine wl_del 0 rfl rfl rfl (kv := .string m') rfl (keyT_str Tryz.underlying9) Tryz.underlying378 hst6 rfl ⟨_, rfl⟩ ?_
                intro w8 hst7
                simp only [Zs0, hde] at hst7
                have hsi := sort_ids rc [] w8 (hst7.m 0 rfl) (by simp) (by simp)
                have HSI := Zhd hsi; clear hsi)
             | (go_at_call 232
                refine (HSI.out).mono ?_
                rintro e w9 ⟨g9, c9, L9, rfl, _, _, hst9⟩)
             | fail)
            have hst8 := (hst7.kept0 hst9.kept).mapRows 384 2
            have e : rawR (rowsT L1) ++ rawR (rowsT L2) = rawR (rowsT (L1 ++ L2)) := by rw [rowsT_append, rawR_append]
            simp only [e] at hst8
            have hst10 : St S w w9 [Rs.cur rf [(m', .slice aa ps.length ca, ps)], Rs.cur rc [], Rs.map rq isTp lq', Rs.row 384 2 u3 kz (zs'.flatMap encTp)] [itT rp Pp (rawR (rowsT (L1 ++ L2))) it2, Rs.p2c rk B, Rs.row 384 2 (.slice ua ku uc) ku (us.flatMap encTp)] := hst8.perm (List.Perm.swap ..)
            have hend : BInv3 S w 1 rc rq rf rp it2 kz [(m', .slice aa ps.length ca, ps)] lq' Pp zs' u3 (Rs.p2c rk B) (Rs.row 384 2 (.slice ua ku uc) ku (us.flatMap encTp)) w9 ∧ leftOf w9 it2 rp < leftOf wB it2 rp := by
             refine ⟨⟨L1 ++ L2, [], [(m', .slice aa ps.length ca, ps)], fun h => by omega, fun _ => .inr ⟨HL12.out, rfl, rfl⟩, (fun y hy => by rw [HL12.out] at hy; cases hy), hst10⟩, ?_⟩
             have h1 : IterAt w9 it2 rp (rawR (rowsT Pp)) (rawR (rowsT (L1 ++ L2))) := (hst10.r 0 rfl).2.1
             have h2 : IterAt wB it2 rp (rawR (rowsT Pp)) _ := (hst.r 0 rfl).2.1
             rw [h1.leftOf, h2.leftOf, HSP.out, ← e]
             simp
            refine ⟨?_, hend.2⟩
            (repeat apply Exists.intro)
            exact ⟨hend.1, rfl⟩
     · obtain ⟨wB, rfl⟩ : ∃ wB, wB = wr := ⟨_, rfl⟩
       have HZ := Zhd (Zan hkz (Zan hz1 hLf)); clear hkz hz1 hLf
       go_upto_region 10 with (first
        | (refine wl_nx1R 1 (cur_footS rk B) rfl rfl rfl hst rfl hlf HFIT.out ?_
           intro k v l1 l2 w2 hsp hst2 hent
           simp only [Zs0, Zs1] at hst2
           obtain ⟨L1, x, L2, rfl, rfl, rfl, rfl, rfl⟩ := rawS_split hsp
           obtain ⟨p, pv, nm⟩ := x
           have hxB := HZ.out.2.2 (p, pv, nm) (by simp)
           obtain ⟨_, pa, pc, hpv⟩ := p2c_row (hst2.r 1 rfl).1 hxB
           have hnm := HB.out.full _ hxB
           simp only at hpv hnm
           rw [hnm] at hpv
           subst hpv
           have hpin := p2c_in hxB
           simp only at hpin
           have HSP := Zhd hsp; clear hsp hnm)
        | (refine wl_entry rfl rfl rfl hent ?_)
        | fail)
       have hcan := fun o => can_tp rk _ p pa n pc (w2.alloc o) (show RowsAt _ isTp rk 9 1 (rowsS B) from ((hst2.alloc o).r 1 rfl).1).map hpin
       have HC := Zhd hcan; clear hcan
       by_cases hn : 2 ≤ n
       · have hdn : decide (2 ≤ n) = true := by simpa using hn
         simp only [hdn] at HC
         go_wp2_with (first
          | (go_at_call 248
             refine (HC.out _).mono ?_
             rintro e w3 ⟨rfl, hk3⟩)
          | fail)
         have e : rawR (rowsS L1) ++ rawR (rowsS L2) = rawR (rowsS (L1 ++ L2)) := by rw [rowsS_append, rawR_append]
         have hst3 := (hst2.alloc (.cells #[.string p.1, .int .i32 p.2] 384)).kept0 hk3
         simp only [e] at hst3
         have hend : BInv2 S w n rc rq rk it A' lq' (.slice (some ⟨g, 0, none⟩) n c) L' B (Rs.cur rp Pp) (Rs.row 384 2 (.slice ua ku uc) ku (us.flatMap encTp)) u3 w3 ∧ leftOf w3 it rk < leftOf wB it rk := by
          refine ⟨⟨L1 ++ L2, zs', kz, HZ.out.1, by omega, fun h => by omega, fun y hy => HZ.out.2.2 y (by rcases Zap.1 hy with h | h <;> simp [h]), hst3⟩, ?_⟩
          have h1 : IterAt w3 it rk (rawR (rowsS B)) (rawR (rowsS (L1 ++ L2))) := (hst3.r 1 rfl).2.1
          have h2 : IterAt wB it rk (rawR (rowsS B)) _ := (hst.r 1 rfl).2.1
          rw [h1.leftOf, h2.leftOf, HSP.out, ← e]
          simp
         exact hend
       · have hdn : decide (2 ≤ n) = false := by simpa using hn
         simp only [hdn] at HC
         obtain rfl : n = 1 := by omega
         have hzp := HZ.out.2.1 rfl
         have hpz : p ∈ zs' := hzp.mem_iff.2 (by simp)
         obtain ⟨xs, ys, rfl, hpx⟩ := List.eq_append_cons_of_mem hpz
         have hkz0 : 0 < kz := by have := HZ.out.1; simp at this; omega
         obtain ⟨gz, cz, ez⟩ := own_some (show w2.ownsRow 0 384 2 u3 kz _ from hst2.m 3 rfl) hkz0
         subst ez
         have hcz := perm_cancel (by simpa using hzp)
         have hkz2 := HZ.out.1
         have HZ2 := Zhd (Zan hcz hkz2); clear hzp hpz hcz hkz2
         have hrm := fun w' (k' : Kept [] w2 w') => remove_in p gz kz cz xs ys w' ((Ow.one (hst2.m 3 rfl) (hst2.lt 3 rfl)).kept k' (by simp)) HZ2.out.2 (by omega) hpx
         have HRM := Zhd hrm; clear hrm
         have hbx := fun w' (k' : Kept [] (w2.alloc (.cells #[.string p.1, .int .i32 p.2] 384)) w') => ((hst2.blk (.cells #[.string p.1, .int .i32 p.2] 384)).kept0 k').cell2 0 rfl
         have HBX := Zhd hbx; clear hbx
         go_upto_region 11 with (first
          | (go_at_call 248
             refine (HC.out _).mono ?_
             rintro e w3 ⟨rfl, hk3⟩)
          | fail)
         have cb := HBX.out w3 hk3
         have hk23 : Kept [] w2 w3 := ((Kept.refl [] w2).alloc _).trans hk3 (by simp) (by simp)
         have hst3 := hst2.kept0 hk23
         have hst3' := hst3.front 3 rfl
         simp only [Ze1, Ze0] at hst3'
         go_wp2_with fail
         refine (HRM.out w3 hk23).mono ?_
         rintro e w4 ⟨v4, rfl, hst4⟩
         have hst5 := St.call1 hst3' hst4
         have e2 : rawR (rowsS L1) ++ rawR (rowsS L2) = rawR (rowsS (L1 ++ L2)) := by rw [rowsS_append, rawR_append]
         simp only [e2] at hst5
         have hst6 := hst5.perm (M' := [Rs.cur rc A', Rs.map rq isTp lq', Rs.ids (.slice (some ⟨g, 0, none⟩) 1 c) 1 L', Rs.row 384 2 v4 (kz - 1) ((xs ++ ys).flatMap encTp)]) (List.perm_append_comm (l₁ := [Rs.row 384 2 v4 (kz - 1) ((xs ++ ys).flatMap encTp)]))
         have hend : BInv2 S w 1 rc rq rk it A' lq' (.slice (some ⟨g, 0, none⟩) 1 c) L' B (Rs.cur rp Pp) (Rs.row 384 2 (.slice ua ku uc) ku (us.flatMap encTp)) v4 w4 ∧ leftOf w4 it rk < leftOf wB it rk := by
          refine ⟨⟨L1 ++ L2, xs ++ ys, kz - 1, by have := HZ2.out.2; simp at this ⊢; omega, by omega, fun _ => by rw [List.map_append]; exact HZ2.out.1, fun y hy => HZ.out.2.2 y (by rcases Zap.1 hy with h | h <;> simp [h]), hst6⟩, ?_⟩
          have h1 : IterAt w4 it rk (rawR (rowsS B)) (rawR (rowsS (L1 ++ L2))) := (hst6.r 1 rfl).2.1
          have h2 : IterAt wB it rk (rawR (rowsS B)) _ := (hst.r 1 rfl).2.1
          rw [h1.leftOf, h2.leftOf, HSP.out, ← e2]
          simp
         have HE := Zhd hend; clear hend hst5 hst6 hst4 hst3 hst3'
         go_wp2_with fail
         refine ⟨?_, HE.out.2⟩
         (repeat apply Exists.intro)
         exact ⟨HE.out.1, rfl⟩
end
end Go.Proofs.YticcnlpfmekagaaGreat
