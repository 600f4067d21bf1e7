import Derived.Test.YticcnlpfmekagaaGreatShRead0
import Derived.Deep.RegionLaw
namespace Go.Proofs.YticcnlpfmekagaaGreat
open Go Go.Proofs Go.RowKit
set_option linter.unusedVariables false
set_option linter.unusedSimpArgs false

/-! ## SharesRead -/

set_option maxRecDepth 100000 in
set_option maxHeartbeats 3000000 in
theorem sharesRead_closure (b g off cap : Nat) (ver : Int) (D : List (ByteArray × List Int)) (data : List Value) (w : World) (hc0 : w.cell? ⟨b, 0, none⟩ = some (.slice (some ⟨g, off, none⟩) (asgBytes ver D data).length cap))
    (hcs : w.cell? ⟨b + 1, 0, none⟩ = some (.int .i16 0) ∧ w.cell? ⟨b + 2, 0, none⟩ = some (.slice none 0 0) ∧ w.cell? ⟨b + 3, 0, none⟩ = some (.slice none 0 0) ∧ w.cell? ⟨b + 4, 0, none⟩ = some (.bool false))
    (hfz : ∀ j, 1 ≤ j → j ≤ 4 → w.frozen? ⟨b + j, 0, none⟩ = false) (hlt : b + 4 < w.heap.size)
    (hsl : SlAt w 1 (.slice (some ⟨g, off, none⟩) (asgBytes ver D data).length cap) (asgBytes ver D data).length (asgBytes ver D data)) (hsm : (asgBytes ver D data).length ≤ 1000000)
    (hver : isI16 ver) (hnd : (D.map (·.1)).Nodup) (hD : ∀ x ∈ D, TPOk x) (hDl : D.length ≤ 12) (hdl : data.length ≤ 1000000) (hu : U8L data) :
    Calls Tryz.prog 63 #[.pointer (some ⟨b, 0, none⟩), .pointer (some ⟨b + 1, 0, none⟩), .pointer (some ⟨b + 3, 0, none⟩), .pointer (some ⟨b + 4, 0, none⟩), .pointer (some ⟨b + 2, 0, none⟩)] w fun e w' =>
      e = .returned (.tuple #[]) ∧ SRes w.heap.size b ver D data w' ∧ Kept [b + 1, b + 2, b + 3, b + 4] w w' := by
  have hn1 : 1 ≤ (asgBytes ver D data).length := by simp [asgBytes, be16]
  have hcp := copied_any (some ⟨g, off, none⟩) cap (asgBytes ver D data) w hsl hn1 (by omega)
  have HCP := Lib.hid hcp; clear hcp hsl hn1
  have HD := Lib.hid hD; clear hD
  have HU := Lib.hid hu; clear hu
  have HND := Lib.hid hnd; clear hnd
  have HCS := Lib.hid (And.intro hcs hfz); clear hcs hfz
  generalize hcsq : asgBytes ver D data = cs at *
  have HCSQ := Lib.hid hcsq; clear hcsq
  generalize hN : cs.length = N at *
  have HN := Lib.hid hN; clear hN
  go_enter Tryz.func63, Tryz.ntmps63
  go_upto_region 3 with (first
    | (go_at_call 58
       refine HCP.out.mono ?_
       rintro e w1 ⟨g1, c1, rfl, hnc, hsl1, hg1, hg1l, hk1⟩
       have HSL1 := Lib.hid (And.intro hnc (And.intro hsl1 (And.intro hg1 (And.intro hg1l hk1)))); clear hnc hsl1 hg1 hg1l)
    | (go_at_call 64
       obtain ⟨hnc, hsl1, hg1, hg1l, _⟩ := HSL1.out
       have hka : Kept [] w1 (w1.alloc (.cells #[.int .i16 0, .string ⟨#[]⟩, .pointer none, .string ⟨#[]⟩, .string ⟨#[]⟩, .slice none 0 0, .slice (some ⟨g1, 0, none⟩) N c1] 115)) := (Kept.refl _ _).alloc _
       have hq := getAsg_any w1.heap.size g1 0 c1 ver D data (w1.alloc (.cells #[.int .i16 0, .string ⟨#[]⟩, .pointer none, .string ⟨#[]⟩, .string ⟨#[]⟩, .slice none 0 0, .slice (some ⟨g1, 0, none⟩) N c1] 115))
         (by rw [HCSQ.out, HN.out]; exact (cells_of (heap_alloc_new w1 _)).1 6 _ rfl) (by rw [HCSQ.out, HN.out]; exact hsl1.kept hka (by simp)) (by simp; omega) (by rw [HCSQ.out, HN.out]; exact hnc) (by rw [HCSQ.out, HN.out]; omega) hver HND.out HD.out (by omega) hdl HU.out
       refine hq.mono ?_
       rintro e w2 ⟨rfl, has, hk2⟩
       have HA2 := Lib.hid (And.intro has (hka.trans hk2 (U := []) (by simp) (by simp))); clear has hk2 hka hq hnc hsl1 hg1 hg1l)
    | fail)
  obtain ⟨hnc, hsl1, hg1, hg1l, hk1⟩ := HSL1.out
  obtain ⟨⟨r, T, u, hm, hT, hTD, hTo, hrlo, ⟨hBs, ua, uc, hue, hun⟩, hug⟩, hk2⟩ := HA2.out
  have hs1 := hk1.size
  have hs2 := hk2.size
  simp only [World.size_alloc] at hm hTo hrlo
  have hmlt : w1.heap.size + 1 < w2.heap.size := (Array.getElem?_eq_some_iff.1 hm).1
  have hk02 : Kept [] w w2 := hk1.trans hk2 (by simp) (by simp)
  obtain ⟨hz1, hz2, hz3, hz4⟩ := HCS.out.1
  have hzf := HCS.out.2
  have m0 := (cells_of hm).1 0 _ rfl
  have m1 := (cells_of hm).1 1 _ rfl
  have m2 := (cells_of hm).1 2 _ rfl
  subst hue
  have hsrc := hBs.drew.src Tryz.underlying28
  have hB1 := hBs.2.1
  have HSR := Lib.hid (And.intro hsrc hB1); clear hsrc hBs hB1
  generalize hM : data.length = dn at *
  have HDN := Lib.hid hM; clear hM
  have hb : b + 4 < w1.heap.size + 1 := by omega
  have hb1 : w1.heap.size + 1 ≠ b + 1 := by omega
  have hb3 : w1.heap.size + 1 ≠ b + 3 := by omega
  have hb4 : w1.heap.size + 1 ≠ b + 4 := by omega
  have C1 := hk02.cell hz1 (by simp)
  have C3 := hk02.cell hz3 (by simp)
  have C4 := hk02.cell hz4 (by simp)
  have C2 := hk02.cell hz2 (by simp)
  have Z := fun j h1 h2 => hk02.frz (hzf j h1 h2) (by simp; omega) (by simp)
  have Z1 := Z 1 (by omega) (by omega)
  have Z2 := Z 2 (by omega) (by omega)
  have Z3 := Z 3 (by omega) (by omega)
  have Z4 := Z 4 (by omega) (by omega)
  go_cut [24] (fun p wx => ∃ a c, p = .pointer (some ⟨w1.heap.size + 1, 0, none⟩) ∧ wx.cell? ⟨b + 1, 0, none⟩ = some (.int .i16 ver) ∧ wx.cell? ⟨b + 2, 0, none⟩ = some (.slice none 0 0) ∧ wx.cell? ⟨b + 3, 0, none⟩ = some (.slice a dn c) ∧ wx.cell? ⟨b + 4, 0, none⟩ = some (.bool true) ∧ (∀ j, 1 ≤ j → j ≤ 4 → wx.frozen? ⟨b + j, 0, none⟩ = false) ∧
      Kept [b + 1, b + 3, b + 4] w2 wx ∧ SlAt wx 1 (.slice a dn c) dn data ∧ (∀ x, (Value.slice a dn c).ownBlock = some x → w2.heap.size ≤ x ∧ x < wx.heap.size))
  case first =>
    go_region_law
      (first
        | (refine sl_app (v := .slice none 0 0) rfl rfl elU8 rfl rfl (own_nil 5 1) HSR.out.1 (by omega) (by omega) ?_
           intro v' w3 hown3 hk3 hd3
           obtain ⟨va', vn', vc', rfl⟩ := own_form hown3
           have hk3' : Kept [] w2 w3 := by have h := hk3.of_drew; simpa [Value.ownBlock] using h
           have hs3 := hk3'.size
           have D0 := hk3'.cell m0 (by simp)
           have D1 := hk3'.cell C1 (by simp)
           have D3 := hk3'.cell C3 (by simp)
           have D4 := hk3'.cell C4 (by simp)
           have Y1 := hk3'.frz Z1 (by simp; omega) (by simp)
           have Y3 := hk3'.frz Z3 (by simp; omega) (by simp)
           have Y4 := hk3'.frz Z4 (by simp; omega) (by simp))
        | fail)
    all_goals
      have D2 := hk3'.cell C2 (by simp)
      have Y2 := hk3'.frz Z2 (by simp; omega) (by simp)
      have hsl3 := own_sl hown3 (by simpa using HSR.out.2)
      have hnn : vn' = dn := by have := own_len hown3; omega
      subst hnn
      have hown' : ∀ g', (Value.slice va' vn' vc').ownBlock = some g' → w2.heap.size ≤ g' ∧ g' < w3.heap.size := by
        intro g' hg'
        rcases hd3 with ⟨h1, h2⟩ | ⟨h1, h2⟩
        · rw [h1] at hg'; simp [Value.ownBlock] at hg'
        · rw [h1] at hg'; simp only [Option.some.injEq, World.size_drew] at hg' h2; omega
      go_wp2_with fail
      go_meet
      have KK : ∀ j v, j ∈ [b + 1, b + 3, b + 4] → ∀ wz, Kept [b + 1, b + 3, b + 4] w2 wz → Kept [b + 1, b + 3, b + 4] w2 (wz.setCell ⟨j, 0, none⟩ v) := fun j v hj wz hz => hz.setCell _ (fun _ => hj)
      refine ⟨va', vc', rfl, by simp [go_sem, D1, D3, D4], by simp [go_sem, D2], by simp [go_sem, D1, D3, D4], by simp [go_sem, D1, D3, D4], ?_, KK _ _ (by simp) _ (KK _ _ (by simp) _ (KK _ _ (by simp) _ (hk3'.mono (by simp)))), ?_, ?_⟩
      · intro j h1 h2
        rcases (by omega : j = 1 ∨ j = 2 ∨ j = 3 ∨ j = 4) with rfl | rfl | rfl | rfl <;> simp [go_sem, Y1, Y2, Y3, Y4]
      · have SS : ∀ j v, j ∈ [b + 1, b + 3, b + 4] → ∀ wz, SlAt wz 1 (.slice va' vn' vc') vn' data → SlAt (wz.setCell ⟨j, 0, none⟩ v) 1 (.slice va' vn' vc') vn' data := fun j v hj wz hz => hz.kept (S := [j]) ((Kept.refl _ _).setCell _ (by simp)) (fun g' hg' => by have := hown' g' hg'; simp at hj ⊢; omega)
        exact SS _ _ (by simp) _ (SS _ _ (by simp) _ (SS _ _ (by simp) _ (by simpa using hsl3)))
      · intro x hx
        have := hown' x hx
        simp; omega
  case rest =>
    obtain ⟨da, dc, rfl, C1', C2', C3', C4', Z', hkx, hds, hdo⟩ := hcut
    have m1' := hkx.cell m1 (by simp; omega)
    have hrl := hT.map.lt
    have hxs := hkx.size
    have hTx : TopsAt wc r T := hT.kept hkx (by simp; omega) (fun x hx g' hg' => by have := hTo x hx g' hg'; simp; omega)
    go_wp2_with (first
      | (refine wl_range rfl rfl rfl Tryz.underlying90 hTx.map ?_
         intro w4 hit4 hmap4 hk4 hsz4)
      | fail)
    have Z2' := Z' 2 (by omega) (by omega)
    have C2i := hk4.cell C2' (by simp)
    have Z2i := hk4.frz Z2' (by simp; omega) (by simp)
    have hTT := Lib.hid hTx; clear hTx
    have hitr : wc.heap.size ≠ r := by omega
    go_frame
    go_loopw [37] (fun _ wr => ∃ A M : Tops, ∃ L : List Shr, ∃ sv, ReadRel b r wc.heap.size w4.heap.size T wc wr A M L sv) (fun _ wr => leftOf wr wc.heap.size r)
    case atStart => exact ⟨[], T, [], .slice none 0 0, by simp, hit4, C2i, Z2i, own_nil _ _, by simp, by simp [tops2], by simp, hk4.mono (by simp), by simp [Value.ownBlock], by simp, Nat.le_refl _⟩
    case round =>
      obtain ⟨A, M, L, sv, hrr⟩ := hrel
      have hrr0 := hrr
      obtain ⟨hperm, hit, cs2, zs2, hown, hints, htop, hmem, hkw, hvb, hdis, hszw⟩ := hrr
      obtain ⟨va, vn, vc, rfl⟩ := own_form hown
      have hl := own_len hown
      subst hl
      have hL12 : L.length ≤ 12 := by have h1 := congrArg List.length htop; have h2 := hperm.length_eq; have h3 := congrArg List.length hTD; simp [tops2] at h1 h2 h3; omega
      have HRR := Lib.hid hrr0; clear hrr0
      cases M with
      | nil =>
        have hit0 : IterAt wr wc.heap.size r (rawT T) [] := hit
        clear hit
        have hso := sortShr_any 66 cmpTop66 _ _ _ hown (fun x hx => by obtain ⟨⟨a, c, hv⟩, _⟩ := hints x hx; rw [hv]; rfl) hL12
        have HSO := Lib.hid hso; clear hso
        have HP := Lib.hid hperm; clear hperm
        have HO := Lib.hid hown; clear hown
        have HI := Lib.hid (And.intro hints hmem); clear hints hmem
        have HTP := Lib.hid htop; clear htop
        have HV := Lib.hid (And.intro hvb hdis); clear hvb hdis
        go_wp2_with (first
          | (refine wl_next0 rfl rfl rfl hit0 hitr ?_)
          | (go_at_call 65
             refine HSO.out.mono ?_
             rintro e w5 ⟨rfl, L', hpl, hps, hsl5, hk5⟩)
          | fail)
        go_end0
        have hend := read_end (w := w) HRR.out hpl hps hsl5 hk5 hTD C1' C3' C4' Z' HDN.out hds hdo hkx hk02 hlt (by omega)
        exact ⟨rfl, hend.1, hend.2⟩
      | cons x0 M0 =>
        have hne0 : rawT (x0 :: M0) ≠ [] := by simp [rawT]
        generalize x0 :: M0 = M at *
        have HP := Lib.hid hperm; clear hperm
        have HO := Lib.hid hown; clear hown
        have HI := Lib.hid (And.intro hints hmem); clear hints hmem
        have HTP := Lib.hid htop; clear htop
        have HV := Lib.hid (And.intro hvb hdis); clear hvb hdis
        have hno : b + 2 ∉ (Value.slice va L.length vc).ownBlock.toList := fun h => by simp only [Option.mem_toList] at h; have := HV.out.1 _ h; omega
        have HNO := Lib.hid hno; clear hno
        go_wp2_with (first
          | (refine wl_next1 rfl rfl rfl hit hitr hne0 ?_
             intro k v l1 l2 w3 hsplit hit3 hent hk3 hsz3
             obtain ⟨L1, x, L2, hM, hl1, hl2, hk, hv⟩ := rawT_split hsplit
             clear hsplit
             have hxD : x ∈ T := HP.out.mem_iff.1 (by rw [hM]; simp)
             obtain ⟨xt, xv, xp⟩ := x
             obtain ⟨⟨pa, pc, hpv⟩, hsp⟩ := hTT.out.parts _ hxD
             simp only at hpv hsp hk hv
             subst hpv
             have hkw3 : Kept [b + 2] wc w3 := hkw.trans hk3 (by simp) (by simp)
             have hcl := fun W (hW : Kept [b + 2] wc W) => clone_i32 (.slice pa xp.length pc) xp W (SlInts.kept ⟨⟨_, _, rfl⟩, hsp⟩ hW (fun y hy => by have h := hTo _ hxD y hy; simp; omega)) (by have h : xp.length ≤ 1000000 := (HD.out (xt, xp) (by rw [← hTD]; exact List.mem_map.2 ⟨_, hxD, rfl⟩)).len; omega)
             have HCL := Lib.hid hcl; clear hcl hsp
             have HXD := Lib.hid hxD; clear hxD
             have HM := Lib.hid hM; clear hM
             have HL12 := Lib.hid (And.intro hl1 hl2); clear hl1 hl2
             have cs3 := hk3.cell cs2 (by simp; omega)
             have zs3 := hk3.frz zs2 (by simp; omega) (by simp; omega))
          | (refine wl_entry rfl rfl rfl hent ?_)
          | fail)
        go_region_law
          (first
            | (go_simp
               go_at_call 62
               refine (HCL.out _ hkw3.drew).mono ?_
               rintro e w5 ⟨v1, rfl, ⟨⟨qa, qc, rfl⟩, hsv⟩, hk5, hg5, _⟩
               have hk35 : Kept [wc.heap.size] wr w5 := hk3.trans hk5.of_drew (by simp) (by simp)
               have ho5 := own_kept HO.out hk35 (fun g' hg' => by have := HV.out.1 g' hg'; simp; omega)
               have cs5 := hk5.of_drew.cell cs3 (by simp)
               have cs5a : (w5.alloc (.cells #[.string ⟨#[]⟩, .string xt, .slice qa xp.length qc] 33)).cell? ⟨b + 2, 0, none⟩ = some (.slice va L.length vc) := ((Kept.refl [] w5).alloc _).cell cs5 (by simp)
               have zs5 := hk5.of_drew.frz zs3 (by simp; omega) (by simp)
               go_wp2_with fail)
            | (refine sl_app (v := .slice va L.length vc) rfl rfl elSh rfl rfl (own_kept ho5 ((Kept.refl [] _).alloc _) (by simp)) ((new_sl3 _ _ _ _ _ rfl).src Tryz.underlying23) (by omega) (by omega) ?_
               intro v' w6 hown6 hk6 hd6
               obtain ⟨va', vn', vc', rfl⟩ := own_form hown6
               have hk56 := ((Kept.refl [] w5).alloc _).trans hk6 (U := (Value.slice va L.length vc).ownBlock.toList) (by simp) (fun y hy _ => hy)
               have cs6 := hk56.cell cs5 HNO.out
               have zs6 := hk56.frz zs5 (by have q1 := hkw.size; have q3 := hk3.size; have q5 := hk5.size; simp only [World.size_drew] at q5; simp; omega) HNO.out)
            | fail)
        all_goals
          have hstep := read_step (by omega) (by omega) (by omega) (by omega) (by omega) (Nat.le_refl _) HP.out HM.out HL12.out.1 HL12.out.2 hit3 HO.out HI.out.1 HTP.out HI.out.2 hkw HV.out.1 HV.out.2 hszw hk3 hk5 hsv hg5 hown6 hk6 hd6 cs6 zs6
          have hml : rawT M = l1 ++ (k, v) :: l2 := by rw [HM.out, HL12.out.1, HL12.out.2]; simp [rawT, hk, hv]
          have hlf := hit.leftOf
          have HST := Lib.hid (And.intro hstep (And.intro hml hlf)); clear hstep hml hlf
          go_wp2_with fail
          go_roundw
          case rel =>
            obtain ⟨⟨A', M', L', sv', h1, h2⟩, _⟩ := HST.out
            exact ⟨A', M', L', sv', h1⟩
          case measure =>
            obtain ⟨⟨A', M', L', sv', h1, h2⟩, h3, h4⟩ := HST.out
            rw [h4, h1.2.1.leftOf]
            simp [rawT, HM.out, h2]
end Go.Proofs.YticcnlpfmekagaaGreat
