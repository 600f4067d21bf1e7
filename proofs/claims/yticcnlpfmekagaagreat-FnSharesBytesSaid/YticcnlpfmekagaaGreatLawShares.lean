import Derived.Test.YticcnlpfmekagaaGreatShWr2
import Derived.Test.YticcnlpfmekagaaGreatSame
import Derived.Test.YticcnlpfmekagaaGreatSpec2
import Derived.Test.YticcnlpfmekagaaGreatLawData
namespace Go.Proofs.YticcnlpfmekagaaGreat
open Go Go.Proofs Go.RowKit
set_option linter.unusedVariables false
set_option linter.unusedSimpArgs false

/-! ## FnSharesBytes -/

theorem topLt_trans {x y z : ByteArray} (h1 : topLt x y = true) (h2 : topLt y z = true) : topLt x z = true := topLt_swo.trans x y z h1 h2
theorem topLt_irr (x : ByteArray) : topLt x x = false := topLt_swo.irrefl x

theorem sorted_same : ∀ {L L' : List Shr}, (L'.map topOf).Perm (L.map topOf) → L'.Pairwise (fun x y => topLt y.top x.top = false) → L.Pairwise (fun x y => topLt x.top y.top = true) → L'.map topOf = L.map topOf
  | [], L', hp, _, _ => by simpa using hp
  | y :: L, L', hp, h1, h2 => by
    cases L' with
    | nil => exact absurd hp.length_eq (by simp)
    | cons x L' =>
      rw [List.pairwise_cons] at h1 h2
      simp only [List.map_cons] at hp ⊢
      by_cases e : topOf x = topOf y
      · rw [e] at hp ⊢
        rw [sorted_same hp.cons_inv h1.2 h2.2]
      · exfalso
        have hx : topOf x ∈ topOf y :: L.map topOf := hp.mem_iff.1 (by simp)
        have hy : topOf y ∈ topOf x :: L'.map topOf := hp.mem_iff.2 (by simp)
        rcases List.mem_cons.1 hx with hx | hx
        · exact e hx
        rcases List.mem_cons.1 hy with hy | hy
        · exact e hy.symm
        obtain ⟨z, hz, ez⟩ := List.mem_map.1 hx
        obtain ⟨z', hz', ez'⟩ := List.mem_map.1 hy
        have a := h2.1 z hz
        have b := h1.1 z' hz'
        rw [show z.top = x.top from congrArg Prod.fst ez] at a
        rw [show z'.top = y.top from congrArg Prod.fst ez'] at b
        rw [a] at b
        cases b

def Rises (L : List Shr) : Prop := L.Pairwise (fun x y => topLt x.top y.top = true)
theorem rises_snoc {L : List Shr} {k : Nat} {x y : Shr} (h : Rises (L.take (k + 1))) (hx : L[k]? = some x) (hy : L[k + 1]? = some y) (hl : topLt x.top y.top = true) : Rises (L.take (k + 2)) := by
  obtain ⟨h1, e1⟩ := List.getElem?_eq_some_iff.1 hx
  obtain ⟨h2, e2⟩ := List.getElem?_eq_some_iff.1 hy
  unfold Rises at *
  rw [List.take_succ_eq_append_getElem h2, e2]
  refine List.pairwise_append.2 ⟨h, by simp, fun a ha b hb => ?_⟩
  simp only [List.mem_cons, List.not_mem_nil, or_false] at hb
  subst hb
  rw [List.take_succ_eq_append_getElem h1, e1] at h ha
  rcases List.mem_append.1 ha with ha | ha
  · exact topLt_trans ((List.pairwise_append.1 h).2.2 a ha x (by simp)) hl
  · simp only [List.mem_cons, List.not_mem_nil, or_false] at ha
    subst ha; exact hl
theorem Rises.nodup {L : List Shr} (h : Rises L) : (L.map (·.top)).Nodup := by
  unfold Rises at h
  refine List.pairwise_map.2 (h.imp ?_)
  intro x y hxy e
  rw [e, topLt_irr] at hxy
  cases hxy

theorem shs_asg (ver : Int) (L : List Shr) (data : List Value) : shsBytes ver L data = asgBytes ver (L.map topOf) data := by
  have : ∀ l : List Shr, l.flatMap shrBytes = (l.map topOf).flatMap encTP := fun l => by
    induction l with
    | nil => rfl
    | cons x l ih => rw [List.flatMap_cons, List.map_cons, List.flatMap_cons, ih]; rfl
  unfold shsBytes asgBytes
  rw [this, List.length_map]

/-- the data of the two reads, as texts -/
theorem conv_any {w : World} {a : Option Addr} {n c : Nat} {cs : List Value} (h : SlAt w 1 (.slice a n c) n cs) (hu : ∀ u ∈ cs, ∃ x, u = .int .u8 x) :
    (convert 28 9 (.slice a n c)).run Tryz.prog w = .ok (.string (strOfNums (cs.map numOf))) w := by
  by_cases hn : 1 ≤ n
  · exact conv_sl h hn hu
  · obtain rfl : n = 0 := by omega
    have hc : cs = [] := List.eq_nil_of_length_eq_zero (by have := h.1; omega)
    subst hc
    rw [run_convert_bytes_string w 28 9 5 a 0 c Tryz.underlying28 Tryz.underlying5 Tryz.underlying9]
    cases a with
    | none => rfl
    | some p =>
      rw [run_bytesToString w p 0 c [] (by rfl)]
      rfl

theorem trip_same : ∀ {A B : List Shr}, A.map topOf = B.map topOf → (∀ x ∈ A, x.mem = ⟨#[]⟩) → (∀ x ∈ B, x.mem = ⟨#[]⟩) → A.map trip = B.map trip
  | [], [], _, _, _ => rfl
  | [], _ :: _, h, _, _ => by simp at h
  | _ :: _, [], h, _, _ => by simp at h
  | x :: A, y :: B, h, h1, h2 => by
    simp only [List.map_cons, List.cons.injEq, topOf, Prod.mk.injEq] at h ⊢
    refine ⟨?_, trip_same h.2 (fun z hz => h1 z (by simp [hz])) (fun z hz => h2 z (by simp [hz]))⟩
    unfold trip
    rw [h1 x (by simp), h2 y (by simp), h.1.1, h.1.2]
theorem acc_form {wB w : World} {v : Value} {xs : List Value} (h : Acc wB w v xs) (h1 : 1 ≤ xs.length) (hu : ∀ u ∈ xs, u.oneCell' = true) : ∃ g c, v = .slice (some ⟨g, 0, none⟩) xs.length c ∧ SlAt w 1 v xs.length xs ∧ wB.heap.size ≤ g := by
  have hsl := own_sl h.own hu
  rcases h.own.2 with ⟨e1, e2⟩ | ⟨g, cap, cur, e1, _⟩
  · omega
  · exact ⟨g, cap, e1, hsl, h.fr g (by rw [e1]; rfl)⟩
theorem readout_plan {lo : Nat} {L : List Shr} {D : List (ByteArray × List Int)} {data : List Value} {v u : Value} {w : World} (h : ReadOut lo D data v u w) (hD : D.Perm (L.map topOf)) (hr : Rises L) (hm : ∀ x ∈ L, x.mem = ⟨#[]⟩) :
    ∃ L2 va vc ua uc, v = .slice va L2.length vc ∧ u = .slice ua data.length uc ∧ ShrsAt w v L2 ∧ L2.map trip = L.map trip ∧ SlAt w 1 u data.length data ∧ L2.length = L.length := by
  obtain ⟨L2, h1, h2, h3, h4, h5, ⟨ua, uc, rfl⟩, _⟩ := h
  obtain ⟨va, vc, rfl⟩ := h1.form
  have e := sorted_same (h3.trans hD) h2 hr
  exact ⟨L2, va, vc, ua, uc, rfl, rfl, h1, trip_same e h4 hm, h5, by simpa using congrArg List.length e⟩

theorem perm_small {D : List (ByteArray × List Int)} {L : List Shr} (hp : D.Perm (L.map topOf)) (hl : L.length ≤ 1) : D = L.map topOf := by
  match L, hl, hp with
  | [], _, hp => exact List.perm_nil.1 hp
  | [x], _, hp => exact List.perm_singleton.1 hp

def LawIn (w : World) (a : Option Addr) (c : Nat) (L : List Shr) (da : Option Addr) (dc : Nat) (data : List Value) : Prop :=
  ShrsAt w (.slice a L.length c) L ∧ SlAt w 1 (.slice da data.length dc) data.length data ∧ U8L data
theorem LawIn.kept {w w' : World} {a : Option Addr} {c : Nat} {L : List Shr} {da : Option Addr} {dc : Nat} {data : List Value} (h : LawIn w a c L da dc data) (k : Kept [] w w') : LawIn w' a c L da dc data :=
  ⟨h.1.kept k (by simp) (by simp), h.2.1.kept k (by simp), h.2.2⟩

set_option maxRecDepth 100000 in
set_option maxHeartbeats 20000000 in
theorem law_shares (ver : Int) (a : Option Addr) (c : Nat) (L : List Shr) (da : Option Addr) (dc : Nat) (data : List Value) (w : World) (hver : isI16 ver) (hL : L.length ≤ maxLen) (hin : LawIn w a c L da dc data) (hdl : data.length ≤ maxLen) :
    Calls Tryz.prog 11 #[.int .i16 ver, .slice a L.length c, .slice da data.length dc] w fun e w' => e = .returned (.bool true) ∧ Kept [] w w' := by
  have hf5 := fits5 _ L w hin.1 hL
  have HF5 := Lib.hid hf5; clear hf5
  have hsf := fun w' (k : Kept [] w w') => sharesFit_any _ L w' (hin.1.kept k (by simp) (by simp)) hL
  have HSF := Lib.hid hsf; clear hsf
  have hal := alive
  have HAL := Lib.hid hal; clear hal
  have HIN := Lib.hid hin; clear hin
  have hv1 : -32768 ≤ ver := hver.1
  have hv2 : ver ≤ 32767 := hver.2
  have hmx : maxLen = 9223372036854775807 := rfl
  generalize hdn : data.length = dn at *
  generalize hln : L.length = ln at *
  have HN := Lib.hid (And.intro hdn hln); clear hdn hln
  by_cases hbig : (2147483647 : Int) < (dn : Int)
  · go_enter Tryz.func11, Tryz.ntmps11
    go_wp2_with (first | (go_at_call 13; refine HF5.out.mono ?_; rintro e w1 ⟨⟨bb, rfl⟩, hk1⟩; cases bb) | fail)
    all_goals
      go_ret
      exact ⟨rfl, hk1⟩
  · go_enter Tryz.func11, Tryz.ntmps11
    go_upto_region 3 with (first | (go_at_call 13; refine HF5.out.mono ?_; rintro e w1 ⟨⟨bb, rfl⟩, hk1⟩; cases bb) | fail)
    · go_wp2
      go_ret
      exact ⟨rfl, hk1⟩
    · by_cases hc : (100 : Int) < (dn : Int) ∨ ver < 0 ∨ 3 < ver
      · go_wp2_with (first
          | (go_at_call 20
             refine (HSF.out _ hk1).mono ?_
             rintro e w2 ⟨⟨rfl, hfit⟩ | ⟨rfl, hfit⟩, hk2⟩)
          | (go_at_call 14; refine (HAL.out _).mono ?_; rintro e w3 ⟨rfl, hk3⟩)
          | fail)
        all_goals first
          | (exfalso; omega)
          | (go_ret; exact ⟨rfl, (hk1.trans hk2 (U := []) (by simp) (by simp)).trans hk3 (by simp) (by simp)⟩)
          | fail
      · have hb1 : ¬ (100 : Int) < (dn : Int) := by omega
        have hb2 : ¬ ver < 0 := by omega
        have hb3 : ¬ (3 : Int) < ver := by omega
        clear hc
        go_upto_region 5 with (first
          | (go_at_call 20
             refine (HSF.out _ hk1).mono ?_
             rintro e w2 ⟨⟨rfl, hfit⟩ | ⟨rfl, hfit⟩, hk2⟩)
          | (go_at_call 14; refine (HAL.out _).mono ?_; rintro e w3 ⟨rfl, hk3⟩)
          | fail)
        all_goals try (go_ret; exact ⟨rfl, (hk1.trans hk2 (U := []) (by simp) (by simp)).trans hk3 (by simp) (by simp)⟩)
        have hk12 : Kept [] w w2 := hk1.trans hk2 (by simp) (by simp)
        have hl10 : ln ≤ 10 := by rw [← HN.out.2]; exact hfit.2
        have HFIT := Lib.hid hfit; clear hfit
        clear hk1 hk2
        go_wp2_with fail
        go_loopw [7] (fun i wr => ∃ k : Nat, i = .int .i64 ((k + 1 : Nat) : Int) ∧ k ≤ ln ∧ Rises (L.take (k + 1)) ∧ Kept [] w wr) (fun i _ => ln + 1 - (intOf i).toNat)
        case atStart =>
          refine ⟨0, rfl, Nat.zero_le _, ?_, hk12⟩
          unfold Rises
          cases L <;> simp
        case round =>
          obtain ⟨k, rfl, hk, hris, hkw⟩ := hrel
          by_cases hlt : k + 1 < ln
          · obtain ⟨x, hx⟩ : ∃ x, L[k]? = some x := ⟨_, List.getElem?_eq_getElem (by have := HN.out.2; omega)⟩
            obtain ⟨y, hy⟩ : ∃ y, L[k + 1]? = some y := ⟨_, List.getElem?_eq_getElem (by have := HN.out.2; omega)⟩
            obtain ⟨_, gx, _⟩ := shr_get hx
            obtain ⟨_, gy, _⟩ := shr_get hy
            have hcs := (HIN.out.kept hkw).1.cells
            rw [HN.out.2] at hcs
            obtain ⟨_, hcase⟩ := hcs.cases
            rcases hcase with ⟨_, h0, _⟩ | ⟨g, off, hva, hcell⟩
            · omega
            cases hva
            have c1 := hcell _ _ gx
            have c2 := hcell _ _ gy
            rw [← Nat.add_assoc] at c1 c2
            clear hcell gx gy hcs
            have HX := Lib.hid (And.intro hx hy); clear hx hy
            have hw1 : IntKind.i64.wrap (((k + 1 : Nat) : Int) - 1) = (k : Int) := by rw [IntWalk.i64_in _ (by omega)]; omega
            by_cases hle : topLt x.top y.top = true
            · have hle' : Op.bytesLess x.top.toList y.top.toList = true := hle
              go_wp2_with fail
              go_quiet (fail)
              go_wp2_with fail
              go_roundw
              case rel => exact ⟨k + 1, by go_num, by omega, rises_snoc hris HX.out.1 HX.out.2 hle, hkw.drewN _⟩
              case measure => simp [intOf]; omega
            · have hle' : Op.bytesLess x.top.toList y.top.toList = false := by simpa [topLt] using hle
              go_wp2_with fail
              go_quiet (fail)
              go_wp2_with (first | (go_at_call 14; refine (HAL.out _).mono ?_; rintro e w3 ⟨rfl, hk3⟩) | fail)
              go_ret
              exact ⟨rfl, (hkw.drewN _).trans hk3 (by simp) (by simp)⟩
          · have hris' : Rises L := by rw [List.take_of_length_le (by have := HN.out.2; omega)] at hris; exact hris
            have hnd := hris'.nodup
            have hin := HIN.out.kept hkw
            have hmem : ∀ x ∈ L, x.mem = ⟨#[]⟩ := fun x hx => (HFIT.out.1 x hx).1
            have hfs : ∀ x ∈ L, x.top.size ≤ 50 ∧ x.parts.length ≤ 20 := fun x hx => (HFIT.out.1 x hx).2
            have hll : L.length ≤ 10 := HFIT.out.2
            have hdd : data.length ≤ 1000 := by have := HN.out.1; omega
            have hnd2 : ∀ D : List (ByteArray × List Int), D.Perm (L.map topOf) → (D.map (·.1)).Nodup ∧ (∀ x ∈ D, TPOk x) ∧ D.length ≤ 12 ∧ (asgBytes ver D data).length ≤ 1000000 ∧ 1 ≤ (asgBytes ver D data).length ∧ (∀ u ∈ asgBytes ver D data, u.oneCell' = true) ∧ U8L (asgBytes ver D data) := by
              intro D hD
              have e1 : (D.map (·.1)).Perm (L.map (·.top)) := by
                have := hD.map (fun x : ByteArray × List Int => x.1)
                simpa [Function.comp_def, topOf] using this
              have hok : ∀ x ∈ D, TPOk x := fun x hx => by
                obtain ⟨z, hz, rfl⟩ := List.mem_map.1 (hD.mem_iff.1 hx)
                have h1 := hfs z hz
                exact ⟨by simp only [topOf]; omega, by simp only [topOf]; omega, (hin.1.parts z hz).2.2⟩
              have hl : D.length ≤ 10 := by have := hD.length_eq; rw [List.length_map] at this; omega
              have h3 := asg_le ver D data (fun x hx => by obtain ⟨z, hz, rfl⟩ := List.mem_map.1 (hD.mem_iff.1 hx); exact hfs z hz) hl hdd
              exact ⟨e1.nodup_iff.2 hnd, hok, by omega, by omega, by simp [asgBytes, be16], asg_one ver D data hin.2.1.2.1, asgBytes_u8 ver D data hver hok (by omega) (by omega) hin.2.2⟩
            have h33 := specShares_any wr ver a c L da dc data hver hin.1 hll hfs hin.2.1 hdd
            rw [shs_asg, HN.out.1, HN.out.2] at h33
            have H33 := Lib.hid h33; clear h33
            have HND := Lib.hid hnd2; clear hnd2
            have HMEM := Lib.hid (And.intro hmem (And.intro hfs (And.intro hris' hnd))); clear hmem hfs hris' hnd hris
            have HIW := Lib.hid hin; clear hin
            have HLD := Lib.hid (And.intro hll hdd); clear hll hdd
            go_upto_region 14 with (first
              | (go_at_call 33
                 refine H33.out.mono ?_
                 rintro e w1 ⟨v1, rfl, hacc⟩
                 obtain ⟨p1, p2, p3, p4, p5, p6, p7⟩ := HND.out _ (List.Perm.refl _)
                 obtain ⟨g1, c1, rfl, hsl1, hg1⟩ := acc_form hacc p5 p6
                 have hk1 := hacc.kept
                 have h34 := sharesRead_any g1 0 c1 ver (L.map topOf) data w1 hsl1 p4 hver p1 p2 p3 (by have := HLD.out.2; omega) HIN.out.2.2
                 have HR1 := Lib.hid h34; clear h34 p1 p2 p3 p4 p5 p6
                 have HS1 := Lib.hid hsl1; clear hsl1 hacc p7
                 generalize hN1 : (asgBytes ver (L.map topOf) data).length = N1 at *
                 have HN1 := Lib.hid hN1; clear hN1)
              | (go_at_call 34
                 refine HR1.out.mono ?_
                 rintro e w2 ⟨v2, u2, rfl, hro2, hk2⟩
                 obtain ⟨L2, va2, vc2, ua2, uc2, hv2, hu2, hsh2, htr2, hsu2, hl2⟩ := readout_plan hro2 (List.Perm.refl _) HMEM.out.2.2.1 HMEM.out.1
                 have hk02 : Kept [] wr w2 := hk1.trans hk2 (by simp) (by simp)
                 have h35 := sharesBytes_any ver a c L da dc data w2 (HIW.out.kept hk02).1 HLD.out.1 HMEM.out.2.2.2 HMEM.out.2.1 (HIW.out.kept hk02).2.1 HLD.out.2 hver
                 rw [HN.out.1, HN.out.2] at h35
                 have H35 := Lib.hid h35; clear h35
                 rw [hv2] at hsh2
                 rw [HN.out.1] at hu2
                 rw [hu2, HN.out.1] at hsu2
                 rw [hl2, HN.out.2] at hv2 hsh2
                 have HO2 := Lib.hid (And.intro hsh2 (And.intro htr2 (And.intro hsu2 hl2))); clear hsh2 htr2 hsu2 hl2 hro2
                 subst hv2 hu2
                 clear HR1)
              | (go_at_call 35
                 refine H35.out.mono ?_
                 rintro e w3 ⟨v3, rfl, ⟨D', g3, c3, rfl, hpm, hsl3, hg3⟩, hk3⟩
                 obtain ⟨p1, p2, p3, p4, p5, p6, p7⟩ := HND.out _ hpm
                 have h34 := sharesRead_any g3 0 c3 ver D' data w3 hsl3 p4 hver p1 p2 p3 (by have := HLD.out.2; omega) HIN.out.2.2
                 have HR2 := Lib.hid h34; clear h34 p1 p2 p3 p4 p5 p6 p7
                 have HS3 := Lib.hid (And.intro hsl3 hpm); clear hsl3 hpm
                 generalize hN3 : (asgBytes ver D' data).length = N3 at *
                 have HN3 := Lib.hid hN3; clear hN3)
              | (go_at_call 34
                 refine HR2.out.mono ?_
                 rintro e w4 ⟨v4, u4, rfl, hro4, hk4⟩
                 obtain ⟨L4, va4, vc4, ua4, uc4, hv4, hu4, hsh4, htr4, hsu4, hl4⟩ := readout_plan hro4 HS3.out.2 HMEM.out.2.2.1 HMEM.out.1
                 rw [hv4] at hsh4
                 rw [HN.out.1] at hu4
                 rw [hu4, HN.out.1] at hsu4
                 rw [hl4, HN.out.2] at hv4 hsh4
                 have HO4 := Lib.hid (And.intro hsh4 (And.intro htr4 (And.intro hsu4 hl4))); clear hsh4 htr4 hsu4 hl4 hro4
                 subst hv4 hu4
                 clear HR2)
              | fail)
            have hk04 : Kept [] wr w4 := (hk02.trans hk3 (U := []) (by simp) (by simp)).trans hk4 (by simp) (by simp)
            have hk24 : Kept [] w2 w4 := hk3.trans hk4 (by simp) (by simp)
            have hpt : ∀ M : List Shr, M.map trip = L.map trip → M.length ≤ 1000000 ∧ ∀ x ∈ M, x.parts.length ≤ 1000000 := by
              intro M hM
              have hml : M.length = L.length := by simpa using congrArg List.length hM
              refine ⟨by have := HLD.out.1; omega, fun x hx => ?_⟩
              have : trip x ∈ L.map trip := by rw [← hM]; exact List.mem_map_of_mem hx
              obtain ⟨z, hz, ez⟩ := List.mem_map.1 this
              have h1 := HMEM.out.2.1 z hz
              have h2 : z.parts = x.parts := congrArg (fun t : ByteArray × ByteArray × List Int => t.2.2) ez
              rw [← h2]; omega
            have hsa := samePlan_any (.slice va2 ln vc2) (.slice a ln c) L2 L w4 (HO2.out.1.kept hk24 (by simp) (by simp)) (by have := (HIW.out.kept hk04).1; rw [HN.out.2] at this; exact this) HO2.out.2.1 (hpt _ HO2.out.2.1).1 (hpt _ HO2.out.2.1).2
            have hsb := fun w' (k : Kept [] w4 w') => samePlan_any (.slice va4 ln vc4) (.slice a ln c) L4 L w' (HO4.out.1.kept k (by simp) (by simp)) (by have := (HIW.out.kept (hk04.trans k (U := []) (by simp) (by simp))).1; rw [HN.out.2] at this; exact this) HO4.out.2.1 (hpt _ HO4.out.2.1).1 (hpt _ HO4.out.2.1).2
            have hux : ∀ l : List Value, U8L l → ∀ u ∈ l, ∃ x, u = Value.int .u8 x := fun l h u hu => by obtain ⟨x, e, _⟩ := h u hu; exact ⟨x, e⟩
            have hcv : ∀ w', Kept [] w4 w' → (convert 28 9 (.slice ua2 dn uc2)).run Tryz.prog w' = .ok (.string (strOfNums (data.map numOf))) w' ∧ (convert 28 9 (.slice ua4 dn uc4)).run Tryz.prog w' = .ok (.string (strOfNums (data.map numOf))) w' ∧
                (convert 28 9 (.slice da dn dc)).run Tryz.prog w' = .ok (.string (strOfNums (data.map numOf))) w' := fun w' k =>
              ⟨conv_any (HO2.out.2.2.1.kept (hk24.trans k (U := []) (by simp) (by simp)) (by simp)) (hux _ HIN.out.2.2), conv_any (HO4.out.2.2.1.kept k (by simp)) (hux _ HIN.out.2.2),
                conv_any (by have := (HIW.out.kept (hk04.trans k (U := []) (by simp) (by simp))).2.1; rw [HN.out.1] at this; exact this) (hux _ HIN.out.2.2)⟩
            have hk14 : Kept [] w1 w4 := (hk2.trans hk3 (U := []) (by simp) (by simp)).trans hk4 (by simp) (by simp)
            have hcw : ∀ w', Kept [] w4 w' → (convert 28 9 (.slice (some ⟨g3, 0, none⟩) N3 c3)).run Tryz.prog w' = .ok (.string (strOfNums ((asgBytes ver D' data).map numOf))) w' ∧
                (convert 28 9 (.slice (some ⟨g1, 0, none⟩) N1 c1)).run Tryz.prog w' = .ok (.string (strOfNums ((asgBytes ver (L.map topOf) data).map numOf))) w' := fun w' k => by
              have e3 := conv_any (HS3.out.1.kept (hk4.trans k (U := []) (by simp) (by simp)) (by simp)) (hux _ (HND.out _ HS3.out.2).2.2.2.2.2.2)
              have e1 := conv_any (HS1.out.kept (hk14.trans k (U := []) (by simp) (by simp)) (by simp)) (hux _ (HND.out _ (List.Perm.refl _)).2.2.2.2.2.2)
              exact ⟨e3, e1⟩
            have HSA := Lib.hid hsa; clear hsa
            have HSB := Lib.hid hsb; clear hsb
            generalize strOfNums (data.map numOf) = str at hcv
            generalize hstrA : strOfNums ((asgBytes ver (L.map topOf) data).map numOf) = strA at hcw
            generalize hstrB : strOfNums ((asgBytes ver D' data).map numOf) = strB at hcw
            have hAB : D' = L.map topOf → strB = strA := fun e => by rw [← hstrA, ← hstrB, e]
            clear hstrA hstrB
            have HCV := Lib.hid hcv; clear hcv
            have hKW : Kept [] w w4 := hkw.trans hk04 (by simp) (by simp)
            by_cases hone : (1 : Int) < (ln : Int)
            · have HCW := Lib.hid hcw; clear hcw hAB
              clear hpt hux
              go_wp2_with (first
                | (go_at_call 36
                   refine HSA.out.mono ?_
                   rintro e w5 ⟨rfl, hk5⟩
                   obtain ⟨q1, q2, q3⟩ := HCV.out w5 hk5
                   clear HSA)
                | (go_at_call 36
                   refine (HSB.out w5 hk5).mono ?_
                   rintro e w6 ⟨rfl, hk6⟩
                   obtain ⟨q4, q5, q6⟩ := HCV.out w6 (hk5.trans hk6 (by simp) (by simp)))
                | (go_at_call 14; refine (HAL.out _).mono ?_; rintro e w7 ⟨rfl, hk7⟩)
                | fail)
              go_ret
              exact ⟨rfl, ((hKW.trans hk5 (U := []) (by simp) (by simp)).trans hk6 (U := []) (by simp) (by simp)).trans hk7 (by simp) (by simp)⟩
            · have hDD : D' = L.map topOf := perm_small HS3.out.2 (by have := HN.out.2; omega)
              obtain rfl := hAB hDD
              have HCW := Lib.hid hcw; clear hcw hDD hAB
              clear hpt hux
              go_wp2_with (first
                | (go_at_call 36
                   refine HSA.out.mono ?_
                   rintro e w5 ⟨rfl, hk5⟩
                   obtain ⟨q1, q2, q3⟩ := HCV.out w5 hk5
                   clear HSA)
                | (go_at_call 36
                   refine (HSB.out w5 hk5).mono ?_
                   rintro e w6 ⟨rfl, hk6⟩
                   obtain ⟨q4, q5, q6⟩ := HCV.out w6 (hk5.trans hk6 (by simp) (by simp)))
                | (go_at_call 14
                   refine (HAL.out _).mono ?_
                   rintro e w7 ⟨rfl, hk7⟩
                   obtain ⟨q7, q8⟩ := HCW.out w7 ((hk5.trans hk6 (U := []) (by simp) (by simp)).trans hk7 (by simp) (by simp)))
                | fail)
              go_ret
              exact ⟨rfl, ((hKW.trans hk5 (U := []) (by simp) (by simp)).trans hk6 (U := []) (by simp) (by simp)).trans hk7 (by simp) (by simp)⟩

theorem law_shares_row (ver : Int) (a : Option Addr) (c : Nat) (L : List Shr) (da : Option Addr) (dc : Nat) (data : List Int) (w : World) (h0 : (Lit.int .i16 ver).wf = true) (hv : ShrsAt w (.slice a L.length c) L) (hL : L.length ≤ maxLen)
    (_ : ∀ z ∈ L, z.mem.size ≤ maxLen ∧ z.top.size ≤ maxLen ∧ z.parts.length ≤ maxLen) (hd : SlAt w 1 (.slice da data.length dc) data.length (data.map (.int .u8))) (hdl : data.length ≤ maxLen) (hu : ∀ x ∈ data, 0 ≤ x ∧ x < 256) :
    Calls Tryz.prog 11 #[.int .i16 ver, .slice a L.length c, .slice da data.length dc] w fun e w' => e = .returned (.bool true) ∧ Kept [] w w' := by
  simp [Lit.wf, IntKind.min, IntKind.max, IntKind.signed, IntKind.bits] at h0
  have h := law_shares ver a c L da dc (data.map (.int .u8)) w (by unfold isI16; omega) hL ⟨hv, by simpa using hd, fun u hx => by
    obtain ⟨y, hy, rfl⟩ := List.mem_map.1 hx
    exact ⟨y, rfl, hu y hy⟩⟩ (by simpa using hdl)
  simpa using h
end Go.Proofs.YticcnlpfmekagaaGreat
