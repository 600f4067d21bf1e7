import Derived.Test.YticcnlpfmekagaaGreatAlive
namespace Go.Proofs.YticcnlpfmekagaaGreat
open Go Go.Proofs Go.RowKit
set_option linter.unusedVariables false
set_option linter.unusedSimpArgs false

/-! ## FnGroupData -/

theorem nodup_small (L : List Shr) (h : L.length ≤ 1) : (L.map (·.top)).Nodup := by
  match L, h with
  | [], _ => simp
  | [x], _ => simp
theorem encV1_small {L : List Shr} {D : Tops} (hD : tops2 D = L.map topOf) (gen : Int) (hf : SharesFit L) (hl : L.length ≤ 1) : (encV1 D gen).length ≤ 1000000 := by
  have hlen : D.length = L.length := by have := congrArg List.length hD; simpa [tops2] using this
  match D, hlen with
  | [], _ => simp [encV1, encTs, be32]
  | [x], h2 =>
    obtain ⟨y, rfl⟩ := List.length_eq_one_iff.1 h2.symm
    simp only [tops2, List.map_cons, List.map_nil, topOf, List.cons.injEq, and_true, Prod.mk.injEq] at hD
    obtain ⟨_, h3, h4⟩ := hf.1 y (List.mem_cons_self ..)
    simp only [encV1, encTs, List.flatMap_cons, List.flatMap_nil, List.append_nil, encT, encInts, List.length_append, encStr_length, be32s_length, hD.1, hD.2]
    simp [be32]
    omega
  | _ :: _ :: _, h2 => simp at h2; omega

theorem encTs_tops {L : List Shr} : ∀ {D : Tops}, tops2 D = L.map topOf → encTs D = L.flatMap (fun x => encStr x.top ++ encInts x.parts) := by
  induction L with
  | nil => intro D h; cases D with
    | nil => rfl
    | cons x D => simp [tops2] at h
  | cons y L ih =>
    intro D h
    cases D with
    | nil => simp [tops2] at h
    | cons x D =>
      simp only [tops2, List.map_cons, List.cons.injEq, topOf, Prod.mk.injEq] at h
      have := ih (D := D) h.2
      simp only [encTs, List.flatMap_cons, encT] at *
      rw [this, h.1.1, h.1.2]

theorem all_u8 (L : List Shr) (gen : Int) : ∀ u ∈ be32 L.length ++ L.flatMap (fun x => encStr x.top ++ encInts x.parts) ++ be32 (gen % 4294967296), ∃ x, u = .int .u8 x := by
  have hb : ∀ n, ∀ u ∈ be32 n, ∃ x, u = Value.int .u8 x := by intro n u hu; simp [be32] at hu; rcases hu with h | h | h | h <;> exact ⟨_, h⟩
  intro u hu
  rcases List.mem_append.1 hu with hu | hu
  · rcases List.mem_append.1 hu with hu | hu
    · exact hb _ u hu
    · obtain ⟨x, _, hx⟩ := List.mem_flatMap.1 hu
      unfold encStr encInts at hx
      rcases List.mem_append.1 hx with hx | hx
      · rcases List.mem_append.1 hx with hx | hx
        · simp [be16] at hx; rcases hx with h | h <;> exact ⟨_, h⟩
        · unfold byteCells at hx; obtain ⟨b, _, rfl⟩ := List.mem_map.1 hx; exact ⟨_, rfl⟩
      · rcases List.mem_append.1 hx with hx | hx
        · exact hb _ u hx
        · unfold be32s at hx; obtain ⟨b, _, h⟩ := List.mem_flatMap.1 hx; exact hb _ u h
  · exact hb _ u hu

def numOf : Value → Int
  | .int _ x => x
  | _ => 0
theorem conv_sl {w : World} {a : Option Addr} {n c : Nat} {cs : List Value} (h : SlAt w 1 (.slice a n c) n cs) (hn : 1 ≤ n) (hu : ∀ u ∈ cs, ∃ x, u = .int .u8 x) :
    (convert 28 9 (.slice a n c)).run Tryz.prog w = .ok (.string (strOfNums (cs.map numOf))) w := by
  have hl : cs.length = n := by have := h.1; omega
  obtain ⟨_, hcase⟩ := h.cases
  rcases hcase with ⟨_, h0, _⟩ | ⟨g, off, rfl, hcell⟩
  · omega
  refine run_convert_bytes_arg w 28 5 Tryz.underlying28 Tryz.underlying5 g off n c (cs.map numOf) (by simpa using hl) (fun i hi => ?_) 9 Tryz.underlying9
  have hi' : i < cs.length := by omega
  obtain ⟨x, hx⟩ := hu cs[i] (List.getElem_mem hi')
  rw [hcell i cs[i] (List.getElem?_eq_getElem hi'), hx]
  simp [List.getD, List.getElem?_map, List.getElem?_eq_getElem hi', hx, numOf]

def encShr (x : Shr) : List Value := encStr x.top ++ encInts x.parts

set_option maxRecDepth 100000 in
set_option maxHeartbeats 1000000 in
theorem law_data (s : Nat) (hs : s ≤ 255) (mem : ByteArray) (a : Option Addr) (c : Nat) (L : List Shr) (gen : Int) (w : World) (hv : ShrsAt w (.slice a L.length c) L) (hL : L.length ≤ maxLen) (hg : isI32 gen) :
    Calls Tryz.prog 4 #[.int .u8 s, .string mem, .slice a L.length c, .int .i32 gen] w fun e w' => e = .returned (.bool true) ∧ Kept [] w w' := by
  have hf5 := fits5 _ L w hv hL
  have HF5 := Lib.hid hf5; clear hf5
  have hsf := fun w' (k : Kept [] w w') => sharesFit_any _ L w' (hv.kept k (by simp) (by simp)) hL
  have HSF := Lib.hid hsf; clear hsf
  have hal := alive
  have HAL := Lib.hid hal; clear hal
  have HV := Lib.hid hv; clear hv
  by_cases h1 : (2147483647 : Int) < mem.size
  · go_enter Tryz.func4, Tryz.ntmps4
    go_wp2
    go_ret
    exact ⟨rfl, Kept.refl _ _⟩
  · go_enter Tryz.func4, Tryz.ntmps4
    go_upto_region 3 with (first | (go_at_call 13; refine HF5.out.mono ?_; rintro e w1 ⟨⟨bb, rfl⟩, hk1⟩; cases bb) | fail)
    · go_wp2
      go_ret
      exact ⟨rfl, hk1⟩
    · go_upto_if 38 with (first
        | (go_at_call 20
           refine (HSF.out _ hk1).mono ?_
           rintro e w2 ⟨⟨rfl, hfit⟩ | ⟨rfl, hfit⟩, hk2⟩)
        | fail)
      · have hk12 : Kept [] w w2 := hk1.trans hk2 (by simp) (by simp)
        have hal := HAL.out w2
        have HA2 := Lib.hid hal; clear hal
        by_cases hc : 1 < L.length ∨ 50 < mem.size
        · go_wp2_with (first | (go_at_call 14; refine HA2.out.mono ?_; rintro e w3 ⟨rfl, hk3⟩) | fail)
          all_goals first
            | (exfalso; omega)
            | (go_ret; exact ⟨rfl, hk12.trans hk3 (by simp) (by simp)⟩)
            | fail
        · have hb : (decide ((1 : Int) < (L.length : Int)) || decide ((50 : Int) < (mem.size : Int))) = false := by
            simp only [Bool.or_eq_false_iff, decide_eq_false_iff_not]; omega
          have hn3 : s % 3 < 4 := by omega
          have hsm : ((s : Int) % 3) = ((s % 3 : Nat) : Int) := by omega
          have hgd := groupData_any (s % 3) hn3 mem a c L gen w2 (HV.out.kept hk12 (by simp) (by simp)) (by omega) (nodup_small L (by omega)) (fun x hx => by have := (hfit.1 x hx).2.2; omega) (fun x hx => by have := (hfit.1 x hx).2.1; omega) hg (fun D hD => encV1_small hD gen hfit (by omega))
          rw [← hsm] at hgd
          have HGD := Lib.hid hgd; clear hgd
          have HFIT := Lib.hid hfit; clear hfit
          have HSM := Lib.hid hsm; clear hsm
          go_upto_if 49 with (first
            | (go_at_call 21
               refine HGD.out.mono ?_
               rintro e w3 ⟨u, D, cs, rfl, hD, hda, hsl, hu, hk3⟩)
            | fail)
          have hk13 : Kept [] w w3 := hk12.trans hk3 (by simp) (by simp)
          obtain ⟨ua, un, uc, rfl⟩ := hsl.form
          have hal3 := HAL.out w3
          have HA3 := Lib.hid hal3; clear hal3
          by_cases hn2 : s % 3 = 2
          · have hn2i : (s : Int) % 3 = 2 := by omega
            have HDA := Lib.hid (And.intro hD (And.intro hda (And.intro hsl hu))); clear hD hda hsl hu
            have hbl := big4 (L.length : Int) w3 (by omega) (by have : maxLen = 9223372036854775807 := rfl; omega)
            have HBL := Lib.hid hbl; clear hbl
            go_upto_region 10 with (first
              | (go_at_call 22; refine HBL.out.mono ?_; rintro e w4 ⟨v4, rfl, hown4, hk4, hf4⟩)
              | fail)
            have hlm : (L.length : Int) % 4294967296 = L.length := by omega
            rw [hlm] at hown4
            have hk14 : Kept [] w w4 := hk13.trans hk4 (by simp) (by simp)
            have HK14 := Lib.hid hk14; clear hk14
            have hf40 : Fresh w3 v4 := hf4
            have HW4 := Lib.hid (And.intro hown4 (And.intro hf4 hk4)); clear hown4 hf4 hk4 hlm hf40
            go_upto_block 0 with fail
            go_cut [12] (fun v wx => ∃ n, wx.ownsRow 0 5 1 v n (be32 L.length ++ L.flatMap encShr) ∧ n ≤ 1000 ∧ Fresh w3 v ∧ Kept [] w3 wx)
            case first =>
              obtain ⟨hown4, hf4, hk4⟩ := HW4.out
              go_wp2_with fail
              go_loopw [12, 13] (fun v i wr => ∃ k n : Nat, k ≤ L.length ∧ i = .int .i64 k ∧ wr.ownsRow 0 5 1 v n (be32 L.length ++ (L.take k).flatMap encShr) ∧ n ≤ 4 + 200 * k ∧ Fresh w3 v ∧ Kept [] w3 wr) (fun _ i _ => L.length - (intOf i).toNat)
              case atStart => exact ⟨0, 4, Nat.zero_le _, rfl, by simpa using hown4, by omega, hf4, hk4⟩
              case round =>
                obtain ⟨k, n, hk, rfl, hown, hn, hfv, hkw⟩ := hrel
                obtain ⟨va, vn, vc, rfl⟩ := own_form hown
                by_cases hlt : k < L.length
                · obtain ⟨x, hkx⟩ : ∃ x, L[k]? = some x := ⟨_, List.getElem?_eq_getElem hlt⟩
                  obtain ⟨g1, g2, g3⟩ := shr_get hkx
                  have hxL : x ∈ L := List.mem_of_getElem? hkx
                  obtain ⟨_, hfx2, hfx3⟩ := HFIT.out.1 x hxL
                  obtain ⟨_, hcase⟩ := HV.out.cells.cases
                  rcases hcase with ⟨_, h0, _⟩ | ⟨g, off, hva, hcell⟩
                  · omega
                  subst hva
                  have hpt := HV.out.parts x hxL
                  obtain ⟨⟨pa, pc, hval⟩, _⟩ := HV.out.parts x hxL
                  rw [hval] at g3 hpt
                  have HPT := Lib.hid hpt; clear hpt
                  have hS : ∀ w', Kept [] w3 w' → w'.cell? ⟨g, off + k * 3 + 1, none⟩ = some (.string x.top) ∧ w'.cell? ⟨g, off + k * 3 + 2, none⟩ = some (.slice pa x.parts.length pc) := fun w' k' =>
                    ⟨by rw [Nat.add_assoc]; exact (hk13.trans k' (U := []) (by simp) (by simp)).cell (hcell _ _ g2) (by simp), by rw [Nat.add_assoc]; exact (hk13.trans k' (U := []) (by simp) (by simp)).cell (hcell _ _ g3) (by simp)⟩
                  have HS := Lib.hid hS; clear hS
                  have HKX := Lib.hid hkx; clear hkx
                  clear hcell g1 g2 g3 hval
                  have hbt := fun w' => big2 (x.top.size : Int) w' (by omega) (by omega)
                  have hmt : (x.top.size : Int) % 65536 = x.top.size := by omega
                  rw [hmt] at hbt
                  have HBT := Lib.hid hbt; clear hbt hmt
                  have hvn := own_len hown
                  subst hvn
                  have HOW := Lib.hid (And.intro hown (And.intro hfv hkw)); clear hown hfv hkw
                  have hsw := HOW.out.2.2.size
                  go_upto_region 13 with fail
                  go_cut [12] (fun v wx => ∃ n1 a1 c1, v = .slice a1 n1 c1 ∧ wx.ownsRow 0 5 1 v n1 (be32 L.length ++ (L.take k).flatMap encShr ++ encStr x.top) ∧ n1 ≤ 4 + 200 * k + 52 ∧ Fresh w3 v ∧ Kept [] w3 wx)
                  case first =>
                    go_region_held3 (fun w' => w'.cell? ⟨g, off + k * 3 + 1, none⟩ = some (.string x.top))
                      (first | exact (HS.out _ HOW.out.2.2.drew).1 | exact (HS.out _ hk5').1 | exact (HS.out _ hk7').1 | exact (HS.out _ hk9').1 | fail)
                      (first
                        | (go_at_call 22
                           refine (HBT.out _).mono ?_
                           rintro e w5 ⟨v5, rfl, hown5, hk5, hf5⟩
                           have hk5' : Kept [] w3 w5 := HOW.out.2.2.trans hk5.of_drew (by simp) (by simp)
                           have hsl5 := own_sl hown5 (be16_one _)
                           have hoc5 := own_kept HOW.out.1 hk5.of_drew (by simp)
                           obtain ⟨v5a, v5n, v5c, rfl⟩ := own_form hown5
                           have HSR5 := Lib.hid (hsl5.src (P := Tryz.prog) Tryz.underlying28)
                           have HOC5 := Lib.hid hoc5; clear hoc5 hsl5 hown5)
                        | (refine sl_app (v := .slice va vn vc) (xv := .slice v5a v5n v5c) rfl rfl elU8 rfl rfl HOC5.out HSR5.out (by omega) (by omega) ?_
                           intro v7 w7 hown7 hk7 hd7
                           obtain ⟨hf7, hk7'⟩ := app_step HOW.out.2.1 hk5' hk7 hd7
                           obtain ⟨v7a, v7n, v7c, rfl⟩ := own_form hown7
                           have HOC7 := Lib.hid hown7; clear hown7)
                        | (refine sl_app (v := .slice v7a v7n v7c) (xv := .string x.top) rfl rfl elU8 rfl rfl HOC7.out (Src.ofString _ Tryz.underlying9 _) (by omega) (by omega) ?_
                           intro v9 w9 hown9 hk9 hd9
                           obtain ⟨hf9, hk9'⟩ := app_step hf7 hk7' hk9 hd9)
                        | fail)
                    obtain ⟨v9a, v9n, v9c, rfl⟩ := own_form hown9
                    have hl9 := own_len hown9
                    have HE := Lib.hid (And.intro hown9 (And.intro hl9 (And.intro hf9 hk9'))); clear hown9 hl9 hf9 hk9'
                    go_wp2_with fail
                    go_meet
                    obtain ⟨e1, e2, e3, e4⟩ := HE.out
                    refine ⟨v9n, v9a, v9c, rfl, ?_, by omega, e3, e4⟩
                    rw [← e2] at e1
                    simpa [encStr, List.append_assoc] using e1
                  case rest =>
                    obtain ⟨n1, a1, c1, rfl, hown1, hn1, hf1, hk1c⟩ := hcut
                    have hbp := fun w' => big4 (x.parts.length : Int) w' (by omega) (by omega)
                    have hpt : (x.parts.length : Int) % 4294967296 = x.parts.length := by omega
                    rw [hpt] at hbp
                    have HBP := Lib.hid hbp; clear hbp hpt
                    have HW1 := Lib.hid (And.intro hown1 (And.intro hf1 hk1c))
                    have cc2 := (HS.out _ hk1c).2
                    clear hown1 hf1 hk1c
                    go_upto_region 15 with (first
                      | (go_at_call 22
                         refine (HBP.out _).mono ?_
                         rintro e w5 ⟨v5, rfl, hown5, hk5, hf5⟩
                         have hk5' : Kept [] w3 w5 := HW1.out.2.2.trans hk5 (by simp) (by simp)
                         have hsl5 := own_sl hown5 (be32_one _)
                         have hoc5 := own_kept HW1.out.1 hk5 (by simp)
                         obtain ⟨v5a, v5n, v5c, rfl⟩ := own_form hown5
                         have HSR5 := Lib.hid (hsl5.src (P := Tryz.prog) Tryz.underlying28)
                         have HOC5 := Lib.hid hoc5; clear hoc5 hsl5 hown5)
                      | (refine wl_app (v := .slice a1 n1 c1) (xv := .slice v5a v5n v5c) rfl rfl elU8 rfl rfl HOC5.out HSR5.out (by omega) (by omega) ?_
                         intro v7 w7 hown7 hk7 hd7
                         obtain ⟨hf7, hk7'⟩ := app_step HW1.out.2.1 hk5' hk7 hd7
                         obtain ⟨v7a, v7n, v7c, rfl⟩ := own_form hown7
                         have cc7 := (HS.out _ hk7').2
                         have HW7 := Lib.hid (And.intro hown7 (And.intro hf7 hk7')); clear hown7 hf7 hk7' hk7 hd7 hk5 hk5' hf5)
                      | fail)
                    go_wp2_with fail
                    go_loopw [12, 14] (fun v i wr => ∃ j n2 : Nat, j ≤ x.parts.length ∧ i = .int .i64 j ∧ wr.ownsRow 0 5 1 v n2 (be32 L.length ++ (L.take k).flatMap encShr ++ encStr x.top ++ be32 x.parts.length ++ be32s (x.parts.take j)) ∧ n2 ≤ 4 + 200 * k + 56 + 4 * j ∧ Fresh w3 v ∧ Kept [] w3 wr) (fun _ i _ => x.parts.length - (intOf i).toNat)
                    case atStart =>
                      have hl7 := own_len HW7.out.1
                      refine ⟨0, v7n, Nat.zero_le _, rfl, ?_, by omega, HW7.out.2.1, HW7.out.2.2⟩
                      have := HW7.out.1
                      rw [← hl7] at this
                      simpa [be32s] using this
                    case round =>
                      obtain ⟨j, n2, hj, rfl, hown, hn2', hfv, hkr⟩ := hrel
                      obtain ⟨ra, rn, rc, rfl⟩ := own_form hown
                      have cr2 := (HS.out _ hkr).2
                      by_cases hjl : j < x.parts.length
                      · obtain ⟨y, hy⟩ : ∃ y, x.parts[j]? = some y := ⟨_, List.getElem?_eq_getElem hjl⟩
                        obtain ⟨_, hps, hpb⟩ := HPT.out
                        have hyb := hpb y (List.mem_of_getElem? hy)
                        have hy1 : -2147483648 ≤ y := hyb.1
                        have hy2 : y ≤ 2147483647 := hyb.2
                        obtain ⟨_, hpc⟩ := hps.cases
                        rcases hpc with ⟨_, h0, _⟩ | ⟨g2, off2, hpa, hcell2⟩
                        · omega
                        subst hpa
                        have cy : wr.cell? ⟨g2, off2 + j, none⟩ = some (.int .i32 y) := (hk13.trans hkr (U := []) (by simp) (by simp)).cell (hcell2 j _ (by simp [i32s, hy])) (by simp)
                        have hby := big4 y wr (by omega) (by omega)
                        have HBY := Lib.hid hby; clear hby
                        have HY := Lib.hid hy; clear hy
                        have HOR := Lib.hid (And.intro hown (And.intro hfv hkr)); clear hown hfv hkr
                        have hj1 : (j : Int) + 1 ≤ 1000 := by omega
                        clear hcell2 hps hpb hyb
                        go_wp2_with (first
                          | (go_at_call 22
                             refine HBY.out.mono ?_
                             rintro e w8 ⟨v8, rfl, hown8, hk8, hf8⟩
                             have hk8' : Kept [] w3 w8 := HOR.out.2.2.trans hk8 (by simp) (by simp)
                             have hsl8 := own_sl hown8 (be32_one _)
                             have hoc8 := own_kept HOR.out.1 hk8 (by simp)
                             obtain ⟨v8a, v8n, v8c, rfl⟩ := own_form hown8
                             have HSR8 := Lib.hid (hsl8.src (P := Tryz.prog) Tryz.underlying28)
                             have HOC8 := Lib.hid hoc8; clear hoc8 hsl8 hown8)
                          | (refine wl_app (v := .slice ra rn rc) (xv := .slice v8a v8n v8c) rfl rfl elU8 rfl rfl HOC8.out HSR8.out (by omega) (by omega) ?_
                             intro v9 w9 hown9 hk9 hd9
                             obtain ⟨hf9, hk9'⟩ := app_step HOR.out.2.1 hk8' hk9 hd9
                             have HW9 := Lib.hid (And.intro hown9 (And.intro hf9 hk9')); clear hown9 hf9 hk9' hk9 hd9 hk8 hk8' hf8)
                          | fail)
                        go_roundw
                        case rel =>
                          refine ⟨j + 1, n2 + 4, by omega, by go_num, ?_, by omega, HW9.out.2.1, HW9.out.2.2⟩
                          rw [be32s_take _ _ _ HY.out, ← List.append_assoc]
                          exact HW9.out.1
                        case measure => simp [intOf]; omega
                      · have hjN : j = x.parts.length := by omega
                        subst hjN
                        rw [List.take_length] at hown
                        have hown' : wr.ownsRow 0 5 1 (.slice ra rn rc) n2 (be32 L.length ++ (L.take (k + 1)).flatMap encShr) := by
                          obtain ⟨hk', hx'⟩ := List.getElem?_eq_some_iff.1 HKX.out
                          rw [List.take_succ_eq_append_getElem hk', hx', List.flatMap_append]
                          simpa [encShr, encInts, List.append_assoc] using hown
                        have HE := Lib.hid (And.intro hown' (And.intro hfv hkr)); clear hown hown' hfv hkr
                        go_wp2_with fail
                        go_roundw
                        case rel => exact ⟨k + 1, n2, by omega, by go_num, HE.out.1, by omega, HE.out.2.1, HE.out.2.2⟩
                        case measure => simp [intOf]; omega
                · have hkN : k = L.length := by omega
                  subst hkN
                  rw [List.take_length] at hown
                  have HE := Lib.hid (And.intro hown (And.intro hfv hkw)); clear hown hfv hkw
                  go_wp2_with fail
                  go_meet
                  exact ⟨n, HE.out.1, by omega, HE.out.2.1, HE.out.2.2⟩
            case rest =>
              obtain ⟨n, hownc, hnc, hfc, hkc⟩ := hcut
              obtain ⟨vva, vvn, vvc, rfl⟩ := own_form hownc
              have hbg := big4 gen wc (by unfold isI32 at hg; omega) (by unfold isI32 at hg; omega)
              have HBG := Lib.hid hbg; clear hbg
              have HOC := Lib.hid (And.intro hownc (And.intro hfc hkc)); clear hownc hfc hkc
              have hg1 : -2147483648 ≤ gen := hg.1
              have hg2 : gen ≤ 2147483647 := hg.2
              have hal5 := HAL.out
              have HA5 := Lib.hid hal5; clear hal5
              go_upto_region 20 with (first
                | (go_at_call 22
                   refine HBG.out.mono ?_
                   rintro e w6 ⟨v6, rfl, hown6, hk6, hf6⟩
                   have hsl6 := own_sl hown6 (be32_one _)
                   have hoc6 := own_kept HOC.out.1 hk6 (by simp)
                   obtain ⟨v6a, v6n, v6c, rfl⟩ := own_form hown6
                   have HSR6 := Lib.hid (hsl6.src (P := Tryz.prog) Tryz.underlying28)
                   have HOC6 := Lib.hid hoc6; clear hoc6 hsl6)
                | (refine wl_app (v := .slice vva vvn vvc) (xv := .slice v6a v6n v6c) rfl rfl elU8 rfl rfl HOC6.out HSR6.out (by omega) (by omega) ?_
                   intro v7 w7 hown7 hk7 hd7)
                | fail)
              have hdl : cs = be32 L.length ++ L.flatMap encShr ++ be32 (gen % 4294967296) := by
                obtain ⟨hD, hda, _⟩ := HDA.out
                rcases hda with ⟨h, _⟩ | ⟨_, L', hp, rfl⟩
                · omega
                · have hlen : D.length = L.length := by have := congrArg List.length hD; simpa [tops2] using this
                  have hL' : L' = D := by
                    match D, hlen, hp with
                    | [], _, hp => exact List.perm_nil.1 hp
                    | [x], _, hp => exact List.perm_singleton.1 hp
                    | _ :: _ :: _, h2, _ => simp at h2; omega
                  subst hL'
                  unfold encV1
                  rw [encTs_tops hD, hlen]
                  rfl
              obtain ⟨hownc, hfc, hkc⟩ := HOC.out
              obtain ⟨_, _, hsl, _⟩ := HDA.out
              have hk37 : Kept [] w3 w7 := (hkc.trans hk6 (U := []) (by simp) (by simp)).trans hk7 (by simp) (fun y hy hl => by simp only [Option.mem_toList] at hy; have := hfc y hy; omega)
              have hu8 : ∀ u ∈ cs, ∃ x, u = .int .u8 x := by rw [hdl]; exact all_u8 L gen
              have hcs1 : 1 ≤ cs.length := by rw [hdl]; simp [be32]
              obtain rfl : un = cs.length := by
                rcases hsl.2.2 with ⟨a', c', e, h⟩ | ⟨b', o', c', e, _⟩
                · cases e; omega
                · cases e; rfl
              obtain ⟨v7a, v7n, v7c, rfl⟩ := own_form hown7
              have hl7 := own_len hown7
              have hsl7 := own_sl hown7 (by rw [← hdl]; exact hsl.2.1)
              rw [← hl7, ← hdl] at hsl7
              have h7n : 1 ≤ v7n := by have := hsl7.1; omega
              have hcv : ∀ w', Kept [] w7 w' → (convert 28 9 (.slice ua cs.length uc)).run Tryz.prog w' = .ok (.string (strOfNums (cs.map numOf))) w' ∧ (convert 28 9 (.slice v7a v7n v7c)).run Tryz.prog w' = .ok (.string (strOfNums (cs.map numOf))) w' := fun w' k' =>
                ⟨conv_sl (hsl.kept (hk37.trans k' (U := []) (by simp) (by simp)) (by simp)) hcs1 hu8, conv_sl (hsl7.kept k' (by simp)) h7n hu8⟩
              have HCV := Lib.hid hcv; clear hcv
              have HK37 := Lib.hid hk37; clear hk37
              clear hsl hsl7 hl7 hown7 hdl hu8 hownc hfc hkc hk6 hk7 hd7
              go_wp2_with (first
                | (go_at_call 14
                   refine (HA5.out w7).mono ?_
                   rintro e w8 ⟨rfl, hk8⟩
                   obtain ⟨hcA, hcB⟩ := HCV.out w8 hk8)
                | fail)
              go_ret
              exact ⟨rfl, (hk13.trans HK37.out (U := []) (by simp) (by simp)).trans hk8 (by simp) (by simp)⟩
          · have hn2i : ¬ ((s : Int) % 3 = 2) := by omega
            obtain ⟨_, rfl⟩ : s % 3 ≠ 2 ∧ cs = [] := by
              rcases hda with h | ⟨h, _⟩
              · exact h
              · omega
            obtain rfl : un = 0 := by
              rcases hsl.2.2 with ⟨a', c', e, h⟩ | ⟨b', o', c', e, _⟩
              · cases e; rfl
              · cases e; rfl
            clear hda hD hsl hu
            go_wp2_with (first | (go_at_call 14; refine HA3.out.mono ?_; rintro e w4 ⟨rfl, hk4⟩) | fail)
            go_ret
            exact ⟨rfl, hk13.trans hk4 (by simp) (by simp)⟩
      all_goals
        have hk12 : Kept [] w w2 := hk1.trans hk2 (by simp) (by simp)
        have hal := HAL.out w2
        have HA2 := Lib.hid hal; clear hal
        go_wp2_with (first | (go_at_call 14; refine HA2.out.mono ?_; rintro e w3 ⟨rfl, hk3⟩) | fail)
        go_ret
        exact ⟨rfl, hk12.trans hk3 (by simp) (by simp)⟩

theorem law_data_row (x0 : Int) (mem : ByteArray) (a : Option Addr) (c : Nat) (L : List Shr) (gen : Int) (w : World) (h0 : (Lit.int .u8 x0).wf = true) (_ : mem.data.toList.length ≤ maxLen) (hv : ShrsAt w (.slice a L.length c) L) (hL : L.length ≤ maxLen)
    (_ : ∀ z ∈ L, z.mem.size ≤ maxLen ∧ z.top.size ≤ maxLen ∧ z.parts.length ≤ maxLen) (h3 : (Lit.int .i32 gen).wf = true) :
    Calls Tryz.prog 4 #[.int .u8 x0, .string mem, .slice a L.length c, .int .i32 gen] w fun e w' => e = .returned (.bool true) ∧ Kept [] w w' := by
  simp [Lit.wf, IntKind.min, IntKind.max, IntKind.signed, IntKind.bits] at h0 h3
  obtain ⟨s, rfl⟩ := Int.eq_ofNat_of_zero_le (show 0 ≤ x0 by omega)
  exact law_data s (by omega) mem a c L gen w hv hL (by unfold isI32; omega)
end Go.Proofs.YticcnlpfmekagaaGreat
