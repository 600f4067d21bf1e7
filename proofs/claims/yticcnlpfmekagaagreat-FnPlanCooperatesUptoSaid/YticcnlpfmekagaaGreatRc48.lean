/- Part 48 of the proof of the row: Range2, Alive, LawRnd, CntW. -/
import Derived.Test.YticcnlpfmekagaaGreatRc00
import Derived.Test.YticcnlpfmekagaaGreatRc47
import Derived.Test.YticcnlpfmekagaaGreatRc44
set_option linter.unusedVariables false
set_option linter.unusedSimpArgs false
set_option maxRecDepth 100000
set_option maxHeartbeats 8000000
namespace Go.Proofs.YticcnlpfmekagaaGreat
section
open Go Go.Proofs Go.RowKit
theorem uniq_one (a : Option Addr) (c : Nat) (w : World) : Calls Tryz.prog 183 #[.slice a 1 c] w fun e w' => e = .returned (.slice a 1 c) ∧ w = w' := by
 have h184 : ∀ w : World, Calls Tryz.prog 184 #[.slice a 1 c] w fun e w' => e = .returned (.int .i64 1) ∧ w = w' := by
  intro w
  go_enter Tryz.func184, Tryz.ntmps184
  go_wp2
  go_ret
  exact ⟨rfl, rfl⟩
 have H := Zhd h184; clear h184
 go_enter Tryz.func183, Tryz.ntmps183
 go_wp2_with (go_at_call 184; refine (H.out _).mono ?_; rintro e w1 ⟨rfl, rfl⟩)
 go_ret
 exact ⟨rfl, rfl⟩
theorem planMeth0 : IsMeth 160 "Plan" 182 := ⟨fun a w => by kernel_rfl, fun a w => by kernel_rfl, fun a w => by kernel_rfl⟩
def OnePlan (m t : ByteArray) (P : PL) : Prop := ∃ r u, P = [(m, r, [(t, u, [0, 1])])]
theorem planC_range (w : World) (m : Mem) (tp : ByteArray) (Ts : List Shr) (hm : m.tops = [tp]) (hTs : Ts.map topOf = [(tp, [0, 1])]) : PlanC 0 182 w [m] Ts (OnePlan m.id tp) := by
 intro w1 rm rt sp MU D hkw hMU hmet hT hD h1 h2 h3 h4 hmo hfr hcap hsp
 obtain ⟨u, rfl⟩ : ∃ u, MU = [(m, u)] := by
  cases MU with
  | nil => simp at hMU
  | cons x MU => simp at hMU; obtain ⟨rfl, rfl⟩ := hMU; exact ⟨x.2, rfl⟩
 obtain ⟨val, rfl⟩ : ∃ val, D = [(tp, val, [0, 1])] := by
  rw [hTs] at hD
  cases D with
  | nil => simp [tops2] at hD
  | cons x D =>
    simp [tops2] at hD
    obtain ⟨⟨e1, e2⟩, rfl⟩ := hD
    obtain ⟨x1, x2, x3⟩ := x
    simp at e1 e2
    subst e1 e2
    exact ⟨_, rfl⟩
 obtain ⟨va, vc, hval, hvc⟩ := hcap _ (List.mem_cons_self ..)
 simp only at hval hvc
 subst hval
 obtain ⟨tv, dv, rk, hu, ⟨ra, rfl⟩, htv, hdv, ht1, ht2⟩ := (hmet.each _ (List.mem_cons_self ..)).ex
 simp only at hu htv hdv
 subst hu
 rw [hm] at htv
 obtain ⟨⟨ta, tc, rfl⟩, htsl⟩ := htv
 obtain ⟨da, dn, dc, rfl⟩ := hdv.form
 simp only [List.length_cons, List.length_nil, Nat.zero_add] at *
 have hmapM : MapAt w1 isStr rm [(.string m.id, Value.agg #[.int .i16 m.ver, .slice ta 1 tc, .slice da dn dc, .slice none 0 0, .int .i32 m.gen, .pointer ra])] := hmet.map
 have htc : ∃ gt ot, ta = some ⟨gt, ot, none⟩ ∧ w1.cell? ⟨gt, ot, none⟩ = some (.string tp) := by
  obtain ⟨_, hcase⟩ := htsl.cases
  rcases hcase with ⟨_, h0, _⟩ | ⟨g', off, h, hcell⟩
  · simp at h0
  · exact ⟨g', off, h, by simpa using hcell 0 (.string tp) rfl⟩
 obtain ⟨gt, ot, rfl, hcell⟩ := htc
 have hsp0 : w1.cell? ⟨sp, 0, none⟩ = some (.func (.func 90) #[] #[]) := (cells_of hsp).1 0 _ rfl
 have hslp := hT.parts _ (List.mem_cons_self ..)
 have hmapT : MapAt w1 isStr rt [(.string tp, .slice va 2 vc)] := hT.map
 have HT := Zhd (Zan hslp hmapT)
 have HM := Zhd hmapM
 have HFR := Zhd (hfr _ (List.mem_cons_self ..))
 clear hmet hT hD hmo hfr hcap htsl ht1 ht2 hdv hslp hsp hMU hkw
 have hmm := @run_makeMap Tryz.prog
 go_enter Tryz.func182, Tryz.ntmps182
 go_upto_region 2 with fail
 go_wp2_with (refine wl_range rfl rfl rfl Tryz.underlying74 (HM.out.alloc _) ?_; intro w2 hit2 hmap2 hk2 hsz2)
 try go_frame
 have hq2 : MapAt w2 isStr w1.heap.size [] := (MapAt.new w1 isStr).kept hk2 (by simp)
 have hk12 : Kept [] w1 w2 := ((Kept.refl [] w1).alloc _).trans hk2 (by simp) (by simp)
 have hsz2' : w2.heap.size = w1.heap.size + 2 := by rw [hsz2]; simp
 have hrl := HM.out.lt
 have hitr : w1.heap.size + 1 ≠ rm := by omega
 go_loopw [9] (fun _ wr => (IterAt wr (w1.heap.size + 1) rm [(.string m.id, Value.agg #[.int .i16 m.ver, .slice (some ⟨gt, ot, none⟩) 1 tc, .slice da dn dc, .slice none 0 0, .int .i32 m.gen, .pointer ra])] [(.string m.id, Value.agg #[.int .i16 m.ver, .slice (some ⟨gt, ot, none⟩) 1 tc, .slice da dn dc, .slice none 0 0, .int .i32 m.gen, .pointer ra])] ∧ MapAt wr isStr w1.heap.size [] ∧ Kept [] w1 wr ∧ w1.heap.size + 2 ≤ wr.heap.size) ∨
  (IterAt wr (w1.heap.size + 1) rm [(.string m.id, Value.agg #[.int .i16 m.ver, .slice (some ⟨gt, ot, none⟩) 1 tc, .slice da dn dc, .slice none 0 0, .int .i32 m.gen, .pointer ra])] [] ∧ ∃ nv, MapAt wr isStr w1.heap.size [(.string tp, nv)] ∧ wr.ownsRow 0 9 1 nv 1 (strs [m.id]) ∧ (∀ g, nv.ownBlock = some g → w1.heap.size + 1 < g ∧ g < wr.heap.size) ∧ Kept [] w1 wr ∧ w1.heap.size + 2 ≤ wr.heap.size)) (fun _ wr => leftOf wr (w1.heap.size + 1) rm)
 case atStart => exact .inl ⟨by simpa using hit2, hq2, hk12, by omega⟩
 case round =>
  rcases hrel with ⟨hit, hq, hk, hsz⟩ | ⟨hit, nv, hq, hown, hnv, hk, hsz⟩
  · have hct := hk.cell hcell (by simp)
    have HQ := Zhd hq; clear hq
    have HK := Zhd hk; clear hk
    go_wp2_with (first
     | (refine wl_next1 rfl rfl rfl hit hitr (by simp) ?_
        intro k v l1 l2 w3 hsplit hit3 hent hk3 hsz3
        obtain ⟨rfl, rfl, rfl, rfl⟩ : l1 = [] ∧ l2 = [] ∧ k = .string m.id ∧ v = Value.agg #[.int .i16 m.ver, .slice (some ⟨gt, ot, none⟩) 1 tc, .slice da dn dc, .slice none 0 0, .int .i32 m.gen, .pointer ra] := by
         cases l1 with
         | nil => simp at hsplit; exact ⟨rfl, hsplit.2, hsplit.1.1.symm, hsplit.1.2.symm⟩
         | cons x l1 => simp at hsplit
        clear hsplit
        have hk13 : Kept [] w1 w3 := HK.out.trans hk3 (by simp) (by simp)
        have hgtl := World.block_lt_of_cell? w1 _ hcell
        have hgt : gt ≠ w1.heap.size + 1 := by simp only at hgtl; omega
        have hctA : ∀ o, (w3.alloc o).cell? ⟨gt, ot, none⟩ = some (.string tp) := fun o => ca (hk3.cell hct (by simpa using hgt))
        have hqA : ∀ o, MapAt (w3.alloc o) isStr w1.heap.size [] := fun o => (HQ.out.kept hk3 (by simp)).alloc o
        have HQA := Zhd hqA; clear hqA)
     | (refine wl_entry rfl rfl rfl hent ?_)
     | fail)
    have hlk := map_lookup_miss (P := Tryz.prog) (HQA.out (.cells #[.int .i16 m.ver, .slice (some ⟨gt, ot, none⟩) 1 tc, .slice da dn dc, .slice none 0 0, .int .i32 m.gen, .pointer ra] 78)) (keyT_str Tryz.underlying9) Tryz.underlying327 (k := .string tp) ⟨_, rfl⟩ (by simp) (Tryz.zeroValue27 _) false
    simp only [Bool.false_eq_true, if_false] at hlk
    have hctA' := hctA (.cells #[.int .i16 m.ver, .slice (some ⟨gt, ot, none⟩) 1 tc, .slice da dn dc, .slice none 0 0, .int .i32 m.gen, .pointer ra] 78)
    clear hctA
    go_loopw [28] (fun i wr' => (i = .int .i64 0 ∧ wr' = w3.alloc (.cells #[.int .i16 m.ver, .slice (some ⟨gt, ot, none⟩) 1 tc, .slice da dn dc, .slice none 0 0, .int .i32 m.gen, .pointer ra] 78)) ∨
     (i = .int .i64 1 ∧ ∃ nv, MapAt wr' isStr w1.heap.size [(.string tp, nv)] ∧ wr'.ownsRow 0 9 1 nv 1 (strs [m.id]) ∧ (∀ g, nv.ownBlock = some g → w1.heap.size + 1 < g ∧ g < wr'.heap.size) ∧ Kept [w1.heap.size] w3 wr')) (fun i _ => 1 - (intOf i).toNat)
    case atStart => exact .inl ⟨rfl, rfl⟩
    case round =>
     rcases hrel with ⟨rfl, rfl⟩ | ⟨rfl, nv, hmn, hown, hnv, hkn⟩
     · go_wp2_with (first
        | (refine wl_build1 (x := .string m.id) rfl rfl rfl (build_str m.id _) ?_)
        | (refine wl_app (v := .slice none 0 0) rfl rfl elStr rfl rfl (own_nil _ _) ((new_sl1 _ _ _ rfl).src Tryz.underlying27) (by omega) (by omega) ?_
           intro nv w5 hown5 hk5 hd5
           have hk5' : Kept [] (((w3.alloc (.cells #[.int .i16 m.ver, .slice (some ⟨gt, ot, none⟩) 1 tc, .slice da dn dc, .slice none 0 0, .int .i32 m.gen, .pointer ra] 78)).alloc (.cells #[.string m.id] 9))) w5 := by simpa [Value.ownBlock] using hk5
           have hm5 := ((HQA.out (.cells #[.int .i16 m.ver, .slice (some ⟨gt, ot, none⟩) 1 tc, .slice da dn dc, .slice none 0 0, .int .i32 m.gen, .pointer ra] 78)).alloc (.cells #[.string m.id] 9)).kept hk5' (by simp))
        | (refine wl_update (kv := .string tp) (vv := nv) rfl rfl rfl rfl rfl (keyT_str Tryz.underlying9) Tryz.underlying327 hm5 ⟨_, rfl⟩ ?_
           intro w6 hm6 hk6 hs6)
        | fail)
       rw [putE_miss (by simp), List.nil_append] at hm6
       have hs3 := hk3.size
       have hs5 := hk5.size
       simp only [World.size_alloc] at hs5 hd5
       have hk36 : Kept [w1.heap.size] w3 w6 := ((((Kept.refl [] w3).alloc _).alloc _).trans hk5' (U := []) (by simp) (by simp)).trans hk6 (by simp) (by simp)
       have hnv : ∀ g, nv.ownBlock = some g → w1.heap.size + 1 < g ∧ g < w6.heap.size := by
        intro g hg
        rcases hd5 with ⟨e1, _⟩ | ⟨e1, e2⟩
        · rw [e1] at hg; simp [Value.ownBlock] at hg
        · rw [e1] at hg; simp only [Option.some.injEq] at hg; omega
       have hown6 : w6.ownsRow 0 9 1 nv 1 (strs [m.id]) := by
        have := own_kept hown5 hk6 (fun g hg => by have := hnv g hg; simp; omega)
        simpa [strs] using this
       exact ⟨.inr ⟨rfl, nv, hm6, hown6, hnv, hk36⟩, by simp [intOf]⟩
     · have HN := Zhd (Zan hmn (Zan hown (Zan hnv hkn))); clear hmn hown hnv hkn
       go_wp2_with fail
       obtain ⟨hmn, hown, hnv, hkn⟩ := HN.out
       have hsn := hkn.size
       have hit' := hit3.kept hkn (by simp) (by simp; omega)
       refine ⟨.inr ⟨hit', nv, hmn, hown, hnv, hk13.trans hkn (by simp) (by simp), by omega⟩, ?_⟩
       rw [hit.leftOf, hit'.leftOf]
       simp
  · have HQ := Zhd (Zan hq (Zan hown (Zan hnv hk))); clear hq hown hnv hk
    have hlen : ∀ w', MapAt w' isStr rm [(.string m.id, Value.agg #[.int .i16 m.ver, .slice (some ⟨gt, ot, none⟩) 1 tc, .slice da dn dc, .slice none 0 0, .int .i32 m.gen, .pointer ra])] → _ := fun w' h' => map_len (P := Tryz.prog) h' Tryz.underlying74 3
    have hl0 := hlen wr (HM.out.kept HQ.out.2.2.2 (by simp))
    clear hlen
    simp only [List.length_cons, List.length_nil] at hl0
    have hmk : ∀ w : World, (Instr.makeMap 82 (some (.int .i64 1))).run Tryz.prog w = .ok (.map (some w.heap.size)) (w.alloc (.map #[] 0)) := fun w => by
     simp [Instr.makeMap, go_sem]
    go_wp2_with (first
     | (refine wl_next0 rfl rfl rfl hit hitr ?_)
     | (refine wl_range rfl rfl rfl Tryz.underlying327 (HQ.out.1.alloc _) ?_; intro w3 hit3 hmap3 hk3 hsz3)
     | fail)
    obtain ⟨wB, rfl⟩ : ∃ wB, wB = wr := ⟨_, rfl⟩
    have hsz3' : w3.heap.size = wB.heap.size + 2 := by rw [hsz3]; simp
    have hkr3 : Kept [] wB w3 := ((Kept.refl [] wB).alloc _).trans hk3 (by simp) (by simp)
    have hp3 : MapAt w3 isStr wB.heap.size [] := (MapAt.new wB isStr).kept hk3 (by simp)
    obtain ⟨na, nn, nc, rfl⟩ := own_form HQ.out.2.1
    obtain rfl := own_len HQ.out.2.1
    have hql := HQ.out.1.lt
    have hitq : wB.heap.size + 1 ≠ w1.heap.size := by omega
    have HI3 := Zhd hit3; clear hit3
    have hite : (wB.alloc (.map #[] 0)).heap.size = wB.heap.size + 1 := by simp
    generalize (wB.alloc (.map #[] 0)).heap.size = it2 at *
    subst hite
    go_frame
    go_loopw [15] (fun _ wx => (IterAt wx (wB.heap.size + 1) w1.heap.size [(.string tp, .slice na 1 nc)] [(.string tp, .slice na 1 nc)] ∧ MapAt wx isStr wB.heap.size [] ∧ Kept [] wB wx ∧ wB.heap.size + 2 ≤ wx.heap.size) ∨
     (IterAt wx (wB.heap.size + 1) w1.heap.size [(.string tp, .slice na 1 nc)] [] ∧ (∃ r u, PlanAt wx wB.heap.size [(m.id, r, [(tp, u, [0, 1])])] ∧ wB.heap.size ≤ r ∧ (∀ g, u.ownBlock = some g → wB.heap.size ≤ g ∧ g < wx.heap.size)) ∧ Kept [] w1 wx)) (fun _ wx => leftOf wx (wB.heap.size + 1) w1.heap.size)
    case atStart => exact .inl ⟨HI3.out, hp3, hkr3, by omega⟩
    case round =>
     rcases hrel with ⟨hit4, hp4, hk4, hsz4⟩ | ⟨hit4, hpost, hk4⟩
     · have hsrt : w1.cell? ⟨sp, 0, none⟩ = some (.func (.func 90) #[] #[]) := hsp0
       have HP4 := Zhd (Zan hp4 hk4); clear hp4 hk4
       go_upto_region 15 with (first
        | (refine wl_next1 rfl rfl rfl hit4 hitq (by simp) ?_
           intro k v l1 l2 w5 hsplit hit5 hent hk5 hsz5
           obtain ⟨rfl, rfl, rfl, rfl⟩ : l1 = [] ∧ l2 = [] ∧ k = .string tp ∧ v = .slice na 1 nc := by
            cases l1 with
            | nil => simp at hsplit; exact ⟨rfl, hsplit.2, hsplit.1.1.symm, hsplit.1.2.symm⟩
            | cons x l1 => simp at hsplit
           clear hsplit)
        | (refine wl_entry rfl rfl rfl hent ?_)
        | fail)
       have hk15 : Kept [] w1 w5 := (HQ.out.2.2.2.trans HP4.out.2 (U := []) (by simp) (by simp)).trans hk5 (by simp) (by simp; omega)
       have hSx : ∀ w', Kept [] w5 w' → w'.cell? ⟨sp, 0, none⟩ = some (.func (.func 90) #[] #[]) ∧ MapAt w' isStr rt [(.string tp, .slice va 2 vc)] := fun w' k' =>
        ⟨(hk15.trans k' (U := []) (by simp) (by simp)).cell hsp0 (by simp), HT.out.2.kept (hk15.trans k' (U := []) (by simp) (by simp)) (by simp)⟩
       have hcore : ∀ w', Kept [] w5 w' → _ := fun w' k' => range_core wB.heap.size m.id tp (.slice na 1 nc) va vc w' ((HP4.out.1.kept hk5 (by simp)).kept k' (by simp)) (SlInts.kept HT.out.1 (hk15.trans k' (U := []) (by simp) (by simp)) (by simp)) hvc
        (own_kept (own_kept (own_kept HQ.out.2.1 HP4.out.2 (by simp)) hk5 (fun g hg => by have := HQ.out.2.2.1 g hg; simp; omega)) k' (by simp))
        (fun g hg => ⟨by have := HQ.out.2.2.1 g hg; omega, fun g' hg' => by
          have h1 := HQ.out.2.2.1 g hg
          have h2 : (Value.slice va (1 + 1) vc).ownBlock = some g' := by cases va with
           | none => simp at hg'
           | some x => simpa [Value.ownBlock] using hg'
          have h3 := HFR.out g' h2
          omega⟩)
       have hlk : ∀ w', MapAt w' isStr rt [(.string tp, .slice va 2 vc)] → (Instr.lookup 90 (.map (some rt)) (.string tp) false).run Tryz.prog w' = .ok (.slice va 2 vc) w' := fun w' h' => by
        have h1 := map_lookup_hit (P := Tryz.prog) h' (keyT_str Tryz.underlying9) Tryz.underlying90 (k := .string tp) (v := .slice va 2 vc) (by simp) false
        simpa using h1
       have HSX := Zhd hSx; clear hSx
       have HCO := Zhd hcore; clear hcore
       have hun := uniq_one na nc
       have HUN := Zhd hun; clear hun
       go_region_held3 (fun w' => w'.cell? ⟨sp, 0, none⟩ = some (.func (.func 90) #[] #[]) ∧ MapAt w' isStr rt [(.string tp, .slice va 2 vc)])
        (first | exact HSX.out _ (Kept.refl _ _).drew | exact HSX.out _ (Kept.refl _ _).drew.drew | exact hS9 | fail)
        (first
          | (go_at_call 183; refine (HUN.out _).mono ?_; rintro e w6 ⟨rfl, rfl⟩)
          | (go_at_call 90
             refine (HCO.out _ (Kept.refl _ _).drew).mono ?_
             rintro e w9 ⟨rfl, ⟨r, uu, hpl, hr, hu⟩, hk9⟩
             have hno : ∀ x, x < w1.heap.size ∨ x = w1.heap.size ∨ x = wB.heap.size + 1 → x ∉ wB.heap.size :: (Value.slice na 1 nc).ownBlock.toList := fun x hx h => by
              simp only [Zmc, Option.mem_toList] at h
              rcases h with h | h
              · omega
              · have := HQ.out.2.2.1 x h; omega
             have hS9 : w9.cell? ⟨sp, 0, none⟩ = some (.func (.func 90) #[] #[]) ∧ MapAt w9 isStr rt [(.string tp, .slice va 2 vc)] :=
              ⟨hk9.of_drew.cell (HSX.out _ (Kept.refl _ _)).1 (hno _ (.inl (by simp only; omega))), (HSX.out _ (Kept.refl _ _)).2.kept hk9.of_drew (hno _ (.inl (by omega)))⟩)
          | fail)
       all_goals
        have hit9 := hit5.kept hk9.of_drew (hno _ (.inr (.inr rfl))) (hno _ (.inr (.inl rfl)))
        have hs9 := hk9.size
        simp only [World.size_drew] at hs9 hr hu
        have hs45 := hk5.size
        have hk19 : Kept [] w1 w9 := hk15.trans hk9.of_drew (by simp) (fun x hx hl => absurd hx (hno x (.inl hl)))
        have HE := Zhd (Zan hit9 (Zan hpl (Zan hr (Zan hu hk19)))); clear hit9 hpl hr hu hk19
        go_wp2_with fail
        obtain ⟨e1, e2, e3, e4, e5⟩ := HE.out
        refine ⟨.inr ⟨e1, ⟨r, uu, e2, by omega, fun g hg => by have := e4 g hg; omega⟩, e5⟩, ?_⟩
        rw [hit4.leftOf, e1.leftOf]
        simp
     · have HPO := Zhd (Zan hpost hk4); clear hpost hk4
       go_wp2_with (refine wl_next0 rfl rfl rfl hit4 hitq ?_)
       go_ret2
       obtain ⟨⟨r, u, hpl, hr, hu⟩, hk⟩ := HPO.out
       refine ⟨wB.heap.size, _, rfl, hpl, ⟨by omega, fun x hx => ?_⟩, ⟨r, u, rfl⟩, hk.mono (by simp)⟩
       simp only [Zmc, Znn, or_false] at hx
       subst hx
       refine ⟨by simp only; omega, fun y hy g hg => ?_⟩
       simp only [Zmc, Znn, or_false] at hy
       subst hy
       have := hu g hg
       omega
end
section
open Go Go.Proofs Go.RowKit
theorem all_one {cs : List Value} (h : cs.all (·.oneCell') = true) : ∀ u ∈ cs, u.oneCell' = true := fun u hu => (List.all_eq_true.1 h) u hu
theorem row_sl {w : World} {X E n sz : Nat} {cs : List Value} (h : w.heap[X]? = some (.cells cs.toArray E (0, 0))) (hl : cs.length = n * sz) (h1 : ∀ u ∈ cs, u.oneCell' = true) : SlAt w sz (.slice (some ⟨X, 0, none⟩) n n) n cs :=
 ⟨hl, h1, .inr ⟨X, 0, n, rfl, fun j u hj => by rw [Nat.zero_add]; exact (cells_of h).1 j u (by simpa using hj)⟩⟩
theorem one_out {mem tp : ByteArray} {P : PL} {LL : List (List Shr)} (hp : OnePlan mem tp P) (ho : OutOf P (sortedNames [mem]) LL) : ∃ x, LL.flatten = [x] ∧ x.mem = mem ∧ x.top = tp ∧ x.parts = [0, 1] := by
 obtain ⟨r, u, rfl⟩ := hp
 have hs : sortedNames [mem] = [mem] := List.perm_singleton.1 (sortedNames_perm [mem])
 rw [hs] at ho
 obtain ⟨hl, hj⟩ := ho
 obtain ⟨l, rfl⟩ : ∃ l, LL = [l] := by
  match LL, hl with
  | [l], _ => exact ⟨l, rfl⟩
 obtain ⟨r', D, hm, hperm⟩ := hj 0 mem l rfl rfl
 simp only [Zmc, Znn, or_false, Prod.mk.injEq] at hm
 obtain ⟨_, _, rfl⟩ := hm
 have hf : ([(tp, u, [0, 1])] : Tops).filter full = [(tp, u, [0, 1])] := rfl
 rw [hf] at hperm
 have h2 := List.perm_singleton.1 hperm
 have h3 := congrArg List.length h2
 simp only [List.length_map, List.length_cons, List.length_nil] at h3
 obtain ⟨x, rfl⟩ := List.length_eq_one_iff.1 h3
 simp only [List.map_cons, List.map_nil, List.cons.injEq, and_true, trip, tripOf, Prod.mk.injEq] at h2
 exact ⟨x, by simp, h2.1, h2.2.1, h2.2.2⟩
theorem alive_plan (w W : World) (hW : W = ((((w.alloc (.cells #[.string ⟨#[116]⟩] 9)).alloc (.cells #[.string ⟨#[109]⟩, .int .i16 0, .slice (some ⟨w.heap.size, 0, none⟩) 1 1, .slice none 0 0, .slice none 0 0, .int .i32 0, .string ⟨#[]⟩, .bool false] 30)).alloc (.cells #[.int .i32 0, .int .i32 1] 21)).alloc
 (.cells #[.string ⟨#[]⟩, .string ⟨#[116]⟩, .slice (some ⟨w.heap.size + 1 + 1, 0, none⟩) 2 2] 33))) :
 Calls Tryz.prog 18 #[.int .i64 0, .slice (some ⟨w.heap.size + 1, 0, none⟩) 1 1, .slice (some ⟨w.heap.size + 1 + 1 + 1, 0, none⟩) 1 1] W fun e w' =>
  ∃ x a c, e = .returned (.tuple #[.slice a 1 c, .bool true]) ∧ ShrsAt w' (.slice a 1 c) [x] ∧ x.mem = ⟨#[109]⟩ ∧ x.parts = [0, 1] ∧ Kept [] w w' := by
 have hk : Kept [] w W := by subst hW; exact ((((Kept.refl _ _).alloc _).alloc _).alloc _).alloc _
 have hb0 : W.heap[w.heap.size]? = some (.cells #[.string ⟨#[116]⟩] 9 (0, 0)) := by subst hW; exact ha (ha (ha (heap_alloc_new w _)))
 have hb1 : W.heap[w.heap.size + 1]? = some (.cells #[.string ⟨#[109]⟩, .int .i16 0, .slice (some ⟨w.heap.size, 0, none⟩) 1 1, .slice none 0 0, .slice none 0 0, .int .i32 0, .string ⟨#[]⟩, .bool false] 30 (0, 0)) := by
  subst hW; have := heap_alloc_new (w.alloc (.cells #[.string ⟨#[116]⟩] 9)) (.cells #[.string ⟨#[109]⟩, .int .i16 0, .slice (some ⟨w.heap.size, 0, none⟩) 1 1, .slice none 0 0, .slice none 0 0, .int .i32 0, .string ⟨#[]⟩, .bool false] 30)
  rw [World.size_alloc] at this; exact ha (ha this)
 have hb2 : W.heap[w.heap.size + 1 + 1]? = some (.cells #[.int .i32 0, .int .i32 1] 21 (0, 0)) := by
  subst hW; have := heap_alloc_new ((w.alloc (.cells #[.string ⟨#[116]⟩] 9)).alloc (.cells #[.string ⟨#[109]⟩, .int .i16 0, .slice (some ⟨w.heap.size, 0, none⟩) 1 1, .slice none 0 0, .slice none 0 0, .int .i32 0, .string ⟨#[]⟩, .bool false] 30)) (.cells #[.int .i32 0, .int .i32 1] 21)
  rw [World.size_alloc, World.size_alloc] at this; exact ha this
 have hb3 : W.heap[w.heap.size + 1 + 1 + 1]? = some (.cells #[.string ⟨#[]⟩, .string ⟨#[116]⟩, .slice (some ⟨w.heap.size + 1 + 1, 0, none⟩) 2 2] 33 (0, 0)) := by
  subst hW; have := heap_alloc_new (((w.alloc (.cells #[.string ⟨#[116]⟩] 9)).alloc (.cells #[.string ⟨#[109]⟩, .int .i16 0, .slice (some ⟨w.heap.size, 0, none⟩) 1 1, .slice none 0 0, .slice none 0 0, .int .i32 0, .string ⟨#[]⟩, .bool false] 30)).alloc (.cells #[.int .i32 0, .int .i32 1] 21)) (.cells #[.string ⟨#[]⟩, .string ⟨#[116]⟩, .slice (some ⟨w.heap.size + 1 + 1, 0, none⟩) 2 2] 33)
  rw [World.size_alloc, World.size_alloc, World.size_alloc] at this; exact this
 clear hW
 have hms : MemsAt W (.slice (some ⟨w.heap.size + 1, 0, none⟩) 1 1) [⟨⟨#[109]⟩, 0, .slice (some ⟨w.heap.size, 0, none⟩) 1 1, [⟨#[116]⟩], .slice none 0 0, [], .slice none 0 0, [], 0, ⟨#[]⟩, false⟩] := by
  refine ⟨⟨_, _, rfl⟩, row_sl hb1 rfl (all_one rfl), fun m hm => ?_⟩
  simp only [Zmc, Znn, or_false] at hm
  subst hm
  exact ⟨⟨⟨_, _, rfl⟩, row_sl hb0 rfl (all_one rfl)⟩, ⟨⟨_, _, rfl⟩, SlAt.nil _ _⟩, ⟨⟨_, _, rfl⟩, SlAt.nil _ _, by simp⟩⟩
 have hts : ShrsAt W (.slice (some ⟨w.heap.size + 1 + 1 + 1, 0, none⟩) 1 1) [⟨⟨#[]⟩, ⟨#[116]⟩, .slice (some ⟨w.heap.size + 1 + 1, 0, none⟩) 2 2, [0, 1]⟩] := by
  refine ⟨⟨_, _, rfl⟩, row_sl hb3 rfl (all_one rfl), fun x hx => ?_⟩
  simp only [Zmc, Znn, or_false] at hx
  subst hx
  exact ⟨⟨_, _, rfl⟩, row_sl hb2 rfl (all_one rfl), by simp [isI32]⟩
 have h := groupPlan_any 0 (by omega) 182 planMeth0 (some ⟨w.heap.size + 1, 0, none⟩) 1 [⟨⟨#[109]⟩, 0, .slice (some ⟨w.heap.size, 0, none⟩) 1 1, [⟨#[116]⟩], .slice none 0 0, [], .slice none 0 0, [], 0, ⟨#[]⟩, false⟩] (some ⟨w.heap.size + 1 + 1 + 1, 0, none⟩) 1 [⟨⟨#[]⟩, ⟨#[116]⟩, .slice (some ⟨w.heap.size + 1 + 1, 0, none⟩) 2 2, [0, 1]⟩] (OnePlan ⟨#[109]⟩ ⟨#[116]⟩) W hms (by
  intro m hm; simp only [Zmc, Znn, or_false] at hm; subst hm; exact ⟨rfl, rfl, by simp, by simp⟩)
  (by simp [ids]) (by simp) (by simp) hts (by simp) (by simp) (by simp) (fun w' _ => planC_range w' _ _ _ rfl rfl)
  (by
    rintro P ⟨r, u, rfl⟩ m hm
    simp only [Zmc, Znn, or_false] at hm
    subst hm
    exact ⟨r, _, List.mem_cons_self .., by simp, by simp⟩)
 refine h.mono ?_
 rintro e w' ⟨P, LL, a, c, rfl, hp, ho, hsh, _, _, hk2⟩
 obtain ⟨x, hx, h1, _, h3⟩ := one_out hp ho
 rw [hx] at hsh
 exact ⟨x, a, c, by rw [hx]; rfl, hsh, h1, h3, hk.trans hk2 (by simp) (by simp)⟩
theorem alive (w : World) : Calls Tryz.prog 14 #[] w fun e w' => e = .returned (.bool true) ∧ Kept [] w w' := by
 have hp := alive_plan w _ rfl
 have HP := Zhd hp; clear hp
 have hq := partition_alive
 have HQ := Zhd hq; clear hq
 go_enter Tryz.func14, Tryz.ntmps14
 go_wp2_with (first
  | (go_at_call 18
     refine HP.out.mono ?_
     rintro e w1 ⟨x, a, c, rfl, hsh, hm, hparts, hk1⟩
     obtain ⟨-, hcase⟩ := hsh.cells.cases
     obtain ⟨g, off, rfl, hcell⟩ : ∃ g off, a = some ⟨g, off, none⟩ ∧ ∀ j u, ([x].flatMap shrCells)[j]? = some u → w1.cell? ⟨g, off + j, none⟩ = some u := by
      rcases hcase with ⟨_, h0, _⟩ | ⟨g, off, h, hc⟩
      · simp at h0
      · exact ⟨g, off, h, hc⟩
     obtain ⟨⟨pa, pc, hval⟩, -⟩ := hsh.parts x (List.mem_cons_self ..)
     rw [hparts] at hval
     have c0 : w1.cell? ⟨g, off, none⟩ = some (.string ⟨#[109]⟩) := by rw [← hm]; exact hcell 0 _ rfl
     have c2 : w1.cell? ⟨g, off + 2, none⟩ = some (.slice pa 2 pc) := by have := hcell 2 x.val rfl; rw [hval] at this; exact this
     have HC := Zhd (Zan c0 c2); clear c0 c2 hcell hcase hsh hm hparts hval)
  | (go_at_call 38
     refine (HQ.out _).mono ?_
     rintro e w2 ⟨rfl, hk2⟩
     have d0 := hk2.cell HC.out.1 (by simp)
     have d2 := hk2.cell HC.out.2 (by simp)
     have hk12 : Kept [] w w2 := hk1.trans hk2 (by simp) (by simp))
  | fail)
 go_ret
 exact ⟨rfl, hk12⟩
end
section
open Go Go.Proofs Go.RowKit Go.Lib
theorem MemRd.kept0 {w w' : World} {m : Mem} (h : MemRd w m) (k : Kept [] w w') : MemRd w' m := ⟨h.at_.kept0 k, h.id, h.ver, h.gen, h.rack, h.data, h.ln, h.ow, h.tsz⟩
end
section
open Go Go.Proofs Go.RowKit Go.Lib
section
variable {P : Program} {ops : Array Oper} {o : Oper} {a : Act} {w : World} {rest : List Oper} {Q : Exit → Act → World → Prop}
variable {T : TypeId} {x y : Operand} {S : List Nat} {w0 : World} {M R : List Res} {E bytes : Nat} {z : Value}
theorem wl_mkzero (c : Nat) {kl kc : IntKind} (hgd : o.guard = none) (hop : o.op = .makeSlice T x y) (hx : a.eval x = .int kl (c : Int)) (hy : a.eval y = .int kc (c : Int)) (el : Elem P T E 1 bytes z) (hz1 : z.cells = #[z]) (hst : St S w0 w M R) (hb : bytes * c ≤ 281474976710656) (hc : c ≤ maxLen)
 (hK : ∀ g w', St S w0 w' (Rs.row E 1 (.slice (some ⟨g, 0, none⟩) c c) c (List.replicate c z) :: M) R → w.heap.size ≤ g → wpList P ops Q rest (a.put o.dst (.slice (some ⟨g, 0, none⟩) c c)) w') : wpList P ops Q (o :: rest) a w := by
 obtain ⟨i, hi, hz, hsz, hby⟩ := el.info
 subst hby
 have hc' : (c : Int) ≤ 9223372036854775807 := by unfold maxLen at hc; omega
 have hb' : (i.bytes : Int) * (c : Int) ≤ 281474976710656 := by
  have h : ((i.bytes * c : Nat) : Int) ≤ 281474976710656 := by omega
  rwa [Int.natCast_mul] at h
 have hrun := run_make (P := P) w T E i z el.und hi hz kl kc c c (by omega) (Int.le_refl _) hb' hc'
 simp only [Int.toNat_natCast] at hrun
 have hrep : (madeCells z.cells (c * i.size)).toList = List.replicate c z := by rw [hz1, hsz, Nat.mul_one]; exact toList_madeCells_one z c
 refine wl_val (v := .slice (some ⟨w.heap.size, 0, none⟩) c c) (w' := w.alloc (.cells (madeCells z.cells (c * i.size)) E)) hgd ?_ (hK _ _ ?_ (Nat.le_refl _))
 · simp only [execOp, hop, hx, hy, Sem.run_bind, hrun, Result.andThen_ok]; rfl
 · have := hst.made E 1 c (madeCells z.cells (c * i.size)).toList (by rw [hrep]; simp) hc
   rw [← hrep]
   simpa using this
end
def C1 (w2 : World) (Ts : List Shr) (nt : Nat) (t i : Value) (wr : World) : Prop := wr = w2 ∧ ∃ k : Nat, i = .int .i64 k ∧ k ≤ nt ∧ t = .int .i64 ((sumP (Ts.take k) : Nat) : Int)
def C2 (w : World) (g N : Nat) (Ms : List Mem) (Ts S : List Shr) (np : Nat) (u t i : Value) (wr : World) : Prop :=
 u = .slice (some ⟨g, 0, none⟩) N N ∧ ∃ k : Nat, i = .int .i64 k ∧ k ≤ np ∧ t = .int .i64 ((sumP Ts : Int) - (sumP (S.take k) : Int)) ∧ St [] w wr [Rs.row 3 1 (.slice (some ⟨g, 0, none⟩) N N) N (cntRow0 Ms (S.take k))] []
theorem allT_snoc {Ts : List Shr} {n : Nat} {y : Shr} (hy : Ts[n]? = some y) (t : ByteArray) (z : Int) : (t, z) ∈ allT (Ts.take (n + 1)) ↔ (t, z) ∈ allT (Ts.take n) ∨ (y.top = t ∧ z ∈ y.parts) := by
 rw [take_snoc' hy, allT_mem, allT_mem]
 constructor
 · rintro ⟨x, hx, h1, h2⟩
   rcases Zap.1 hx with hx | hx
   · exact .inl ⟨x, hx, h1, h2⟩
   · simp only [Zmc, Znn, or_false] at hx
     subst hx; exact .inr ⟨h1, h2⟩
 · rintro (⟨x, hx, h1, h2⟩ | ⟨h1, h2⟩)
   · exact ⟨x, List.mem_append_left _ hx, h1, h2⟩
   · exact ⟨y, List.mem_append_right _ (by simp), h1, h2⟩
end
end Go.Proofs.YticcnlpfmekagaaGreat
