/- Part 50 of the proof of the row: HolB, CoL, StLv, SubW. -/
import Derived.Test.YticcnlpfmekagaaGreatRc00
import Derived.Test.YticcnlpfmekagaaGreatRc47
import Derived.Test.YticcnlpfmekagaaGreatRc45
import Derived.Test.YticcnlpfmekagaaGreatRc43
import Derived.Test.YticcnlpfmekagaaGreatRc49
import Derived.Test.YticcnlpfmekagaaGreatRc48
set_option linter.unusedVariables false
set_option linter.unusedSimpArgs false
set_option maxRecDepth 100000
set_option maxHeartbeats 8000000
namespace Go.Proofs.YticcnlpfmekagaaGreat
section
open Go Go.Proofs Go.RowKit Go.Lib
open Classical
def HS1 (w : World) (L : List Shr) (t : ByteArray) (p : Int) (r : Option ByteArray) (n : Nat) (i : Value) (wr : World) : Prop := wr = w ∧ ∃ k : Nat, i = .int .i64 k ∧ k ≤ n ∧ holderT ((L.drop k).map trip) t p = r
def HS2 (w : World) (x : Shr) (t : ByteArray) (p : Int) (pn : Nat) (i : Value) (wr : World) : Prop := wr = w ∧ ∃ j : Nat, i = .int .i64 j ∧ j ≤ pn ∧ ¬ (x.top = t ∧ p ∈ x.parts.take j)
theorem holder_both (a : Option Addr) (n c : Nat) (L : List Shr) (t : ByteArray) (p : Int) (r : Option ByteArray) (w : World) (h : ShrsAt w (.slice a n c) L) (hn : L.length = n) (hb : n ≤ 1000000000) (hp : ∀ x ∈ L, x.parts.length ≤ 1000000000) (hh : holderT (L.map trip) t p = r) :
 Calls Tryz.prog 19 #[.slice a n c, .string t, .int .i32 p] w fun e w' => e = .returned (.tuple #[.string (r.getD ⟨#[]⟩), .bool r.isSome]) ∧ w' = w := by
 have HM := Zhd (Zan h (Zan hn (Zan hp hh))); clear h hn hp hh
 go_enter Tryz.func19, Tryz.ntmps19
 go_wp2_with fail
 go_loopw [8] (fun i wr => HS1 w L t p r n i wr) (fun i _ => n - (intOf i).toNat)
 case atStart => exact ⟨rfl, 0, rfl, Nat.zero_le _, HM.out.2.2.2⟩
 case round =>
  obtain ⟨rfl, k, rfl, hk, hho⟩ := hrel
  by_cases hkn : k < n
  · obtain ⟨x, hx⟩ : ∃ x, L[k]? = some x := ⟨_, List.getElem?_eq_getElem (by have := HM.out.2.1; omega)⟩
    obtain ⟨g, off, va, vc, rfl, hv, hc⟩ := shr_at HM.out.1 HM.out.2.1 hx
    obtain ⟨d0, d1, d2⟩ := hc wr (Kept.refl _ _)
    have hxL := List.mem_of_getElem? hx
    have hpt := (HM.out.1.parts x hxL).2.1
    rw [hv] at hpt
    have hpb := HM.out.2.2.1 x hxL
    obtain ⟨hk1, hk2⟩ := List.getElem?_eq_some_iff.1 hx
    rw [List.drop_eq_getElem_cons hk1, hk2, List.map_cons] at hho
    obtain ⟨pn, hpn⟩ : ∃ pn, x.parts.length = pn := ⟨_, rfl⟩
    rw [hpn] at hpt d2 hpb
    have hki : (k : Int) < (n : Int) := by omega
    have HX := Zhd (Zan hho (Zan hpt hpn)); clear hho hpt hpn hc hv hk2
    go_wp2_with fail
    go_loopw [9] (fun i wr' => HS2 wr x t p pn i wr') (fun i _ => pn - (intOf i).toNat)
    case atStart => exact ⟨rfl, 0, rfl, Nat.zero_le _, by simp⟩
    case round =>
     obtain ⟨rfl, j, rfl, hj, hno⟩ := hrel
     by_cases hjn : j < pn
     · obtain ⟨v, hv⟩ : ∃ v, x.parts[j]? = some v := ⟨_, List.getElem?_eq_getElem (by have := HX.out.2.2; omega)⟩
       obtain ⟨b, o2, cap, hva, hcl⟩ : ∃ b off cap, Value.slice va pn vc = .slice (some ⟨b, off, none⟩) pn cap ∧ ∀ j u, (i32s x.parts)[j]? = some u → wr.cell? ⟨b, off + j, none⟩ = some u := by
        rcases HX.out.2.1.2.2 with ⟨_, _, _, h0⟩ | h
        · omega
        · exact h
       simp only [Value.slice.injEq] at hva
       obtain ⟨rfl, _, rfl⟩ := hva
       have c5 := hcl j (.int .i32 v) (by simp [i32s, hv])
       have hji : (j : Int) < (pn : Int) := by omega
       have HV := Zhd (Zan hv hno); clear hv hno hcl
       by_cases et : x.top = t
       · have hse : (x.top.toList == t.toList) = true := beq_iff_eq.2 (by rw [et])
         by_cases ev : v = p
         · subst ev
           have hm : some x.mem = r := by
            have h1 := HX.out.1
            unfold holderT at h1
            rw [if_pos ⟨et, List.mem_of_getElem? HV.out.1⟩] at h1
            simpa [trip] using h1
           have HMM := Zhd (Zan hm et); clear hm et
           go_wp2_with fail
           go_ret2
           exact ⟨by rw [← HMM.out.1]; rfl, rfl⟩
         · have HET := Zhd (Zan et ev); clear et
           go_wp2_with fail
           refine ⟨⟨rfl, j + 1, by go_num, by omega, ?_⟩, by simp [intOf]; omega⟩
           obtain ⟨h1, h2⟩ := List.getElem?_eq_some_iff.1 HV.out.1
           rw [List.take_succ_eq_append_getElem h1, h2]
           rintro ⟨h3, h4⟩
           rcases Zap.1 h4 with h4 | h4
           · exact HV.out.2 ⟨h3, h4⟩
           · simp only [Zmc, Znn, or_false] at h4
             exact HET.out.2 h4.symm
       · have hse : (x.top.toList == t.toList) = false := beq_eq_false_iff_ne.2 (fun h => et ((ba_inj _ _).1 h))
         have HET := Zhd et; clear et
         go_wp2_with fail
         exact ⟨⟨rfl, j + 1, by go_num, by omega, fun h => HET.out h.1⟩, by simp [intOf]; omega⟩
     · obtain rfl : j = pn := by omega
       rw [List.take_of_length_le (by have := HX.out.2.2; omega)] at hno
       have hnx : HS1 wr L t p r n (.int .i64 ((k : Nat) + 1)) wr := by
        refine ⟨rfl, k + 1, by go_num, by omega, ?_⟩
        have h1 := HX.out.1
        unfold holderT at h1
        rw [if_neg (by simpa [trip] using hno)] at h1
        exact h1
       have HNX := Zhd hnx; clear hnx hno
       go_wp2_with fail
       exact ⟨HNX.out, by simp [intOf]; omega⟩
  · have : k = n := by omega
    rw [List.drop_of_length_le (by have := HM.out.2.1; omega)] at hho
    have hr : r = none := hho.symm
    have HR := Zhd hr; clear hr hho
    go_wp2_with fail
    go_ret2
    exact ⟨by rw [HR.out]; rfl, rfl⟩
theorem ask_coop (am : Option Addr) (N cm : Nat) (Ms : List Mem) (at' : Option Addr) (nt ct : Nat) (Ts : List Shr) (w : World) (hm : MemsAt w (.slice am N cm) Ms) (hN : Ms.length = N) (ht : ShrsAt w (.slice at' nt ct) Ts) (hT : Ts.length = nt) (hb : N ≤ 1000 ∧ nt ≤ 1000) (hbt : ∀ m ∈ Ms, m.tops.length ≤ maxLen) :
 Calls Tryz.prog 16 #[.int .i64 3, .slice am N cm, .slice at' nt ct] w fun e w' => BoolIf e (AskP Ms Ts) ∧ Kept [] w w' := by
 have hal := alike_any am N cm Ms at' nt ct Ts w hm hN ht hT hb hbt
 have HM := Zhd (Zan hm (Zan hN (Zan hT hal))); clear hm hN ht hT hbt hal
 go_enter Tryz.func16, Tryz.ntmps16
 go_wp2_with fail
 go_loopw [7] (fun i wr => AskRel w Ms nt N i wr) (fun i _ => N - (intOf i).toNat)
 case atStart => exact ⟨rfl, 0, rfl, Nat.zero_le _, by simp⟩
 case round =>
  obtain ⟨rfl, k, rfl, hk, hall⟩ := hrel
  by_cases hkn : k < N
  · obtain ⟨m, hm⟩ : ∃ m, Ms[k]? = some m := ⟨_, List.getElem?_eq_getElem (by have := HM.out.2.1; omega)⟩
    obtain ⟨g, off, ta, tc, da, dc, oa, oc, rfl, e1, e2, e3, hcm⟩ := mem_at HM.out.1 HM.out.2.1 hm
    obtain ⟨_, _, c2, _⟩ := hcm wr (Kept.refl _ _)
    have hki : (k : Int) < (N : Int) := by omega
    obtain ⟨tn, htn⟩ : ∃ tn, m.tops.length = tn := ⟨_, rfl⟩
    rw [htn] at c2
    have HH := Zhd (Zan hm (Zan hall htn)); clear hm hall htn hcm e1 e2 e3
    by_cases e : tn = nt
    · subst e
      go_wp2_with fail
      refine ⟨⟨rfl, k + 1, by go_num, by omega, ?_⟩, by simp [intOf]; omega⟩
      obtain ⟨h1, h2⟩ := List.getElem?_eq_some_iff.1 HH.out.1
      rw [List.take_succ_eq_append_getElem h1, h2]
      intro y hy
      rcases Zap.1 hy with hy | hy
      · exact HH.out.2.1 y hy
      · simp only [Zmc, Znn, or_false] at hy
        subst hy; exact HH.out.2.2
    · have hne : ¬ ((tn : Int) = (nt : Int)) := by omega
      go_wp2_with fail
      go_ret
      exact ⟨.inr rfl, Kept.refl _ _⟩
  · obtain rfl : k = N := by omega
    rw [List.take_of_length_le (by have := HM.out.2.1; omega)] at hall
    have HA := Zhd hall; clear hall
    go_wp2_with (first
     | (go_at_call 41
        refine HM.out.2.2.2.mono ?_
        rintro e w1 ⟨hr, hk1⟩
        rcases hr with ⟨rfl, hr⟩ | rfl)
     | fail)
    · have HR := Zhd hr; clear hr
      go_ret
      exact ⟨.inl ⟨rfl, HR.out, fun m hm => by rw [HA.out m hm]; exact HM.out.2.2.1.symm⟩, hk1⟩
    · go_ret
      exact ⟨.inr rfl, hk1⟩
end
section
open Go Go.Proofs Go.RowKit Go.Lib
open Classical
def ownShr (m : Mem) : List Shr := m.owned.map fun x => ⟨m.id, x.top, x.val, x.parts⟩
def ownL (Ms : List Mem) : List Shr := Ms.flatMap ownShr
def bareM (m : Mem) : Mem := { m with ov := .slice none 0 0, owned := [] }
def bareOf (Ms : List Mem) (k : Nat) : List Mem := (Ms.take k).map bareM ++ Ms.drop k
theorem bareOf_zero (Ms : List Mem) : bareOf Ms 0 = Ms := by simp [bareOf]
theorem bareOf_all (Ms : List Mem) : bareOf Ms Ms.length = Ms.map bareM := by simp [bareOf]
theorem bareOf_split {Ms : List Mem} {k : Nat} {m : Mem} (h : Ms[k]? = some m) : ∃ A B, A.length = k ∧ bareOf Ms k = A ++ m :: B ∧ bareOf Ms (k + 1) = A ++ bareM m :: B := by
 obtain ⟨hk, e⟩ := List.getElem?_eq_some_iff.1 h
 refine ⟨(Ms.take k).map bareM, Ms.drop (k + 1), by simp; omega, ?_, ?_⟩
 · unfold bareOf
   rw [List.drop_eq_getElem_cons hk, e]
 · unfold bareOf
   rw [take_snoc' h, List.map_append]
   simp
theorem bareOf_get {Ms : List Mem} {k : Nat} {m : Mem} (h : Ms[k]? = some m) : (bareOf Ms k)[k]? = some m := by
 obtain ⟨A, B, h1, h2, _⟩ := bareOf_split h
 rw [h2, List.getElem?_append_right (by omega), h1]; simp
theorem ids_bare (Ms : List Mem) : ids (Ms.map bareM) = ids Ms := by simp [ids, bareM, Function.comp_def]
theorem ownL_snoc {Ms : List Mem} {k : Nat} {m : Mem} (h : Ms[k]? = some m) : ownL (Ms.take (k + 1)) = ownL (Ms.take k) ++ ownShr m := by
 unfold ownL
 rw [take_snoc' h, List.flatMap_append]; simp
theorem flatT_ownS (m : Mem) : flatT ((ownShr m).map trip) = ownS m := by
 unfold flatT ownShr ownS
 rw [List.map_map, List.flatMap_map, List.flatMap_map]
 rfl
theorem flatT_ownL (Ms : List Mem) : flatT ((ownL Ms).map trip) = Ms.flatMap ownS := by
 unfold ownL
 rw [List.map_flatMap, flatT_flatMap, List.flatMap_def, List.flatMap_def]
 congr 1
 exact List.map_congr_left fun m _ => flatT_ownS m
theorem full_len : ∀ (L : List Shr), (∀ x ∈ L, x.parts ≠ []) → L.length ≤ sumP L
 | [], _ => by simp
 | x :: L, h => by
   have h1 := full_len L (fun y hy => h y (List.mem_cons_of_mem _ hy))
   have h2 : 0 < x.parts.length := List.length_pos_iff.2 (h x (by simp))
   simp only [sumP, List.map_cons, List.sum_cons, List.length_cons] at *
   omega
theorem own_mem {Ms : List Mem} {m : Mem} (hm : m ∈ Ms) {p : TP} (hp : p ∈ ownS m) : ∃ x ∈ ownL Ms, x.mem = m.id ∧ x.top = p.1 ∧ p.2 ∈ x.parts := by
 rw [← flatT_ownS] at hp
 obtain ⟨mm, ps, h1, h2⟩ := flatT_mem.1 (show (p.1, p.2) ∈ _ from hp)
 obtain ⟨x, hx, e⟩ := List.mem_map.1 h1
 simp only [trip, Prod.mk.injEq] at e
 obtain ⟨e0, e1, e2⟩ := e
 have hxm : x.mem = m.id := by
  obtain ⟨y, _, rfl⟩ := List.mem_map.1 hx
  rfl
 exact ⟨x, List.mem_flatMap.2 ⟨m, hm, hx⟩, hxm, e1, by rw [e2]; exact h2⟩
theorem coop_stin {Ms : List Mem} {Ts : List Shr} (hf : FitA (Ms.map bareM) Ts) (hc : CntGd (Ms.map bareM) Ts (ownL Ms)) (hv : ∀ m ∈ Ms, m.ver = 2 ∧ m.gen = 1) (hne : ∀ x ∈ ownL Ms, x.parts ≠ []) : StInC Ms Ts := by
 have hs := hf.stin
 have hl : (flatT ((ownL Ms).map trip)).length ≤ (allT Ts).length := sub_len hc.flat (fun p hp => by
  obtain ⟨mm, ps, h1, h2⟩ := flatT_mem.1 (show (p.1, p.2) ∈ _ from hp)
  obtain ⟨x, hx, e⟩ := List.mem_map.1 h1
  simp only [trip, Prod.mk.injEq] at e
  have h3 := hc.top x hx p.2 (by rw [e.2.2]; exact h2)
  rw [e.2.1] at h3; exact h3)
 rw [sumP_flat] at hl
 have h60 : (allT Ts).length ≤ 1000 := hs.t1
 have hon : ∀ m ∈ Ms, m.owned.length ≤ 1000 ∧ ∀ x ∈ m.owned, x.parts.length ≤ 1000000 := fun m hm => by
  obtain ⟨A, B, rfl⟩ := List.append_of_mem hm
  have e : sumP (ownL (A ++ m :: B)) = sumP (ownL A) + (sumP (ownShr m) + sumP (ownL B)) := by
   simp only [ownL, List.flatMap_append, List.flatMap_cons, sumP_append]
  have h1 := full_len (ownShr m) (fun x hx => hne x (List.mem_flatMap.2 ⟨m, by simp, hx⟩))
  have h2 : (ownShr m).length = m.owned.length := by simp [ownShr]
  refine ⟨by omega, fun x hx => ?_⟩
  obtain ⟨C, D, e2⟩ := List.append_of_mem hx
  have h3 : sumP (ownShr m) = sumP (ownShr { m with owned := C }) + (x.parts.length + sumP (ownShr { m with owned := D })) := by
   simp only [ownShr, e2, List.map_append, List.map_cons, sumP_append]
   simp [sumP]
  omega
 have hmem : ∀ m ∈ Ms, bareM m ∈ Ms.map bareM := fun m hm => List.mem_map_of_mem hm
 refine ⟨by simpa using hs.m1, by simpa using hs.m2, by rw [← ids_bare]; exact hs.ids, fun m hm => ?_, fun m hm => FitA.tops (m := bareM m) hf (hmem m hm), fun m hm => by rw [(hv m hm).1]; omega, fun m hm => by rw [(hv m hm).2]; unfold isI32; omega, hs.tk, hs.tl, hs.tn, hs.t0, hs.t1, ?_, fun m hm p hp => ?_⟩
 · have h1 := hf.g.mems _ (hmem m hm)
   have h2 := h1.tops
   have h3 : m.data = [] := h1.data
   have h4 : m.tops.length ≤ 6 := h2
   exact ⟨by omega, by rw [h3]; simp, (hon m hm).1, (hon m hm).2⟩
 · rw [← flatT_ownL]; exact hc.flat
 · obtain ⟨x, hx, _, e, h1⟩ := own_mem hm hp
   have := hc.top x hx p.2 h1
   rw [e] at this; exact this
theorem coop_cnt {Ms : List Mem} {Ts L : List Shr} {A : Asg} (hf : FitA (Ms.map bareM) Ts) (h1 : PlanOkC Ms (allT Ts) A) (h2 : Shows (L.map trip) A) (h3 : Canon ltMT (L.map trip)) : CntGd (Ms.map bareM) Ts L ∧ L.length ≤ 1000 ∧ ∀ x ∈ L, x.parts.length ≤ 1000 := by
 have hAll : ∀ x ∈ L, ∀ p ∈ x.parts, (x.top, p) ∈ allT Ts := fun x hx p hp => by
  have h4 : Holds (L.map trip) x.mem x.top p := ⟨x.parts, List.mem_map_of_mem (f := trip) hx, hp⟩
  exact h1.sub _ (allOf_mem.2 ⟨_, (h2.iff _ _ _).1 h4⟩)
 have hfl : (flatT (L.map trip)).Nodup := h2.perm.nodup_iff.2 h1.nd
 have hfull : ∀ x ∈ L, x.parts ≠ [] := fun x hx => h3.full (trip x) (List.mem_map_of_mem hx)
 have hl : sumP L ≤ (allT Ts).length := by
  rw [← sumP_flat]
  exact sub_len hfl (fun p hp => by
   obtain ⟨mm, ps, q1, q2⟩ := flatT_mem.1 (show (p.1, p.2) ∈ _ from hp)
   obtain ⟨x, hx, e⟩ := List.mem_map.1 q1
   simp only [trip, Prod.mk.injEq] at e
   have q3 := hAll x hx p.2 (by rw [e.2.2]; exact q2)
   rw [e.2.1] at q3; exact q3)
 have hb := hf.stin.t1
 have hfl2 := full_len L hfull
 refine ⟨⟨fun x hx => ?_, fun x hx m hm _ => ?_, hAll, hfl⟩, by omega, fun x hx => ?_⟩
 · cases hps : x.parts with
   | nil => exact absurd hps (hfull x hx)
   | cons p ps =>
     have h4 : Holds (L.map trip) x.mem x.top p := ⟨x.parts, List.mem_map_of_mem (f := trip) hx, by rw [hps]; simp⟩
     have h5 : x.mem ∈ A.map (·.1) := by
      obtain ⟨xs, hxs, _⟩ := (h2.iff _ _ _).1 h4
      exact List.mem_map.2 ⟨_, hxs, rfl⟩
     have h6 := h1.keys.mem_iff.1 h5
     rw [← ids_bare] at h6
     exact List.mem_map.1 h6
 · cases hps : x.parts with
   | nil => exact absurd hps (hfull x hx)
   | cons p ps =>
     obtain ⟨y, hy, e, _⟩ := allT_mem.1 (hAll x hx p (by rw [hps]; simp))
     rw [← e]; exact hf.a.1 y hy m hm
 · obtain ⟨C, D, rfl⟩ := List.append_of_mem hx
   rw [sumP_append] at hl
   simp only [sumP, List.map_cons, List.sum_cons] at hl
   omega
theorem coop_both {Ms : List Mem} {Ts L : List Shr} {A : Asg} (h1 : PlanOkC Ms (allT Ts) A) (h2 : Shows (L.map trip) A) {t : ByteArray} {p : Int} (hq : (t, p) ∈ allT Ts) :
 (∃ m, holderT ((ownL Ms).map trip) t p = some m ∧ holderT (L.map trip) t p = some m) ∨ (∃ m, holderT ((ownL Ms).map trip) t p = some m ∧ holderT (L.map trip) t p = none) ∨ (∃ m, holderT ((ownL Ms).map trip) t p = none ∧ holderT (L.map trip) t p = some m) := by
 have hown : ∀ m, Holds ((ownL Ms).map trip) m t p → ∃ y ∈ Ms, y.id = m ∧ (t, p) ∈ ownS y := fun m ⟨ps, q1, q2⟩ => by
  obtain ⟨x, hx, e⟩ := List.mem_map.1 q1
  obtain ⟨y, hy, hx⟩ := List.mem_flatMap.1 hx
  simp only [trip, Prod.mk.injEq] at e
  refine ⟨y, hy, ?_, ?_⟩
  · obtain ⟨z, _, rfl⟩ := List.mem_map.1 hx
    exact e.1
  · rw [← flatT_ownS]
    exact flatT_mem.2 ⟨m, ps, List.mem_map.2 ⟨x, hx, by simp [trip, e]⟩, q2⟩
 cases ho : holderT ((ownL Ms).map trip) t p with
 | some m =>
   cases hp : holderT (L.map trip) t p with
   | none => exact .inr (.inl ⟨m, rfl, rfl⟩)
   | some m' =>
     left
     obtain ⟨y, hy, e, hyq⟩ := hown m (holderT_holds ho)
     obtain ⟨ps, q1, q2⟩ := (h2.iff _ _ _).1 (holderT_holds hp)
     have := h1.held _ _ _ q1 q2 y hy hyq
     exact ⟨m, rfl, by rw [← e, this]⟩
 | none =>
   right; right
   have hno : ∀ y ∈ Ms, (t, p) ∉ ownS y := fun y hy hyq => by
    obtain ⟨x, hx, _, e, h3⟩ := own_mem hy hyq
    obtain ⟨m', hm'⟩ := holderT_some (S := (ownL Ms).map trip) (m := x.mem) (t := t) (p := p) ⟨x.parts, List.mem_map.2 ⟨x, hx, by simp only [trip]; rw [e]⟩, h3⟩
    rw [ho] at hm'; cases hm'
   obtain ⟨m, ps, q1, q2⟩ := h1.free _ hq hno
   obtain ⟨m', hm'⟩ := holderT_some ((h2.iff m t p).2 ⟨ps, q1, q2⟩)
   exact ⟨m', rfl, hm'⟩
end
section
open Go Go.Proofs Go.RowKit Go.Lib
open Classical
section
variable {Ms : List Mem} {Ts : List Shr} {Old : ByteArray → List TP} {Gen : ByteArray → Int}
theorem flatMap_sub {α β : Type} (f : α → List β) {R L : List α} (h : R.Sublist L) : (R.flatMap f).Sublist (L.flatMap f) := by
 induction h with
 | slnil => exact List.Sublist.refl _
 | cons a _ ih => rw [List.flatMap_cons]; exact ih.trans (List.sublist_append_right _ _)
 | cons_cons a _ ih => rw [List.flatMap_cons, List.flatMap_cons]; exact (List.Sublist.refl _).append ih
theorem StIn.part (h : StIn Ms Ts Old Gen) {R : List Mem} (hs : R.Sublist Ms) (h1 : 1 ≤ R.length) : StIn R Ts Old Gen := by
 have hm : ∀ m ∈ R, m ∈ Ms := fun m hm => hs.subset hm
 refine ⟨h1, Nat.le_trans hs.length_le h.m2, h.ids.sublist (hs.map _), fun m k => h.ok m (hm m k), fun m k => h.tops m (hm m k), fun m k => h.data m (hm m k), h.tk, h.tl, h.tn, h.t0, h.t1, h.nd.sublist (flatMap_sub _ hs), fun m k => h.sub m (hm m k), ?_⟩
 intro a ha b hb
 obtain ⟨m1, k1, rfl⟩ := List.mem_map.1 ha
 obtain ⟨m2, k2, rfl⟩ := List.mem_map.1 hb
 exact h.near _ (List.mem_map_of_mem (f := fun m : Mem => (Old m.id).length) (hm m1 k1)) _ (List.mem_map_of_mem (f := fun m : Mem => (Old m.id).length) (hm m2 k2))
def subM (tv : Value) (ts : List ByteArray) (m : Mem) : Mem := { m with tv := tv, tops := ts }
theorem ids_sub (tv : Value) (ts : List ByteArray) (L : List Mem) : ids (L.map (subM tv ts)) = ids L := by simp [ids, subM, Function.comp_def]
theorem FitA.sub (h : FitA Ms Ts) (tv : Value) {k : Nat} (h1 : 1 ≤ k) (h2 : k ≤ Ts.length) : FitA (Ms.map (subM tv ((Ts.take k).map (·.top)))) (Ts.take k) := by
 have hl : (Ts.take k).length = k := by rw [List.length_take]; omega
 have hr : RisesS (Ts.take k) := List.Pairwise.sublist (List.take_sublist k Ts) h.g.rises
 have h6 := h.g.t6
 refine ⟨⟨by rw [List.length_map]; exact h.g.m1, by rw [List.length_map]; exact h.g.m6, by omega, by omega, fun x hx => h.g.tops x (List.mem_of_mem_take hx), hr, fun m hm => ?_, by rw [ids_sub]; exact h.g.ids⟩, fun t ht m hm => ?_, fun m hm => ?_⟩
 · obtain ⟨y, hy, rfl⟩ := List.mem_map.1 hm
   have h0 := h.g.mems y hy
   exact ⟨by simp only [subM, List.length_map]; omega, hr.nodup, h0.data, h0.owned⟩
 · obtain ⟨y, hy, rfl⟩ := List.mem_map.1 hm
   exact List.mem_map_of_mem (f := fun x : Shr => x.top) ht
 · obtain ⟨y, hy, rfl⟩ := List.mem_map.1 hm
   simp [subM]
theorem ToldM.sub {S : List Shr} {gen : Int} {m m' : Mem} (h : ToldM S gen m m') (tv : Value) (ts : List ByteArray) : ToldM S gen (subM tv ts m) (subM tv ts m') := by
 obtain ⟨dv, data, e⟩ := h.same
 exact ⟨⟨dv, data, by rw [e]; rfl⟩, h.data⟩
def GrownP (Ms : List Mem) (Ms' : List Mem) (Ts L : List Shr) (Old' : ByteArray → List TP) : Prop :=
 ∀ L2 A2, PlanOk (ids Ms') Old' (allT Ts) A2 → Shows (L2.map trip) A2 → Canon ltMT (L2.map trip) → CntOk Ms Ts L2 ∧ (L2.length ≤ 1000 ∧ ∀ x ∈ L2, x.parts.length ≤ 1000) ∧ ∀ m ∈ Ms, keptT m.id (L.map trip) (L2.map trip) = true
theorem PlanL.grow (h : FitA Ms Ts) {tv : Value} {k : Nat} (hk1 : 1 ≤ k) (hk2 : k ≤ Ts.length) {L : List Shr} (hl : PlanL (Ms.map (subM tv ((Ts.take k).map (·.top)))) (Ts.take k) L) {gen : Int} (hg : isI32 gen) {Ms' : List Mem} (hn : Ms'.length = Ms.length) (ht : ∀ (j : Nat) m m', Ms[j]? = some m → Ms'[j]? = some m' → ToldM L gen m m') :
 ∃ Old', StIn Ms' Ts Old' (fun _ => gen) ∧ GrownP Ms Ms' Ts L Old' := by
 have hf := h.sub tv hk1 hk2
 obtain ⟨A, h1, h2, h3⟩ := hl
 have hi32 : ∀ x ∈ L, ∀ p ∈ x.parts, isI32 p := fun x hx p hp => by
  have h4 : Holds (L.map trip) x.mem x.top p := ⟨x.parts, List.mem_map_of_mem (f := trip) hx, hp⟩
  have h5 := h1.all.mem_iff.1 (allOf_mem.2 ⟨_, (h2.iff _ _ _).1 h4⟩)
  obtain ⟨y, hy, _, hp2⟩ := allT_mem.1 h5
  have := (hf.g.tops y hy).part hp2
  unfold isI32; omega
 obtain ⟨Old', q1, q2, q3⟩ := told_stin (Ms' := Ms'.map (subM tv ((Ts.take k).map (·.top)))) hf.stin h1 h2 h3 (fun t ht => by have := (hf.g.tops t ht).size; omega) hi32 hg (by rw [List.length_map, List.length_map]; exact hn) (fun j m m' hj hj' => by
  rw [List.getElem?_map] at hj hj'
  obtain ⟨y, hy, rfl⟩ := Option.map_eq_some_iff.1 hj
  obtain ⟨y', hy', rfl⟩ := Option.map_eq_some_iff.1 hj'
  exact (ht j y y' hy hy').sub _ _)
 rw [ids_sub, ids_sub] at q2
 have h0 := h.stin
 have hpair : ∀ m' ∈ Ms', ∃ m ∈ Ms, ToldM L gen m m' := fun m' hm' => by
  obtain ⟨j, hj⟩ := List.mem_iff_getElem?.1 hm'
  obtain ⟨m, h1⟩ : ∃ m, Ms[j]? = some m := ⟨_, List.getElem?_eq_getElem (by have := (List.getElem?_eq_some_iff.1 hj).1; omega)⟩
  exact ⟨m, List.mem_of_getElem? h1, ht j m m' h1 hj⟩
 have hin : ∀ m' ∈ Ms', subM tv ((Ts.take k).map (·.top)) m' ∈ Ms'.map (subM tv ((Ts.take k).map (·.top))) := fun m' hm' => List.mem_map_of_mem hm'
 have hst : StIn Ms' Ts Old' (fun _ => gen) := by
  refine ⟨by rw [hn]; exact h0.m1, by rw [hn]; exact h0.m2, by rw [q2]; exact h0.ids, fun m' hm' => ?_, fun m' hm' => ?_, fun m' hm' => (by have h := q1.data _ (hin m' hm'); exact h), h0.tk, h0.tl, h0.tn, h0.t0, h0.t1, ?_, fun m' hm' p hp => ?_, ?_⟩
  · obtain ⟨m, hm, htm⟩ := hpair m' hm'
    obtain ⟨dv, data, e⟩ := htm.same
    have o0 := h0.ok m hm
    have o1 := (q1.ok _ (hin m' hm')).data
    exact ⟨by rw [e]; exact o0.tops, o1, by rw [e]; exact o0.olen, by rw [e]; exact o0.oparts⟩
  · obtain ⟨m, hm, htm⟩ := hpair m' hm'
    obtain ⟨dv, data, e⟩ := htm.same
    rw [e]; exact h0.tops m hm
  · have := q1.nd
    rw [List.flatMap_map] at this
    exact this
  · have h5 := q1.sub _ (hin m' hm') p hp
    obtain ⟨t, q⟩ := p
    obtain ⟨x, hx, e, hq⟩ := allT_mem.1 h5
    exact allT_mem.2 ⟨x, List.mem_of_mem_take hx, e, hq⟩
  · have := q1.near
    rw [List.map_map] at this
    exact this
 refine ⟨Old', hst, fun L2 A2 g1 g2 g3 => ⟨?_, ?_, fun m hm => ?_⟩⟩
 · rw [q2] at g1
   exact cnt_ok g1 g2 g3 h0.ids h0.m1 h0.tn h0.t1 h.a.1
 · obtain ⟨b1, b2, _⟩ := plan_bounds g1 g2 g3 h0.t1
   exact ⟨b2, fun x hx => (b1 x hx).2⟩
 · have hmi : m.id ∈ ids Ms := List.mem_map_of_mem (f := fun m : Mem => m.id) hm
   exact kept_fwd h2 g2 g1 h0.tn (by rw [q2]; exact hmi) (q3 m.id (by rw [ids_sub]; exact hmi))
end
end
section
open Go Go.Proofs Go.RowKit Go.Lib
theorem set_midN {A B : List Mem} {m m' : Mem} {j : Nat} {u : Value} (hj : j < 8) (h : (memCells m).set j u = memCells m') {k : Nat} (hk : A.length = k) : ((A ++ m :: B).flatMap memCells).set (k * 8 + j) u = (A ++ m' :: B).flatMap memCells := by
 rw [List.flatMap_append, List.flatMap_append, List.flatMap_cons, List.flatMap_cons, ← h]
 rw [List.set_append_right _ _ (by rw [memCells_len, hk]; omega), memCells_len, hk]
 rw [show k * 8 + j - k * 8 = j by omega, List.set_append_left _ _ (by simp [memCells]; omega)]
end
end Go.Proofs.YticcnlpfmekagaaGreat
