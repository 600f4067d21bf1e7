/- Part 46 of the proof of the row: LwE. -/
import Derived.Test.YticcnlpfmekagaaGreatRc00
import Derived.Test.YticcnlpfmekagaaGreatRc45
import Derived.Test.YticcnlpfmekagaaGreatRc11
set_option linter.unusedVariables false
set_option linter.unusedSimpArgs false
set_option maxRecDepth 100000
set_option maxHeartbeats 8000000
namespace Go.Proofs.YticcnlpfmekagaaGreat
section
open Go Go.Proofs Go.RowKit Go.Lib
structure TopFit (x : Shr) : Prop where
 size : x.top.size ≤ 20
 p1 : 1 ≤ x.parts.length
 p2 : x.parts.length ≤ 10
 range : x.parts = (List.range x.parts.length).map Int.ofNat
structure MemFitG (m : Mem) : Prop where
 tops : m.tops.length ≤ 6
 nd : m.tops.Nodup
 data : m.data = []
 owned : m.owned = []
def RisesS (L : List Shr) : Prop := L.Pairwise (fun x y => topLt x.top y.top = true)
theorem risesS_snoc {L : List Shr} {k : Nat} {x y : Shr} (h : RisesS (L.take (k + 1))) (hx : L[k]? = some x) (hy : L[k + 1]? = some y) (hl : topLt x.top y.top = true) : RisesS (L.take (k + 2)) := by
 obtain ⟨h1, e1⟩ := List.getElem?_eq_some_iff.1 hx
 obtain ⟨h2, e2⟩ := List.getElem?_eq_some_iff.1 hy
 unfold RisesS at *
 rw [List.take_succ_eq_append_getElem h2, e2]
 refine List.pairwise_append.2 ⟨h, by simp, fun a ha b hb => ?_⟩
 simp only [Zmc, Znn, or_false] at hb
 subst hb
 rw [List.take_succ_eq_append_getElem h1, e1] at h ha
 rcases Zap.1 ha with ha | ha
 · exact topLt_swo.trans _ _ _ ((List.pairwise_append.1 h).2.2 a ha x (by simp)) hl
 · simp only [Zmc, Znn, or_false] at ha
   subst ha; exact hl
structure GFit (Ms : List Mem) (Ts : List Shr) : Prop where
 m1 : 1 ≤ Ms.length
 m6 : Ms.length ≤ 6
 t1 : 1 ≤ Ts.length
 t6 : Ts.length ≤ 6
 tops : ∀ x ∈ Ts, TopFit x
 rises : RisesS Ts
 mems : ∀ m ∈ Ms, MemFitG m
 ids : (ids Ms).Nodup
def GF1 (w : World) (Ts : List Shr) (nt : Nat) (i : Value) (wr : World) : Prop := ∃ k : Nat, i = .int .i64 k ∧ k ≤ nt ∧ (∀ x ∈ Ts.take k, TopFit x) ∧ RisesS (Ts.take k) ∧ Kept [] w wr
def GF2 (M : World) (xs : List Int) (pn : Nat) (i : Value) (wr : World) : Prop := ∃ k : Nat, i = .int .i64 k ∧ k ≤ pn ∧ xs.take k = (List.range k).map Int.ofNat ∧ wr = M
def GF3 (w : World) (Ms : List Mem) (N : Nat) (i : Value) (wr : World) : Prop := ∃ k : Nat, i = .int .i64 k ∧ k ≤ N ∧ (∀ m ∈ Ms.take k, MemFitG m) ∧ (ids (Ms.take k)).Nodup ∧ Kept [] w wr
def GF4 (M : World) (Ms : List Mem) (id : ByteArray) (k : Nat) (i : Value) (wr : World) : Prop := ∃ j : Nat, i = .int .i64 j ∧ j ≤ k ∧ id ∉ ids (Ms.take j) ∧ Kept [] M wr
def GF5 (M : World) (tops : List ByteArray) (tn : Nat) (i : Value) (wr : World) : Prop := ∃ j : Nat, i = .int .i64 j ∧ j ≤ tn ∧ (tops.take j).Nodup ∧ Kept [] M wr
def GF6 (M : World) (tops : List ByteArray) (t : ByteArray) (j : Nat) (i : Value) (wr : World) : Prop := ∃ l : Nat, i = .int .i64 l ∧ l ≤ j ∧ t ∉ tops.take l ∧ Kept [] M wr
theorem take_snoc' {α : Type} {l : List α} {k : Nat} {x : α} (h : l[k]? = some x) : l.take (k + 1) = l.take k ++ [x] := by
 obtain ⟨hk, rfl⟩ := List.getElem?_eq_some_iff.1 h
 rw [List.take_succ_eq_append_getElem hk]
theorem nodup_snoc {α : Type} {l : List α} {x : α} (h : l.Nodup) (hx : x ∉ l) : (l ++ [x]).Nodup := List.nodup_append.2 ⟨h, by simp, fun a ha b hb e => by simp at hb; subst hb e; exact hx ha⟩
def PrevLt (Ts : List Shr) (k : Nat) (t : ByteArray) : Prop := ∃ x, Ts[k - 1]? = some x ∧ topLt x.top t = true
def GF7 (M : World) (Ts : List Shr) (k pn : Nat) (xt : ByteArray) (b : Value) (W : World) : Prop := ∃ c : Bool, b = .bool c ∧ Kept [] M W ∧ (c = false → xt.size ≤ 20 ∧ 1 ≤ pn ∧ pn ≤ 10 ∧ (k = 0 ∨ PrevLt Ts k xt))
theorem groupFits_any (am : Option Addr) (N cm : Nat) (Ms : List Mem) (at' : Option Addr) (nt ct : Nat) (Ts : List Shr) (w : World) (hm : MemsAt w (.slice am N cm) Ms) (hN : Ms.length = N) (ht : ShrsAt w (.slice at' nt ct) Ts) (hT : Ts.length = nt) (hmd : ∀ m ∈ Ms, MemRd w m) (htd : ∀ t ∈ Ts, t.top.size ≤ maxLen) (hb : N ≤ maxLen ∧ nt ≤ maxLen) :
 Calls Tryz.prog 15 #[.slice am N cm, .slice at' nt ct] w fun e w' => BoolIf e (GFit Ms Ts) ∧ Kept [] w w' := by
 have hmx : maxLen = 9223372036854775807 := rfl
 by_cases h1 : (N : Int) < 1
 · clear hm hN ht hT hmd htd hb
   go_enter Tryz.func15, Tryz.ntmps15
   go_wp2_with fail
   go_ret
   exact ⟨.inr rfl, Kept.refl _ _⟩
 by_cases h2 : (6 : Int) < (N : Int)
 · clear hm hN ht hT hmd htd hb
   go_enter Tryz.func15, Tryz.ntmps15
   go_wp2_with fail
   go_ret
   exact ⟨.inr rfl, Kept.refl _ _⟩
 by_cases h3 : (nt : Int) < 1
 · clear hm hN ht hT hmd htd hb
   go_enter Tryz.func15, Tryz.ntmps15
   go_wp2_with fail
   go_ret
   exact ⟨.inr rfl, Kept.refl _ _⟩
 by_cases h4 : (6 : Int) < (nt : Int)
 · clear hm hN ht hT hmd htd hb
   go_enter Tryz.func15, Tryz.ntmps15
   go_wp2_with fail
   go_ret
   exact ⟨.inr rfl, Kept.refl _ _⟩
 have hwd := wanted_any am N cm Ms at' nt ct Ts w hm hN ht hT (by omega) (fun m hm => (hmd m hm).ln.1)
 have HM := Zhd (Zan hm (Zan hN (Zan ht (Zan hT (Zan hmd (Zan htd hwd)))))); clear hm hN ht hT hmd htd hwd hb
 go_enter Tryz.func15, Tryz.ntmps15
 go_wp2_with (first
  | (go_at_call 39
     refine HM.out.2.2.2.2.2.2.mono ?_
     rintro e w1 ⟨⟨b, rfl⟩, hk1⟩
     cases b)
  | fail)
 · go_ret
   exact ⟨.inr rfl, hk1⟩
 · go_loopw [5] (fun i wr => GF1 w Ts nt i wr) (fun i _ => nt - (intOf i).toNat)
   case atStart => exact ⟨0, rfl, Nat.zero_le _, by simp, by simp [RisesS], hk1⟩
   case round =>
    obtain ⟨k, rfl, hk, hfit, hris, hkw⟩ := hrel
    by_cases hkn : k < nt
    · obtain ⟨x, hx⟩ : ∃ x, Ts[k]? = some x := ⟨_, List.getElem?_eq_getElem (by have := HM.out.2.2.2.1; omega)⟩
      have hxT := List.mem_of_getElem? hx
      obtain ⟨gt, ot, va, vc, rfl, hv, hct⟩ := shr_at HM.out.2.2.1 HM.out.2.2.2.1 hx
      obtain ⟨d0, d1, d2⟩ := hct wr hkw
      have hki : (k : Int) < (nt : Int) := by omega
      have hpt := (HM.out.2.2.1.parts x hxT).2.1
      have hwo := fun w' => word_any x.top (HM.out.2.2.2.2.2.1 x hxT) w'
      rw [hv] at hpt
      obtain ⟨xm, xt, xv, xs⟩ := x
      simp only at hv hpt d0 d1 d2 hwo
      subst hv
      obtain ⟨pn, hpn⟩ : ∃ pn, xs.length = pn := ⟨_, rfl⟩
      rw [hpn] at hpt d2
      have hH := Zhd (Zan hx (Zan hfit (Zan hris (Zan hpn (Zan hpt hwo))))); clear hx hfit hris hpn hpt hwo hct hxT
      go_upto_region 7 with fail
      have hkM : Kept [] w (wr.alloc (.cells #[.string xm, .string xt, .slice va pn vc] 33)) := hkw.alloc _
      have hMh : (wr.alloc (.cells #[.string xm, .string xt, .slice va pn vc] 33)).heap[wr.heap.size]? = some (.cells #[.string xm, .string xt, .slice va pn vc] 33 (0, 0)) := heap_alloc_new wr _
      generalize wr.alloc (.cells #[.string xm, .string xt, .slice va pn vc] 33) = M at *
      generalize wr.heap.size = bx at *
      clear d0 d1 d2 hkw hk1
      have c1 := (cells_of hMh).1 1 _ rfl
      have c2 := (cells_of hMh).1 2 _ rfl
      simp only [List.getElem_toArray, List.getElem_cons_succ, List.getElem_cons_zero] at c1 c2
      have hprev : 0 < k → ∃ y : Shr, Ts[k - 1]? = some y ∧ ∀ W, Kept [] M W → W.cell? ⟨gt, ot + (k - 1) * 3 + 1, none⟩ = some (.string y.top) := fun h0 => by
       obtain ⟨y, hy⟩ : ∃ y, Ts[k - 1]? = some y := ⟨_, List.getElem?_eq_getElem (by have := HM.out.2.2.2.1; omega)⟩
       obtain ⟨g', o', _, _, e, _, hc⟩ := shr_at HM.out.2.2.1 HM.out.2.2.2.1 hy
       cases e
       exact ⟨y, hy, fun W hW => (hc W (hkM.trans hW (by simp) (by simp))).2.1⟩
      have HPV := Zhd hprev; clear hprev
      go_cut [77] (fun b W => GF7 M Ts k pn xt b W)
      case first =>
       obtain ⟨_, _, _, hpn, hpt, hwo⟩ := hH.out
       clear hpt
       cases hw : wordB xt with
       | false =>
         have hwo' := fun w' => by have h := hwo w'; rw [hw] at h; exact h
         have HWO := Zhd hwo'; clear hwo' hwo hpn
         go_quiet ((go_at_call 40; exact Calls.quiet_of_same (HWO.out _)))
         go_wp2_with fail
         go_meet
         exact ⟨true, rfl, (Kept.refl _ _).drewN _, fun h => by cases h⟩
       | true =>
         have hsz := wordB_size hw
         have hwo' := fun w' => by have h := hwo w'; rw [hw] at h; exact h
         have HWO := Zhd (Zan hwo' hsz); clear hwo' hwo hsz hpn
         by_cases hk0 : k = 0
         · subst hk0
           have hg0 : decide ((0 : Int) < ((0 : Nat) : Int)) = false := by simp
           by_cases hp1 : (pn : Int) < 1
           · go_quiet ((go_at_call 40; exact Calls.quiet_of_same (HWO.out.1 _)))
             go_wp2_with fail
             go_meet
             exact ⟨true, rfl, (Kept.refl _ _).drewN _, fun h => by cases h⟩
           · have hp1' : decide ((pn : Int) < 1) = false := by simpa using hp1
             by_cases hp2 : (10 : Int) < (pn : Int)
             · go_quiet ((go_at_call 40; exact Calls.quiet_of_same (HWO.out.1 _)))
               go_wp2_with fail
               go_meet
               exact ⟨true, rfl, (Kept.refl _ _).drewN _, fun h => by cases h⟩
             · have hp2' : decide ((10 : Int) < (pn : Int)) = false := by simpa using hp2
               go_quiet ((go_at_call 40; exact Calls.quiet_of_same (HWO.out.1 _)))
               go_wp2_with fail
               go_meet
               exact ⟨false, rfl, (Kept.refl _ _).drewN _, fun _ => ⟨HWO.out.2, by omega, by omega, .inl rfl⟩⟩
         · obtain ⟨y, hy, hcy⟩ := HPV.out (by omega)
           obtain ⟨j, rfl⟩ : ∃ j, k = j + 1 := ⟨k - 1, by omega⟩
           simp only [Nat.add_sub_cancel] at hy hcy
           have cy := hcy M (Kept.refl _ _)
           have hg0 : (0 : Int) < (j : Int) + 1 := by omega
           have hw1 : IntKind.i64.wrap (j : Int) = (j : Int) := IntWalk.i64_in _ (by omega)
           have hw4 : (j : Int) < (nt : Int) := by omega
           have HY := Zhd (Zan hy hk0); clear hy hcy hk0
           cases hlt : Op.bytesLess y.top.toList xt.toList with
           | false =>
             go_quiet ((go_at_call 40; exact Calls.quiet_of_same (HWO.out.1 _)))
             go_wp2_with fail
             go_meet
             exact ⟨true, rfl, (Kept.refl _ _).drewN _, fun h => by cases h⟩
           | true =>
             by_cases hp1 : (pn : Int) < 1
             · go_quiet ((go_at_call 40; exact Calls.quiet_of_same (HWO.out.1 _)))
               go_wp2_with fail
               go_meet
               exact ⟨true, rfl, (Kept.refl _ _).drewN _, fun h => by cases h⟩
             · have hp1' : decide ((pn : Int) < 1) = false := by simpa using hp1
               by_cases hp2 : (10 : Int) < (pn : Int)
               · go_quiet ((go_at_call 40; exact Calls.quiet_of_same (HWO.out.1 _)))
                 go_wp2_with fail
                 go_meet
                 exact ⟨true, rfl, (Kept.refl _ _).drewN _, fun h => by cases h⟩
               · have hp2' : decide ((10 : Int) < (pn : Int)) = false := by simpa using hp2
                 go_quiet ((go_at_call 40; exact Calls.quiet_of_same (HWO.out.1 _)))
                 go_wp2_with fail
                 go_meet
                 exact ⟨false, rfl, (Kept.refl _ _).drewN _, fun _ => ⟨HWO.out.2, by omega, by omega, .inr ⟨y, HY.out.1, hlt⟩⟩⟩
      case rest =>
       obtain ⟨c, rfl, hkW, hcc⟩ := hcut
       cases c
       · obtain ⟨q1, q2, q3, q4⟩ := hcc rfl
         have e2 := hkW.cell c2 (by simp)
         have HQ := Zhd (Zan q1 (Zan q2 q4)); clear q1 q2 q4 hcc c1 c2
         have hkw2 : Kept [] w wc := hkM.trans hkW (by simp) (by simp)
         have hcells : 0 < pn → ∃ b off cap, Value.slice va pn vc = .slice (some ⟨b, off, none⟩) pn cap ∧ ∀ j u, (i32s xs)[j]? = some u → wc.cell? ⟨b, off + j, none⟩ = some u := fun h0 => by
          rcases hH.out.2.2.2.2.1.2.2 with ⟨_, _, _, h1⟩ | ⟨b, off, cap, h1, h2⟩
          · omega
          · exact ⟨b, off, cap, h1, fun j u hj => hkw2.cell (h2 j u hj) (by simp)⟩
         have HC := Zhd hcells; clear hcells
         go_wp2_with fail
         go_loopw [7] (fun i wr => GF2 wc xs pn i wr) (fun i _ => pn - (intOf i).toNat)
         case atStart => exact ⟨0, rfl, Nat.zero_le _, by simp, rfl⟩
         case round =>
          obtain ⟨j, rfl, hj, hr, rfl⟩ := hrel
          by_cases hjn : j < pn
          · obtain ⟨v, hv⟩ : ∃ v, xs[j]? = some v := ⟨_, List.getElem?_eq_getElem (by have := hH.out.2.2.2.1; omega)⟩
            obtain ⟨b, off, cap, hva, hcl⟩ := HC.out (by omega)
            simp only [Value.slice.injEq] at hva
            obtain ⟨rfl, _, rfl⟩ := hva
            have c5 := hcl j (.int .i32 v) (by simp [i32s, hv])
            have hji : (j : Int) < (pn : Int) := by omega
            have hwj : IntKind.i32.wrap (j : Int) = (j : Int) := IntWalk.i32_in _ (by omega)
            have HV := Zhd (Zan hv hr); clear hv hr hcl
            by_cases e : v = (j : Int)
            · subst e
              go_wp2_with fail
              refine ⟨⟨j + 1, by go_num, by omega, ?_, rfl⟩, by simp [intOf]; omega⟩
              obtain ⟨h1, h2⟩ := List.getElem?_eq_some_iff.1 HV.out.1
              rw [List.take_succ_eq_append_getElem h1, h2, HV.out.2, List.range_succ, List.map_append]
              rfl
            · go_wp2_with fail
              go_ret
              exact ⟨.inr rfl, hkw2⟩
          · obtain rfl : j = pn := by omega
            have hpn := hH.out.2.2.2.1
            rw [List.take_of_length_le (by omega)] at hr
            have hfin : TopFit ⟨xm, xt, .slice va xs.length vc, xs⟩ := ⟨HQ.out.1, by simp only; rw [hpn]; exact HQ.out.2.1, by simp only; rw [hpn]; exact q3, by simp only; rw [hpn]; exact hr⟩
            have hnext : GF1 w Ts nt (.int .i64 ((k : Nat) + 1)) wr := by
             obtain ⟨h1, h2⟩ := List.getElem?_eq_some_iff.1 hH.out.1
             refine ⟨k + 1, by go_num, by omega, fun y hy => ?_, ?_, hkw2⟩
             · rw [List.take_succ_eq_append_getElem h1, h2] at hy
               rcases Zap.1 hy with hy | hy
               · exact hH.out.2.1 y hy
               · simp only [Zmc, Znn, or_false] at hy
                 subst hy; exact hfin
             · rcases HQ.out.2.2 with h0 | ⟨y, hy, hlt⟩
               · subst h0
                 rw [List.take_succ_eq_append_getElem h1]
                 simp [RisesS]
               · cases k with
                 | zero =>
                   rw [List.take_succ_eq_append_getElem h1]
                   simp [RisesS]
                 | succ k =>
                   exact risesS_snoc hH.out.2.2.1 hy hH.out.1 hlt
            have HNX := Zhd hnext; clear hnext hfin hr
            go_wp2_with fail
            exact ⟨HNX.out, by simp [intOf]; omega⟩
       · go_wp2_with fail
         go_ret
         exact ⟨.inr rfl, hkM.trans hkW (by simp) (by simp)⟩
    · obtain rfl : k = nt := by omega
      have hTl := HM.out.2.2.2.1
      rw [List.take_of_length_le (by omega)] at hfit hris
      have HTT := Zhd (Zan hfit hris); clear hfit hris hTl
      go_wp2_with fail
      go_loopw [8] (fun i wr => GF3 w Ms N i wr) (fun i _ => N - (intOf i).toNat)
      case atStart => exact ⟨0, rfl, Nat.zero_le _, by simp, by simp [ids], hkw⟩
      case round =>
       clear hkw hk1
       obtain ⟨k, rfl, hk, hmf, hidn, hkw⟩ := hrel
       by_cases hkn : k < N
       · obtain ⟨m, hm⟩ : ∃ m, Ms[k]? = some m := ⟨_, List.getElem?_eq_getElem (by have := HM.out.2.1; omega)⟩
         have hmM := List.mem_of_getElem? hm
         obtain ⟨g, off, ta, tc, da, dc, oa, oc, rfl, e1, e2, e3, hcm⟩ := mem_at HM.out.1 HM.out.2.1 hm
         obtain ⟨c0, c1, c2, c3, c4, c5, c6, c7⟩ := hcm wr hkw
         have hki : (k : Int) < (N : Int) := by omega
         have hrd := HM.out.2.2.2.2.1 m hmM
         have hwo := fun w' => word_any m.id hrd.id w'
         have htw := hrd.tsz
         have hts := (HM.out.1.each m hmM).tops.2
         have HH := Zhd (Zan hm (Zan hmf hidn)); clear hm hmf hidn hcm hrd hmM
         obtain ⟨id, ver, tv, tops, dv, data, ov, owned, gen, rack, has⟩ := m
         simp only at e1 e2 e3 hts htw hwo c0 c1 c2 c3 c4 c5 c6 c7
         subst e1 e2 e3
         obtain ⟨tn, htn⟩ : ∃ tn, tops.length = tn := ⟨_, rfl⟩
         obtain ⟨dn, hdn⟩ : ∃ dn, data.length = dn := ⟨_, rfl⟩
         obtain ⟨on, hon⟩ : ∃ on, owned.length = on := ⟨_, rfl⟩
         rw [htn] at hts c2
         rw [hdn] at c3
         rw [hon] at c4
         have HS := Zhd (Zan htn (Zan hdn (Zan hon (Zan hts (Zan htw hwo))))); clear htn hdn hon hts htw hwo
         go_upto_region 18 with fail
         have hkM : Kept [] w (wr.alloc (.cells #[.string id, .int .i16 ver, .slice ta tn tc, .slice da dn dc, .slice oa on oc, .int .i32 gen, .string rack, .bool has] 30)) := hkw.alloc _
         have hB := box8 (Kept.refl [] (wr.alloc (.cells #[.string id, .int .i16 ver, .slice ta tn tc, .slice da dn dc, .slice oa on oc, .int .i32 gen, .string rack, .bool has] 30)))
         generalize (wr.alloc (.cells #[.string id, .int .i16 ver, .slice ta tn tc, .slice da dn dc, .slice oa on oc, .int .i32 gen, .string rack, .bool has] 30)) = M at *
         generalize wr.heap.size = bx at *
         clear c0 c1 c2 c3 c4 c5 c6 c7 hkw
         obtain ⟨_, c0, _, c2, c3, c4, _, _, _⟩ := hB
         cases hw : wordB id with
         | false =>
           have hwo' := fun w' => by have h := HS.out.2.2.2.2.2 w'; rw [hw] at h; exact h
           have HWO := Zhd hwo'; clear hwo'
           go_wp2_with (first | (go_at_call 40; refine (HWO.out _).mono ?_; rintro e w2 ⟨rfl, rfl⟩) | fail)
           go_ret
           exact ⟨.inr rfl, hkM⟩
         | true =>
           have hwo' := fun w' => by have h := HS.out.2.2.2.2.2 w'; rw [hw] at h; exact h
           have HWO := Zhd hwo'; clear hwo'
           by_cases g1 : (6 : Int) < (tn : Int)
           · go_wp2_with (first | (go_at_call 40; refine (HWO.out _).mono ?_; rintro e w2 ⟨rfl, rfl⟩) | fail)
             go_ret
             exact ⟨.inr rfl, hkM⟩
           by_cases g2 : (0 : Int) < (dn : Int)
           · go_wp2_with (first | (go_at_call 40; refine (HWO.out _).mono ?_; rintro e w2 ⟨rfl, rfl⟩) | fail)
             go_ret
             exact ⟨.inr rfl, hkM⟩
           by_cases g3 : (0 : Int) < (on : Int)
           · go_wp2_with (first | (go_at_call 40; refine (HWO.out _).mono ?_; rintro e w2 ⟨rfl, rfl⟩) | fail)
             go_ret
             exact ⟨.inr rfl, hkM⟩
           have g1' : decide ((6 : Int) < (tn : Int)) = false := by simpa using g1
           have g2' : decide ((0 : Int) < (dn : Int)) = false := by simpa using g2
           have g3' : decide ((0 : Int) < (on : Int)) = false := by simpa using g3
           have g2n : decide (0 < dn) = false := by simp; omega
           have g3n : decide (0 < on) = false := by simp; omega
           go_wp2_with (first | (go_at_call 40; refine (HWO.out _).mono ?_; rintro e w2 ⟨rfl, rfl⟩) | fail)
           clear g1' g2' g3' g2n g3n
           go_loopw [10] (fun i wr => GF4 w2 Ms id k i wr) (fun i _ => k - (intOf i).toNat)
           case atStart => exact ⟨0, rfl, Nat.zero_le _, by simp [ids], Kept.refl _ _⟩
           case round =>
            obtain ⟨j, rfl, hj, hno, hkj⟩ := hrel
            by_cases hjk : j < k
            · obtain ⟨m2, hm2⟩ : ∃ m, Ms[j]? = some m := ⟨_, List.getElem?_eq_getElem (by have := HM.out.2.1; omega)⟩
              obtain ⟨g', o', _, _, _, _, _, _, e4, _, _, _, hcm2⟩ := mem_at HM.out.1 HM.out.2.1 hm2
              cases e4
              have cj := (hcm2 wr (hkM.trans hkj (by simp) (by simp))).1
              have ci := hkj.cell c0 (by simp)
              have hji : (j : Int) < (N : Int) := by omega
              have hjk' : (j : Int) < (k : Int) := by omega
              have HJ := Zhd (Zan hm2 hno); clear hm2 hno hcm2
              by_cases e : m2.id = id
              · have hse : (m2.id.toList == id.toList) = true := beq_iff_eq.2 (by rw [e])
                go_upto_region 23 with fail
                go_quiet (fail)
                go_wp2_with fail
                go_ret
                exact ⟨.inr rfl, (hkM.trans hkj (U := []) (by simp) (by simp)).drewN _⟩
              · have hse : (m2.id.toList == id.toList) = false := beq_eq_false_iff_ne.2 (fun h => e ((ba_inj _ _).1 h))
                have HE := Zhd e; clear e
                go_upto_region 23 with fail
                go_quiet (fail)
                go_wp2_with fail
                refine ⟨⟨j + 1, by go_num, by omega, ?_, hkj.drewN _⟩, by simp [intOf]; omega⟩
                rw [take_snoc' HJ.out.1]
                intro h
                unfold ids at h
                rw [List.map_append] at h
                rcases Zap.1 h with h | h
                · exact HJ.out.2 h
                · simp only [List.map_cons, List.map_nil, Zmc, Znn, or_false] at h
                  exact HE.out h.symm
            · obtain rfl : j = k := by omega
              have HNO := Zhd hno; clear hno
              have d2 := hkj.cell c2 (by simp)
              have hkM2 : Kept [] w wr := hkM.trans hkj (by simp) (by simp)
              clear c0 c2 c3 c4 hkj hkM
              obtain ⟨wZ, rfl⟩ : ∃ wZ, wZ = wr := ⟨_, rfl⟩
              go_wp2_with fail
              go_loopw [11] (fun i wr' => GF5 wZ tops tn i wr') (fun i _ => tn - (intOf i).toNat)
              case atStart => exact ⟨0, rfl, Nat.zero_le _, by simp, Kept.refl _ _⟩
              case round =>
               obtain ⟨q, rfl, hq, hnd, hkq⟩ := hrel
               have d3 := hkq.cell d2 (by simp)
               have hkM3 : Kept [] w wr := hkM2.trans hkq (by simp) (by simp)
               by_cases hqn : q < tn
               · obtain ⟨t, ht⟩ : ∃ t, tops[q]? = some t := ⟨_, List.getElem?_eq_getElem (by have := HS.out.1; omega)⟩
                 obtain ⟨b, o2, cap, hva, hcl⟩ : ∃ b off cap, Value.slice ta tn tc = .slice (some ⟨b, off, none⟩) tn cap ∧ ∀ j u, (strs tops)[j]? = some u → w.cell? ⟨b, off + j, none⟩ = some u := by
                  have h1 := HS.out.2.2.2.1
                  rcases h1.2.2 with ⟨_, _, _, h2⟩ | h2
                  · omega
                  · exact h2
                 simp only [Value.slice.injEq] at hva
                 obtain ⟨rfl, _, rfl⟩ := hva
                 have ct := hkM3.cell (hcl q (.string t) (by simp [strs, ht])) (by simp)
                 have hqi : (q : Int) < (tn : Int) := by omega
                 have hwt := fun w' => word_any t (HS.out.2.2.2.2.1 t (List.mem_of_getElem? ht)) w'
                 cases hw2 : wordB t with
                 | false =>
                   have hwt' := fun w' => by have h := hwt w'; rw [hw2] at h; exact h
                   have HWT := Zhd hwt'; clear hwt' hwt hcl ht hnd
                   go_wp2_with (first | (go_at_call 40; refine (HWT.out _).mono ?_; rintro e w2 ⟨rfl, rfl⟩) | fail)
                   go_ret
                   exact ⟨.inr rfl, hkM3⟩
                 | true =>
                   have hwt' := fun w' => by have h := hwt w'; rw [hw2] at h; exact h
                   have HWT := Zhd (Zan hwt' (Zan hcl (Zan ht hnd))); clear hwt' hwt hcl ht hnd
                   go_wp2_with (first | (go_at_call 40; refine (HWT.out.1 _).mono ?_; rintro e w2 ⟨rfl, rfl⟩) | fail)
                   obtain ⟨wY, rfl⟩ : ∃ wY, wY = w2 := ⟨_, rfl⟩
                   go_loopw [12] (fun i wr' => GF6 wY tops t q i wr') (fun i _ => q - (intOf i).toNat)
                   case atStart => exact ⟨0, rfl, Nat.zero_le _, by simp, Kept.refl _ _⟩
                   case round =>
                    obtain ⟨l, rfl, hl, hno, hkl⟩ := hrel
                    by_cases hlq : l < q
                    · obtain ⟨t2, ht2⟩ : ∃ t, tops[l]? = some t := ⟨_, List.getElem?_eq_getElem (by have := HS.out.1; omega)⟩
                      have ct2 := hkl.cell ct (by simp)
                      have cl2 := (hkM3.trans hkl (U := []) (by simp) (by simp)).cell (HWT.out.2.1 l (.string t2) (by simp [strs, ht2])) (by simp)
                      have d4 := hkl.cell d3 (by simp)
                      have hli : (l : Int) < (tn : Int) := by omega
                      have hlq' : (l : Int) < (q : Int) := by omega
                      have HL := Zhd (Zan ht2 hno); clear ht2 hno
                      by_cases e : t2 = t
                      · have hse : (t2.toList == t.toList) = true := beq_iff_eq.2 (by rw [e])
                        have HE := Zhd e; clear e
                        go_upto_region 33 with fail
                        go_quiet (fail)
                        go_wp2_with fail
                        go_ret
                        exact ⟨.inr rfl, (hkM3.trans hkl (U := []) (by simp) (by simp)).drewN _⟩
                      · have hse : (t2.toList == t.toList) = false := beq_eq_false_iff_ne.2 (fun h => e ((ba_inj _ _).1 h))
                        have HE := Zhd e; clear e
                        go_upto_region 33 with fail
                        go_quiet (fail)
                        go_wp2_with fail
                        refine ⟨⟨l + 1, by go_num, by omega, ?_, hkl.drewN _⟩, by simp [intOf]; omega⟩
                        rw [take_snoc' HL.out.1]
                        intro h
                        rcases Zap.1 h with h | h
                        · exact HL.out.2 h
                        · simp only [Zmc, Znn, or_false] at h
                          exact HE.out h.symm
                    · obtain rfl : l = q := by omega
                      have hnx : GF5 wZ tops tn (.int .i64 ((l : Nat) + 1)) wr := ⟨l + 1, by go_num, by omega, by rw [take_snoc' HWT.out.2.2.1]; exact nodup_snoc HWT.out.2.2.2 hno, hkq.trans hkl (by simp) (by simp)⟩
                      have HNX := Zhd hnx; clear hnx hno
                      go_wp2_with fail
                      first
                       | exact ⟨HNX.out, by simp [intOf]; omega⟩
                       | (refine ⟨?_, by simp [intOf]; omega⟩; (repeat apply Exists.intro); exact ⟨HNX.out, rfl⟩)
               · obtain rfl : q = tn := by omega
                 rw [List.take_of_length_le (by have := HS.out.1; omega)] at hnd
                 have hnx : GF3 w Ms N (.int .i64 ((j : Nat) + 1)) wr := by
                  refine ⟨j + 1, by go_num, by omega, fun y hy => ?_, ?_, hkM3⟩
                  · rw [take_snoc' HH.out.1] at hy
                    rcases Zap.1 hy with hy | hy
                    · exact HH.out.2.1 y hy
                    · simp only [Zmc, Znn, or_false] at hy
                      subst hy
                      exact ⟨by have := HS.out.1; simp only; omega, hnd, List.eq_nil_of_length_eq_zero (by have := HS.out.2.1; simp only; omega), List.eq_nil_of_length_eq_zero (by have := HS.out.2.2.1; simp only; omega)⟩
                  · rw [take_snoc' HH.out.1]
                    unfold ids
                    rw [List.map_append]
                    exact nodup_snoc HH.out.2.2 HNO.out
                 have HNX := Zhd hnx; clear hnx hnd
                 go_wp2_with fail
                 exact ⟨HNX.out, by simp [intOf]; omega⟩
       · obtain rfl : k = N := by omega
         have hMl := HM.out.2.1
         rw [List.take_of_length_le (by omega)] at hmf hidn
         have hfin : GFit Ms Ts := ⟨by omega, by omega, by have := HM.out.2.2.2.1; omega, by have := HM.out.2.2.2.1; omega, HTT.out.1, HTT.out.2, hmf, hidn⟩
         have HFN := Zhd hfin; clear hfin hmf hidn hMl
         go_wp2_with fail
         go_ret
         exact ⟨.inl ⟨rfl, HFN.out⟩, hkw⟩
end
end Go.Proofs.YticcnlpfmekagaaGreat
