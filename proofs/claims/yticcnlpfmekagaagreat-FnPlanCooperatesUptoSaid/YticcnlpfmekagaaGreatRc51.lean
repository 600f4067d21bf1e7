/- Part 51 of the proof of the row: LawCo. -/
import Derived.Test.YticcnlpfmekagaaGreatRc00
import Derived.Test.YticcnlpfmekagaaGreatRc50
import Derived.Test.YticcnlpfmekagaaGreatRc44
import Derived.Test.YticcnlpfmekagaaGreatRc46
set_option linter.unusedVariables false
set_option linter.unusedSimpArgs false
set_option maxRecDepth 100000
set_option maxHeartbeats 8000000
namespace Go.Proofs.YticcnlpfmekagaaGreat
section
open Go Go.Proofs Go.RowKit Go.Lib Go.Deep
theorem nil_shrs (w : World) : ShrsAt w (.slice none 0 0) [] := ⟨⟨none, 0, rfl⟩, ⟨rfl, fun u hu => by simp at hu, .inl ⟨none, 0, rfl, rfl⟩⟩, fun x hx => by cases hx⟩
theorem bare_at {w : World} {m : Mem} (h : MemAt w m) : MemAt w (bareM m) := ⟨h.tops, h.data, nil_shrs w⟩
theorem bare_rd {w : World} {m : Mem} (h : MemRd w m) : MemRd w (bareM m) :=
 ⟨bare_at h.at_, h.id, h.ver, h.gen, h.rack, h.data, ⟨h.ln.1, h.ln.2.1, by simp [bareM]⟩, fun x hx => (nomatch hx), h.tsz⟩
structure CoIn (w : World) (am : Option Addr) (N cm : Nat) (Ms : List Mem) (at' : Option Addr) (nt ct : Nat) (Ts : List Shr) : Prop where
 m : MemsAt w (.slice am N cm) Ms
 n : Ms.length = N
 t : ShrsAt w (.slice at' nt ct) Ts
 tn : Ts.length = nt
 rd : ∀ m ∈ Ms, MemRd w m
 sz : ∀ t ∈ Ts, t.top.size ≤ maxLen
 bn : N ≤ 1048576 ∧ nt ≤ maxLen
 bo : (ownL Ms).length ≤ 1048576
 bp : ∀ x ∈ ownL Ms, x.parts.length ≤ 1048576
theorem CoIn.kept {w w' : World} {am : Option Addr} {N cm : Nat} {Ms : List Mem} {at' : Option Addr} {nt ct : Nat} {Ts : List Shr} (h : CoIn w am N cm Ms at' nt ct Ts) (k : Kept [] w w') : CoIn w' am N cm Ms at' nt ct Ts :=
 ⟨h.m.keptW k, h.n, h.t.kept k (by simp) (by simp), h.tn, fun m hm => (h.rd m hm).kept0 k, h.sz, h.bn, h.bo, h.bp⟩
theorem own_sub {Ms : List Mem} {m : Mem} (hm : m ∈ Ms) : m.owned.length ≤ (ownL Ms).length := by
 obtain ⟨A, B, rfl⟩ := List.append_of_mem hm
 have : (ownShr m).length = m.owned.length := by simp [ownShr]
 simp only [ownL, List.flatMap_append, List.flatMap_cons, List.length_append]
 omega
theorem ownL_take (Ms : List Mem) (k : Nat) : (ownL (Ms.take k)).length ≤ (ownL Ms).length := by
 have : ownL Ms = ownL (Ms.take k) ++ ownL (Ms.drop k) := by
  unfold ownL
  rw [← List.flatMap_append, List.take_append_drop]
 rw [this, List.length_append]; omega
def CR1 (w : World) (g c N : Nat) (Ms : List Mem) (v i : Value) (wr : World) : Prop :=
 ∃ k : Nat, i = .int .i64 k ∧ k ≤ N ∧ (∀ m ∈ Ms.take k, m.ver = 2 ∧ m.gen = 1) ∧ (∀ x ∈ ownL (Ms.take k), x.parts ≠ []) ∧
  St [] w wr [Rs.row 33 3 v (ownL (Ms.take k)).length ((ownL (Ms.take k)).flatMap shrCells), Rs.row 30 8 (.slice (some ⟨g, 0, none⟩) N c) N ((bareOf Ms k).flatMap memCells)] []
def CR2 (w : World) (L0 : List Shr) (m : Mem) (X : Res) (on : Nat) (v j : Value) (wr : World) : Prop :=
 ∃ q : Nat, j = .int .i64 q ∧ q ≤ on ∧ (∀ x ∈ (ownShr m).take q, x.parts ≠ []) ∧
  St [] w wr [Rs.row 33 3 v (L0 ++ (ownShr m).take q).length ((L0 ++ (ownShr m).take q).flatMap shrCells), X] []
theorem ownShr_next {m : Mem} {q : Nat} {x : Shr} (h : m.owned[q]? = some x) : (ownShr m).take (q + 1) = (ownShr m).take q ++ [⟨m.id, x.top, x.val, x.parts⟩] :=
 take_snoc' (by unfold ownShr; rw [List.getElem?_map, h]; rfl)
def C13 (w3 : World) (pn : Nat) (b : Value) (W : World) : Prop := ∃ c : Bool, b = .bool c ∧ Kept [] w3 W ∧ (c = false → pn ≠ 0)
def GrpPostN (w : World) (Ms : List Mem) (Ts : List Shr) (e : Ending) (w' : World) : Prop :=
 ∃ (A : Asg) (L : List Shr) (a : Option Addr) (n c : Nat), e = .returned (.tuple #[.slice a n c, .bool true]) ∧ L.length = n ∧ PlanOkC Ms (allT Ts) A ∧ Shows (L.map trip) A ∧ Canon ltMT (L.map trip) ∧ ShrsAt w' (.slice a n c) L ∧ Kept [] w w'
theorem GrpPostC.n {w : World} {Ms : List Mem} {Ts : List Shr} {e : Ending} {w' : World} (h : GrpPostC w Ms Ts e w') : GrpPostN w Ms Ts e w' := by
 obtain ⟨A, L, a, c, h0, h1, h2, h3, h4, _, _, h5⟩ := h
 exact ⟨A, L, a, L.length, c, h0, rfl, h1, h2, h3, h4, h5⟩
theorem law_coop (am : Option Addr) (N cm : Nat) (Ms : List Mem) (at' : Option Addr) (nt ct : Nat) (Ts : List Shr) (w0 : World) (h : CoIn w0 am N cm Ms at' nt ct Ts) (hn1 : 1 ≤ N) :
 Calls Tryz.prog 3 #[.slice am N cm, .slice at' nt ct] w0 fun e w' => e = .returned (.bool true) ∧ Kept [] w0 w' := by
 have hmx : maxLen = 9223372036854775807 := rfl
 have hbn := h.bn.1
 have hf2 := fits2_any am N cm Ms w0 h.m h.n (by omega) (fun m hmM => ⟨(h.rd m hmM).ln.1, (h.rd m hmM).ln.2.2⟩)
 have hf5 := fun W (k : Kept [] w0 W) => fits5 (.slice at' nt ct) Ts W (h.kept k).t (by rw [h.tn]; exact h.bn.2)
 have HC := Zhd (Zan hf2 hf5); clear hf2 hf5
 have HAL := Zhd alive
 have HM0 := Zhd h; clear h
 go_enter Tryz.func3, Tryz.ntmps3
 go_upto_region 3 with (first
  | (go_at_call 12; refine HC.out.1.mono ?_; rintro e w1 ⟨⟨b1, rfl⟩, hk1⟩; cases b1)
  | (go_at_call 13; refine (HC.out.2 _ hk1).mono ?_; rintro e w2 ⟨⟨b2, rfl⟩, hk2⟩; have hk3 := hk1.trans hk2 (U := []) (by simp) (by simp); cases b2)
  | fail)
 · go_wp2
   go_ret
   exact ⟨rfl, hk1⟩
 · go_wp2
   go_ret
   exact ⟨rfl, hk3⟩
 clear HC hk1 hk2
 have HM := Zhd (HM0.out.kept hk3)
 have hst0 : St [] w2 w2 [] [] := St.start0 (Ow.nil w2)
 have hst1 := hst0.made 30 8 0 [] rfl (by decide)
 have hms := HM.out.m.cells
 rw [HM.out.n] at hms
 have hsrc := (hms.kept (hst1.kept) (by simp)).src Tryz.underlying22
 clear hms
 go_upto_region 4 with (first
  | (refine wl_push 0 rfl rfl elMem rfl rfl hst1 rfl hsrc (by omega) (by omega) ?_
     intro v' w3 hst2
     simp only [Zs0, List.nil_append, Nat.zero_add] at hst2)
  | fail)
 obtain ⟨g, c, rfl⟩ := own_some (hst2.m 0 rfl) (by omega)
 have hst3 := hst2.made 33 3 0 [] rfl (by decide)
 have h10 : CR1 w2 g c N Ms (.slice (some ⟨w3.heap.size, 0, none⟩) 0 0) (.int .i64 0) (w3.alloc (.cells #[] 33)) := ⟨0, rfl, Nat.zero_le _, by simp, by simp [ownL], by simpa [ownL, bareOf_zero] using hst3⟩
 have H10 := Zhd h10; clear h10 hst3 hst2 hst1 hst0 hsrc
 go_wp2_with fail
 go_loopw [6, 7] (fun v i wr => CR1 w2 g c N Ms v i wr) (fun _ i _ => N - (intOf i).toNat)
 case atStart => exact H10.out
 case round =>
  obtain ⟨k, rfl, hk, hvg, hne, hst⟩ := hrel
  clear H10
  by_cases hkn : k < N
  · obtain ⟨m, hmk⟩ : ∃ m, Ms[k]? = some m := ⟨_, List.getElem?_eq_getElem (by have := HM.out.n; omega)⟩
    have hki : (k : Int) < (N : Int) := by omega
    obtain ⟨gm, om, ta, tc, da, dc, oa, oc, rfl, e1, e2, e3, hcm⟩ := mem_at HM.out.m HM.out.n hmk
    have hmM := List.mem_of_getElem? hmk
    have hown := (HM.out.m.each m hmM).owned
    rw [e3] at hown
    obtain ⟨on, hon⟩ : ∃ on, m.owned.length = on := ⟨_, rfl⟩
    have honb : on ≤ 1048576 := by rw [← hon]; have := own_sub hmM; have := HM.out.bo; omega
    rw [hon] at hown e3
    have hmg := bareOf_get hmk
    have hL0 := ownL_take Ms (k + 1)
    rw [ownL_snoc hmk, List.length_append] at hL0
    have hL0b : (ownL (Ms.take k)).length + on ≤ 1048576 := by
     have h1 : (ownShr m).length = on := by rw [← hon]; simp [ownShr]
     have := HM.out.bo; omega
    have h20 : CR2 w2 (ownL (Ms.take k)) m (Rs.row 30 8 (.slice (some ⟨g, 0, none⟩) N c) N ((bareOf Ms k).flatMap memCells)) on u6 (.int .i64 0) wr := ⟨0, rfl, Nat.zero_le _, by simp, by simpa using hst⟩
    have HH := Zhd (Zan hmk (Zan hmM (Zan hown (Zan hon (Zan hmg (Zan hvg (Zan hne (Zan e3 hcm)))))))); clear hmk hmM hown hon hmg hvg hne hcm hL0 e1 e2 e3
    have H20 := Zhd h20; clear h20 hst
    obtain ⟨L0, hL0⟩ : ∃ L0, L0 = ownL (Ms.take k) := ⟨_, rfl⟩
    have HL0 := Zhd hL0
    rw [← hL0] at H20 hL0b
    clear hL0
    go_wp2_with fail
    go_loopw [6, 8] (fun v j wr' => CR2 w2 L0 m (Rs.row 30 8 (.slice (some ⟨g, 0, none⟩) N c) N ((bareOf Ms k).flatMap memCells)) on v j wr') (fun _ j _ => on - (intOf j).toNat)
    case atStart => exact H20.out
    case round =>
     obtain ⟨q, rfl, hq, hne2, hst2⟩ := hrel
     clear H20
     have hcid := (own_cell (j := k * 8) (hst2.m 1 rfl) (mem_get HH.out.2.2.2.2.1 0 (by omega))).1
     have hc4 := (own_cell (j := k * 8 + 4) (hst2.m 1 rfl) (mem_get HH.out.2.2.2.2.1 4 (by omega))).1
     have hc4' : wr.cell? ⟨g, k * 8 + 4, none⟩ = some (.slice oa on oc) := by rw [hc4, HH.out.2.2.2.2.2.2.2.1]
     clear hc4
     by_cases hqn : q < on
     · obtain ⟨x, hx⟩ : ∃ x, m.owned[q]? = some x := ⟨_, List.getElem?_eq_getElem (by have := HH.out.2.2.2.1; omega)⟩
       obtain ⟨gp, op, va, vc, rfl, hv, hcx⟩ := shr_at HH.out.2.2.1 HH.out.2.2.2.1 hx
       obtain ⟨d0, d1, d2⟩ := hcx wr hst2.kept
       have hqi : (q : Int) < (on : Int) := by omega
       have hxL : x ∈ m.owned := List.mem_of_getElem? hx
       have hsn := ownShr_next hx
       have hpb : x.parts.length ≤ 1048576 := HM.out.bp ⟨m.id, x.top, x.val, x.parts⟩ (List.mem_flatMap.2 ⟨m, HH.out.2.1, List.mem_map.2 ⟨x, hxL, rfl⟩⟩)
       have hlen : ∀ L1, L1 = (ownShr m).take q → (L0 ++ L1).length ≤ 1048576 := fun L1 e => by
        rw [e, List.length_append, List.length_take]; omega
       obtain ⟨L1, hL1⟩ : ∃ L1, L1 = (ownShr m).take q := ⟨_, rfl⟩
       have hlb := hlen L1 hL1
       rw [← hL1] at hst2 hsn hne2
       obtain ⟨pn, hpn⟩ : ∃ pn, x.parts.length = pn := ⟨_, rfl⟩
       rw [hpn] at d2 hcx hv hpb
       have hstB := hst2.blk (.cells #[.string x.mem, .string x.top, .slice va pn vc] 33)
       have hbx : (wr.alloc (.cells #[.string x.mem, .string x.top, .slice va pn vc] 33)).heap[wr.heap.size]? = some (.cells #[.string x.mem, .string x.top, .slice va pn vc] 33 (0, 0)) := heap_alloc_new wr _
       have HX := Zhd (Zan hx (Zan hsn (Zan hne2 (Zan hv (Zan hpn hcx))))); clear hx hsn hne2 hv hpn hcx hxL hlen hL1
       go_upto_region 12 with fail
       have k1 : Kept [] w2 (wr.alloc (.cells #[.string x.mem, .string x.top, .slice va pn vc] 33)) := hstB.kept
       have ci0 : (wr.alloc (.cells #[.string x.mem, .string x.top, .slice va pn vc] 33)).cell? ⟨g, k * 8, none⟩ = some (.string m.id) := ((Kept.refl [] wr).alloc _).cell hcid (by simp)
       have ci4 : (wr.alloc (.cells #[.string x.mem, .string x.top, .slice va pn vc] 33)).cell? ⟨g, k * 8 + 4, none⟩ = some (.slice (some ⟨gp, op, none⟩) on oc) := ((Kept.refl [] wr).alloc _).cell hc4' (by simp)
       clear d0 d1 d2 hcid hc4' hst2
       generalize wr.alloc (.cells #[.string x.mem, .string x.top, .slice va pn vc] 33) = B at *
       generalize wr.heap.size = b at *
       have bx1 := (cells_of hbx).1 1 _ rfl
       have bx2 := (cells_of hbx).1 2 _ rfl
       simp only [List.getElem_toArray, List.getElem_cons_succ, List.getElem_cons_zero] at bx1 bx2
       have hst3 := (hstB.kept0 (Kept.refl [] B).drew).alloc (.cells #[.string m.id, .string x.top, .slice va pn vc] 33)
       have hsl := new_sl3 B.drew 33 (.string m.id) (.string x.top) (.slice va pn vc) rfl
       have hsrc := hsl.src Tryz.underlying23
       simp at hsrc
       have HSRC := Zhd hsrc; clear hsrc hsl
       have hss : ∀ W, Kept [] B W → W.cell? ⟨g, k * 8, none⟩ = some (.string m.id) ∧ W.cell? ⟨b, 1, none⟩ = some (.string x.top) ∧ W.cell? ⟨b, 2, none⟩ = some (.slice va pn vc) := fun W hW => ⟨hW.cell ci0 (by simp), hW.cell bx1 (by simp), hW.cell bx2 (by simp)⟩
       have HSS := Zhd hss; clear hss
       have HB := Zhd hbx; clear hbx
       go_region_held3 (fun W => W.cell? ⟨g, k * 8, none⟩ = some (.string m.id) ∧ W.cell? ⟨b, 1, none⟩ = some (.string x.top) ∧ W.cell? ⟨b, 2, none⟩ = some (.slice va pn vc))
        (first | with_reducible exact HSS.out _ (Kept.refl _ _).drew | with_reducible exact HSS.out _ ((Kept.refl _ _).drew.alloc _) | with_reducible exact ⟨(own_cell (j := k * 8) (hst4.m 2 rfl) (mem_get HH.out.2.2.2.2.1 0 (by omega))).1, (cells_of (hst4.m 0 rfl)).1 1 _ rfl, (cells_of (hst4.m 0 rfl)).1 2 _ rfl⟩ | fail)
        (first
          | (refine sl_push 1 rfl rfl elSh rfl rfl hst3 rfl HSRC.out (by omega) (by omega) ?_
             intro v' w3 hst4
             simp only [Zs0, Zs1] at hst4)
          | fail)
       go_upto_region 13 with fail
       have hb1 := (cells_of (hst4.m 0 rfl)).1 1 _ rfl
       have hb2 := (cells_of (hst4.m 0 rfl)).1 2 _ rfl
       simp only [List.getElem_toArray, List.getElem_cons_succ, List.getElem_cons_zero] at hb1 hb2
       have hr4 := (own_cell (j := k * 8 + 4) (hst4.m 2 rfl) (mem_get HH.out.2.2.2.2.1 4 (by omega))).1
       have hr4' : w3.cell? ⟨g, k * 8 + 4, none⟩ = some (.slice (some ⟨gp, op, none⟩) on oc) := by rw [hr4, HH.out.2.2.2.2.2.2.2.1]
       have hprev : 0 < q → ∃ y : Shr, m.owned[q - 1]? = some y ∧ w3.cell? ⟨gp, op + (q - 1) * 3 + 1, none⟩ = some (.string y.top) := fun h0 => by
        obtain ⟨y, hy⟩ : ∃ y, m.owned[q - 1]? = some y := ⟨_, List.getElem?_eq_getElem (by have := HH.out.2.2.2.1; omega)⟩
        obtain ⟨g', o', _, _, e, _, hc⟩ := shr_at HH.out.2.2.1 HH.out.2.2.2.1 hy
        cases e
        exact ⟨y, hy, (hc w3 hst4.kept).2.1⟩
       have HPV := Zhd (Zan hprev hst4); clear hprev hr4 hst3 hst4 hstB HSRC HSS bx1 bx2 ci0 ci4 k1
       generalize x.top = xt at *
       generalize x.mem = xm at *
       go_cut [95] (fun b W => C13 w3 pn b W)
       case first =>
        by_cases hq0 : q = 0
        · subst hq0
          have hg0 : decide ((0 : Int) < ((0 : Nat) : Int)) = false := by simp
          by_cases hp0 : pn = 0
          · subst hp0
            go_quiet (fail)
            go_wp2_with fail
            go_meet
            exact ⟨true, rfl, (Kept.refl _ _).drewN _, fun h => by cases h⟩
          · have hp1 : ((pn : Int) == 0) = false := beq_eq_false_iff_ne.2 (by omega)
            go_quiet (fail)
            go_wp2_with fail
            go_meet
            exact ⟨false, rfl, (Kept.refl _ _).drewN _, fun _ => hp0⟩
        · obtain ⟨y, hy, hcy⟩ := HPV.out.1 (by omega)
          obtain ⟨j, rfl⟩ : ∃ j, q = j + 1 := ⟨q - 1, by omega⟩
          simp only [Nat.add_sub_cancel] at hy hcy
          have hg0 : (0 : Int) < (j : Int) + 1 := by omega
          have hw1 : IntKind.i64.wrap (j : Int) = (j : Int) := IntWalk.i64_in _ (by omega)
          have hw4 : (j : Int) < (on : Int) := by omega
          have HY := Zhd hy; clear hy
          cases hlt : Op.bytesLess y.top.toList xt.toList with
          | false =>
            go_quiet (fail)
            go_wp2_with fail
            go_meet
            exact ⟨true, rfl, (Kept.refl _ _).drewN _, fun h => by cases h⟩
          | true =>
            by_cases hp0 : pn = 0
            · subst hp0
              go_quiet (fail)
              go_wp2_with fail
              go_meet
              exact ⟨true, rfl, (Kept.refl _ _).drewN _, fun h => by cases h⟩
            · have hp1 : ((pn : Int) == 0) = false := beq_eq_false_iff_ne.2 (by omega)
              go_quiet (fail)
              go_wp2_with fail
              go_meet
              exact ⟨false, rfl, (Kept.refl _ _).drewN _, fun _ => hp0⟩
       case rest =>
        obtain ⟨cb, rfl, hkc, hcp⟩ := hcut
        have hst5 := HPV.out.2.kept0 hkc
        cases cb with
        | true =>
          have hkf := hk3.trans hst5.kept (U := []) (by simp) (by simp)
          clear hst5
          go_wp2_with (first
           | (go_at_call 14; refine (HAL.out _).mono ?_; rintro e w8 ⟨rfl, hk8⟩; have hk9 := hkf.trans hk8 (U := []) (by simp) (by simp))
           | fail)
          go_ret
          exact ⟨rfl, hk9⟩
        | false =>
          have hst6 := hst5.drop 0
          simp only [Ze0] at hst6
          have hnx : CR2 w2 L0 m (Rs.row 30 8 (.slice (some ⟨g, 0, none⟩) N c) N ((bareOf Ms k).flatMap memCells)) on v' (.int .i64 ((q : Nat) + 1)) wc := by
           refine ⟨q + 1, by go_num, by omega, fun z hz => ?_, ?_⟩
           · rw [HX.out.2.1] at hz
             rcases Zap.1 hz with hz | hz
             · exact HX.out.2.2.1 z hz
             · simp only [Zmc, Znn, or_false] at hz
               subst hz
               intro e
               have h1 := HX.out.2.2.2.2.1
               simp only at e
               rw [e] at h1
               exact hcp rfl h1.symm
           · rw [HX.out.2.1]
             have e1 : (L0 ++ (L1 ++ [(⟨m.id, xt, x.val, x.parts⟩ : Shr)])).length = (L0 ++ L1).length + 1 := by simp; omega
             have e2 : (L0 ++ (L1 ++ [(⟨m.id, xt, x.val, x.parts⟩ : Shr)])).flatMap shrCells = (L0 ++ L1).flatMap shrCells ++ [.string m.id, .string xt, .slice va pn vc] := by
              simp [shrCells, HX.out.2.2.2.1]
             rw [e1, e2]; exact hst6
          have HNX := Zhd hnx; clear hnx hst5 hst6 hcp HPV
          go_wp2_with fail
          first | exact ⟨HNX.out, by simp [intOf]; omega⟩ | (refine ⟨?_, by simp [intOf]; omega⟩; (repeat apply Exists.intro); exact ⟨HNX.out, rfl⟩)
     · obtain rfl : q = on := by omega
       have etk : (ownShr m).take q = ownShr m := List.take_of_length_le (by have := HH.out.2.2.2.1; simp [ownShr]; omega)
       rw [etk] at hst2 hne2
       have hoc := own_cell (j := k * 8 + 4) (hst2.m 1 rfl) (mem_get HH.out.2.2.2.2.1 4 (by omega))
       obtain ⟨hoc1, hoc2⟩ := hoc
       have hst3 := hst2.setRow 1 rfl (k * 8 + 4) (.slice none 0 0)
       obtain ⟨A, B, hA, eA, eB⟩ := bareOf_split HH.out.1
       have eset : ((bareOf Ms k).flatMap memCells).set (k * 8 + 4) (.slice none 0 0) = (bareOf Ms (k + 1)).flatMap memCells := by
        rw [eA, eB]
        exact set_midN (m := m) (m' := bareM m) (j := 4) (by omega) rfl hA
       rw [eset] at hst3
       simp only [Zs0, Zs1] at hst3
       have htk := take_snoc' HH.out.1
       have hnx : m.ver = 2 → m.gen = 1 → CR1 w2 g c N Ms u6 (.int .i64 ((k : Nat) + 1)) (wr.setCell ⟨g, k * 8 + 4, none⟩ (.slice none 0 0)) := fun q1 q2 => by
        have e0 : ownL (Ms.take (k + 1)) = L0 ++ ownShr m := by rw [ownL_snoc HH.out.1, HL0.out]
        refine ⟨k + 1, by go_num, by omega, fun z hz => ?_, fun z hz => ?_, by rw [e0]; exact hst3⟩
        · rw [htk] at hz
          rcases Zap.1 hz with hz | hz
          · exact HH.out.2.2.2.2.2.1 z hz
          · simp only [Zmc, Znn, or_false] at hz
            subst hz; exact ⟨q1, q2⟩
        · rw [e0] at hz
          rcases Zap.1 hz with hz | hz
          · rw [HL0.out] at hz; exact HH.out.2.2.2.2.2.2.1 z hz
          · exact hne2 z hz
       obtain ⟨_, f1, _, _, _, f5, _⟩ := HH.out.2.2.2.2.2.2.2.2 (wr.setCell ⟨g, k * 8 + 4, none⟩ (.slice none 0 0)) hst3.kept
       have hkf := hk3.trans hst3.kept (U := []) (by simp) (by simp)
       have HNX := Zhd hnx; clear hnx hst3 hst2 eset hA eA eB htk hne2 etk hcid HH HL0
       generalize m.ver = mv at *
       generalize m.gen = mg at *
       generalize m.id = mid at *
       by_cases hv2 : mv = 2
       · subst hv2
         by_cases hg1 : mg = 1
         · subst hg1
           go_wp2_with fail
           exact ⟨HNX.out rfl rfl, by simp [intOf]; omega⟩
         · have hgb : (mg == 1) = false := beq_eq_false_iff_ne.2 hg1
           clear HNX
           go_wp2_with (first
            | (go_at_call 14; refine (HAL.out _).mono ?_; rintro e w8 ⟨rfl, hk8⟩; have hk9 := hkf.trans hk8 (U := []) (by simp) (by simp))
            | fail)
           go_ret
           exact ⟨rfl, hk9⟩
       · have hvb : (mv == 2) = false := beq_eq_false_iff_ne.2 hv2
         clear HNX
         go_wp2_with (first
          | (go_at_call 14; refine (HAL.out _).mono ?_; rintro e w8 ⟨rfl, hk8⟩; have hk9 := hkf.trans hk8 (U := []) (by simp) (by simp))
          | fail)
         go_ret
         exact ⟨rfl, hk9⟩
  · obtain rfl : N = k := by omega
    have eN : Ms.take N = Ms := List.take_of_length_le (by have := HM.out.n; omega)
    rw [eN] at hvg hne hst
    have eB : bareOf Ms N = Ms.map bareM := by rw [← HM.out.n]; exact bareOf_all Ms
    rw [eB] at hst
    obtain ⟨va, vn, vc, e6⟩ := own_form (show wr.ownsRow 0 33 3 u6 _ _ from hst.m 0 rfl)
    subst e6
    have hl := own_len (show wr.ownsRow 0 33 3 (.slice va vn vc) _ _ from hst.m 0 rfl)
    subst hl
    have hints : ∀ x ∈ ownL Ms, SlInts wr x.val x.parts := fun x hx => by
     obtain ⟨m, hm, hx⟩ := List.mem_flatMap.1 hx
     obtain ⟨y, hy, rfl⟩ := List.mem_map.1 hx
     exact ((HM.out.m.each m hm).owned.parts y hy).kept hst.kept (by simp)
    have hso : ShrsAt wr (.slice va (ownL Ms).length vc) (ownL Ms) := ⟨⟨va, vc, rfl⟩, own_sl (hst.m 0 rfl) (shrCells_one hints), hints⟩
    have hbe : ∀ m' ∈ Ms.map bareM, MemAt wr m' := fun m' hm' => by
     obtain ⟨m, hm, rfl⟩ := List.mem_map.1 hm'
     exact bare_at ((HM.out.m.each m hm).kept0 hst.kept)
    have hbl : (Ms.map bareM).length = N := by rw [List.length_map]; exact HM.out.n
    have hbm : MemsAt wr (.slice (some ⟨g, 0, none⟩) N c) (Ms.map bareM) := ⟨⟨_, _, by rw [hbl]⟩, by
     rw [hbl]
     exact own_sl (hst.m 1 rfl) (fun u hu => by
      obtain ⟨m', hm', hu⟩ := List.mem_flatMap.1 hu
      exact mem_one (hbe m' hm') u hu), hbe⟩
    have hci := HM.out.kept hst.kept
    have hk0 := hk3.trans hst.kept (U := []) (by simp) (by simp)
    obtain ⟨on, hon⟩ : ∃ on, (ownL Ms).length = on := ⟨_, rfl⟩
    rw [hon] at hso ⊢
    have honb : on ≤ 1048576 := by rw [← hon]; exact hci.bo
    have hbr : ∀ m' ∈ Ms.map bareM, MemRd wr m' := fun m' hm' => by
     obtain ⟨m, hm, rfl⟩ := List.mem_map.1 hm'
     exact bare_rd (hci.rd m hm)
    clear hst hints hbe hk3 HM HM0 eN eB hk
    have hgf := groupFits_any (some ⟨g, 0, none⟩) N c (Ms.map bareM) at' nt ct Ts wr hbm hbl hci.t hci.tn hbr hci.sz ⟨by omega, hci.bn.2⟩
    have hak := fun W (k : Kept [] wr W) (h : GFit (Ms.map bareM) Ts) => ask_coop (some ⟨g, 0, none⟩) N c (Ms.map bareM) at' nt ct Ts W (hbm.keptW k) hbl (hci.kept k).t hci.tn (by have := h.m6; have := h.t6; have := hci.tn; omega) (fun m hmM => (hbr m hmM).ln.1)
    have HC := Zhd (Zan hgf hak); clear hgf hak
    have HD := Zhd (Zan hci (Zan hso (Zan hon (Zan hbm (Zan hbl (Zan hbr (Zan hvg hne))))))); clear hci hso hon hbm hbl hbr hvg hne
    go_upto_region 20 with (first
     | (go_at_call 15; refine HC.out.1.mono ?_; rintro e w4 ⟨⟨rfl, hg⟩ | rfl, hk4⟩)
     | (go_at_call 16; refine (HC.out.2 _ hk4 hg).mono ?_; rintro e w6 ⟨⟨rfl, ha⟩ | rfl, hk6⟩ <;> have hk7 := hk4.trans hk6 (U := []) (by simp) (by simp))
     | fail)
    rotate_left
    all_goals try
     go_wp2_with (first
      | (go_at_call 14; refine (HAL.out _).mono ?_; rintro e w8 ⟨rfl, hk8⟩; first | have hk9 := (hk0.trans hk7 (U := []) (by simp) (by simp)).trans hk8 (U := []) (by simp) (by simp) | have hk9 := (hk0.trans hk4 (U := []) (by simp) (by simp)).trans hk8 (U := []) (by simp) (by simp))
      | fail)
     go_ret
     exact ⟨rfl, hk9⟩
    have hfa : FitA (Ms.map bareM) Ts := ⟨hg, ha⟩
    clear HC hg ha hk4 hk6
    obtain ⟨hci, hso, hon, hbm, hbl, hbr, hvg, hne⟩ := HD.out
    have hN6 : N ≤ 6 := by have := hfa.g.m6; omega
    have hnt6 : nt ≤ 6 := by have := hfa.g.t6; have := hci.tn; omega
    have hcnt := fun (ap : Option Addr) (np cp : Nat) (S : List Shr) W (k : Kept [] w6 W) (hS : ShrsAt W (.slice ap np cp) S) (hn : S.length = np) (h1 : np ≤ 1000000000) (h2 : ∀ x ∈ S, x.parts.length ≤ 1000000000) =>
     counted_g (some ⟨g, 0, none⟩) N c (Ms.map bareM) at' nt ct Ts ap np cp S W (hbm.keptW (hk7.trans k (U := []) (by simp) (by simp))) hbl (hci.kept (hk7.trans k (U := []) (by simp) (by simp))).t hci.tn hS hn hfa.g.ids ⟨by omega, by omega, h1⟩ h2 (fun m hm => (hbr m hm).ln.1) (fun x hx => by have := (hfa.g.tops x hx).p2; omega)
    have hc1 := hcnt va on vc (ownL Ms) w6 (Kept.refl _ _) (hso.kept hk7 (by simp) (by simp)) hon (by omega) (fun x hx => by have := hci.bp x hx; omega)
    have hgr := fun W (k : Kept [] w6 W) (hc : CntGd (Ms.map bareM) Ts (ownL Ms)) => group_coop am cm Ms at' ct Ts W (by rw [hci.n]; exact (hci.kept (hk7.trans k (U := []) (by simp) (by simp))).m) (by rw [hci.tn]; exact (hci.kept (hk7.trans k (U := []) (by simp) (by simp))).t) (coop_stin hfa hc hvg hne)
    simp only [hci.n, hci.tn] at hgr
    have HE := Zhd (Zan hc1 (Zan hgr hcnt)); clear hc1 hgr hcnt hci hso hon hbm hbl hbr hvg hne
    go_upto_region 21 with (first
     | (go_at_call 17; refine HE.out.1.mono ?_; rintro e w7 ⟨a7, n7, c7, k7, b7, rfl, hiff, hk8⟩)
     | fail)
    cases b7 with
    | false =>
      have hkf := (hk0.trans hk7 (U := []) (by simp) (by simp)).trans hk8 (U := []) (by simp) (by simp)
      clear HE hiff HD
      go_wp2_with (first
       | (go_at_call 14; refine (HAL.out _).mono ?_; rintro e w8 ⟨rfl, hk9⟩; have hk10 := hkf.trans hk9 (U := []) (by simp) (by simp))
       | fail)
      go_ret
      exact ⟨rfl, hk10⟩
    | true =>
      have hcg := (HE.out.2.1 w7 hk8 (hiff.1 rfl)).mono fun _ _ h => h.n
      have HG := Zhd hcg; clear hcg hiff
      go_upto_region 24 with (first
       | (go_at_call 18
          refine HG.out.mono ?_
          rintro e w8 ⟨A, L, ap, np, cp, rfl, hn, hA, hSh, hCa, hL, hk9⟩)
       | fail)
      obtain ⟨hc2, hl2, hp2⟩ := coop_cnt hfa hA hSh hCa
      rw [hn] at hl2
      have hc3 := HE.out.2.2 ap np cp L w8 (hk8.trans hk9 (U := []) (by simp) (by simp)) hL hn (by omega) (fun x hx => by have := hp2 x hx; omega)
      have HF := Zhd (Zan hc3 (Zan hc2 (Zan hA (Zan hSh (Zan hL (Zan hn (Zan hl2 hp2))))))); clear hc3 hc2 hA hSh hCa hL hn hl2 hp2 HG HE
      go_upto_region 25 with (first
       | (go_at_call 17; refine HF.out.1.mono ?_; rintro e w9 ⟨a9, n9, c9, k9, b9, rfl, hif9, hk10⟩)
       | fail)
      obtain rfl : b9 = true := hif9.2 HF.out.2.1
      have hw79 : Kept [] w6 w9 := (hk8.trans hk9 (U := []) (by simp) (by simp)).trans hk10 (U := []) (by simp) (by simp)
      have hwr9 := hk7.trans hw79 (U := []) (by simp) (by simp)
      have hkw9 := hk0.trans hwr9 (U := []) (by simp) (by simp)
      have hci9 := HD.out.1.kept hwr9
      have hoth := fun W (k : Kept [] w9 W) t p r hh => holder_both va on vc (ownL Ms) t p r W (HD.out.2.1.kept (hwr9.trans k (U := []) (by simp) (by simp)) (by simp) (by simp)) HD.out.2.2.1 (by omega) (fun x hx => by have := HD.out.1.bp x hx; omega) hh
      have hpth := fun W (k : Kept [] w9 W) t p r hh => holder_both ap np cp L t p r W (HF.out.2.2.2.2.1.kept (hk10.trans k (U := []) (by simp) (by simp)) (by simp) (by simp)) HF.out.2.2.2.2.2.1 (by have := HF.out.2.2.2.2.2.2.1; omega) (fun x hx => by have := HF.out.2.2.2.2.2.2.2 x hx; omega) hh
      have hbot := fun t p (hq : (t, p) ∈ allT Ts) => coop_both HF.out.2.2.1 HF.out.2.2.2.1 hq
      have HH := Zhd (Zan hoth (Zan hpth (Zan hbot (Zan hci9 hkw9)))); clear hoth hpth hbot hci9 hkw9 hwr9 hw79 hk10 hk9 hk8 hk7 hk0 hif9 HF HD
      go_wp2_with fail
      go_loopw [18] (fun i wr => KR1 w9 nt i wr) (fun i _ => nt - (intOf i).toNat)
      case atStart => exact ⟨Kept.refl _ _, 0, rfl, Nat.zero_le _⟩
      case round =>
       obtain ⟨hkr, k, rfl, hk⟩ := hrel
       by_cases hkn : k < nt
       · obtain ⟨x, hx⟩ : ∃ x, Ts[k]? = some x := ⟨_, List.getElem?_eq_getElem (by have := HH.out.2.2.2.1.tn; omega)⟩
         obtain ⟨gt, off, ta, tc, rfl, hv, hc⟩ := shr_at HH.out.2.2.2.1.t HH.out.2.2.2.1.tn hx
         have hxL := List.mem_of_getElem? hx
         have hki : (k : Int) < (nt : Int) := by omega
         have hpt := (HH.out.2.2.2.1.t.parts x hxL).2.1
         rw [hv] at hpt
         obtain ⟨pn, hpn⟩ : ∃ pn, x.parts.length = pn := ⟨_, rfl⟩
         rw [hpn] at hpt hc
         have hpb : pn ≤ 1000 := by have := (hfa.g.tops x hxL).p2; omega
         have HX := Zhd (Zan hxL (Zan hpt (Zan hpn hc))); clear hxL hpt hpn hv hx hc
         go_wp2_with fail
         go_loopw [19] (fun i wr' => KR1 w9 pn i wr') (fun i _ => pn - (intOf i).toNat)
         case atStart => exact ⟨hkr, 0, rfl, Nat.zero_le _⟩
         case round =>
          clear hkr
          obtain ⟨hkr, j, rfl, hj⟩ := hrel
          obtain ⟨d0, d1, d2⟩ := HX.out.2.2.2 wr hkr
          by_cases hjn : j < pn
          · obtain ⟨v, hv⟩ : ∃ v, x.parts[j]? = some v := ⟨_, List.getElem?_eq_getElem (by have := HX.out.2.2.1; omega)⟩
            obtain ⟨b, o2, cap, hva, hcl⟩ : ∃ b off cap, Value.slice ta pn tc = .slice (some ⟨b, off, none⟩) pn cap ∧ ∀ j u, (i32s x.parts)[j]? = some u → w9.cell? ⟨b, off + j, none⟩ = some u := by
             rcases HX.out.2.1.2.2 with ⟨_, _, _, h0⟩ | h
             · omega
             · exact h
            simp only [Value.slice.injEq] at hva
            obtain ⟨rfl, _, rfl⟩ := hva
            have hcv := hcl j (.int .i32 v) (by simp [i32s, hv])
            have c5 := hkr.cell hcv (by simp)
            have hji : (j : Int) < (pn : Int) := by omega
            have hq : (x.top, v) ∈ allT Ts := List.mem_flatMap.2 ⟨topOf x, List.mem_map_of_mem HX.out.1, List.mem_map.2 ⟨v, List.mem_of_getElem? hv, rfl⟩⟩
            rcases HH.out.2.2.1 x.top v hq with ⟨m, q1, q2⟩ | ⟨m, q1, q2⟩ | ⟨m, q1, q2⟩
            all_goals
             have hc1 := fun n => HH.out.1 (wr.drewN n) (hkr.drewN n) x.top v _ q1
             have hc2 := fun W (k : Kept [] w9 W) n => HH.out.2.1 (W.drewN n) (k.drewN n) x.top v _ q2
             simp only [Option.getD_some, Option.getD_none, Option.isSome_some, Option.isSome_none] at hc1 hc2
             have HY := Zhd (Zan hc1 (Zan hc2 hcv)); clear hc1 hc2 q1 q2 hcl hv hq hcv
             have hmm : (m.toList == m.toList) = true := beq_self_eq_true _
             generalize x.top = xt at *
             go_wp2_with fail
             go_quiet ((go_at_call 19; exact Calls.quiet_of_same (HY.out.1 _)))
             go_wp2_with fail
             have hkq := hkr.drewN nq
             clear d0 d1 d2 c5
             generalize wr.drewN nq = wq at *
             obtain ⟨d0, d1, d2⟩ := HX.out.2.2.2 wq hkq
             have c5 := hkq.cell HY.out.2.2 (by simp)
             have HZ := Zhd (HY.out.2.1 wq hkq); clear HY
             go_quiet ((go_at_call 19; exact Calls.quiet_of_same (HZ.out _)))
             go_wp2_with fail
             exact ⟨⟨hkq.drewN _, j + 1, by go_num, by omega⟩, by simp [intOf]; omega⟩
          · obtain rfl : j = pn := by omega
            go_wp2_with fail
            exact ⟨⟨hkr, k + 1, by go_num, by omega⟩, by simp [intOf]; omega⟩
       · go_wp2_with (first
          | (go_at_call 14; refine (HAL.out _).mono ?_; rintro e w10 ⟨rfl, hk11⟩)
          | fail)
         go_ret
         exact ⟨rfl, (HH.out.2.2.2.2.trans hkr (U := []) (by simp) (by simp)).trans hk11 (U := []) (by simp) (by simp)⟩
theorem mems_nil (w : World) (a : Option Addr) (c : Nat) : MemsAt w (.slice a 0 c) [] := ⟨⟨a, c, rfl⟩, ⟨rfl, fun u hu => by simp at hu, .inl ⟨a, c, rfl, rfl⟩⟩, fun _ h => nomatch h⟩
def C00 (w : World) (i : Value) (wr : World) : Prop := i = .int .i64 0 ∧ Kept [] w wr
theorem law_coop0 (am : Option Addr) (cm : Nat) (at' : Option Addr) (nt ct : Nat) (Ts : List Shr) (w0 : World) (h : CoIn w0 am 0 cm [] at' nt ct Ts) :
 Calls Tryz.prog 3 #[.slice am 0 cm, .slice at' nt ct] w0 fun e w' => e = .returned (.bool true) ∧ Kept [] w0 w' := by
 have hmx : maxLen = 9223372036854775807 := rfl
 have hf2 := fits2_any am 0 cm [] w0 h.m h.n (by omega) (fun m hmM => nomatch hmM)
 have hf5 := fun W (k : Kept [] w0 W) => fits5 (.slice at' nt ct) Ts W (h.kept k).t (by rw [h.tn]; exact h.bn.2)
 have hgf := fun W (k : Kept [] w0 W) a c => groupFits_any a 0 c [] at' nt ct Ts W (mems_nil W a c) rfl (h.kept k).t h.tn (fun m hm => nomatch hm) h.sz ⟨by omega, h.bn.2⟩
 have HC := Zhd (Zan hf2 (Zan hf5 hgf)); clear hf2 hf5 hgf
 have HAL := Zhd alive
 have HM0 := Zhd h; clear h
 go_enter Tryz.func3, Tryz.ntmps3
 go_upto_region 3 with (first
  | (go_at_call 12; refine HC.out.1.mono ?_; rintro e w1 ⟨⟨b1, rfl⟩, hk1⟩; cases b1)
  | (go_at_call 13; refine (HC.out.2.1 _ hk1).mono ?_; rintro e w2 ⟨⟨b2, rfl⟩, hk2⟩; have hk3 := hk1.trans hk2 (U := []) (by simp) (by simp); cases b2)
  | fail)
 · go_wp2
   go_ret
   exact ⟨rfl, hk1⟩
 · go_wp2
   go_ret
   exact ⟨rfl, hk3⟩
 clear hk1 hk2
 have hst0 : St [] w2 w2 [] [] := St.start0 (Ow.nil w2)
 have hst1 := hst0.made 30 8 0 [] rfl (by decide)
 have hms := (mems_nil w2 am cm).cells
 have hsrc := (hms.kept (hst1.kept) (by simp)).src Tryz.underlying22
 clear hms
 go_upto_region 4 with (first
  | (refine wl_push 0 rfl rfl elMem rfl rfl hst1 rfl hsrc (by simp) (by simp) ?_
     intro v' w3 hst2
     simp only [Zs0, List.nil_append, Nat.zero_add] at hst2)
  | fail)
 obtain ⟨g, n, c, rfl⟩ := own_form (show w3.ownsRow 0 30 8 v' _ _ from hst2.m 0 rfl)
 have hl := own_len (show w3.ownsRow 0 30 8 (.slice g n c) _ _ from hst2.m 0 rfl)
 simp only [List.length_nil] at hl
 subst hl
 have hk4 := hst2.kept
 clear hst2 hst1 hst0 hsrc
 have h10 : C00 w2 (.int .i64 0) (w3.alloc (.cells #[] 33)) := ⟨rfl, hk4.alloc _⟩
 have H10 := Zhd h10; clear h10
 go_wp2_with fail
 go_loopw [7] (fun i wr => C00 w2 i wr) (fun i _ => (intOf i).toNat)
 case atStart => exact H10.out
 case round =>
  obtain ⟨rfl, hkr⟩ := hrel
  clear H10
  have hk5 := hk3.trans hkr (U := []) (by simp) (by simp)
  go_wp2_with (first
   | (go_at_call 15; refine (HC.out.2.2 _ hk5 g c).mono ?_; rintro e w6 ⟨⟨rfl, hg⟩ | rfl, hk6⟩; · exact absurd hg.m1 (by simp))
   | (go_at_call 14; refine (HAL.out _).mono ?_; rintro e w8 ⟨rfl, hk8⟩; have hk9 := (hk5.trans hk6 (U := []) (by simp) (by simp)).trans hk8 (U := []) (by simp) (by simp))
   | fail)
  go_ret
  exact ⟨rfl, hk9⟩
theorem law_coop_row (am : Option Addr) (cm : Nat) (Ms : List Mem) (at' : Option Addr) (ct : Nat) (Ts : List Shr) (w : World) (hm : MemsAt w (.slice am Ms.length cm) Ms) (hmd : ∀ z ∈ Ms, MemRd w z) (hbn : Ms.length ≤ 1048576) (hbo : (ownL Ms).length ≤ 1048576) (hbp : ∀ x ∈ ownL Ms, x.parts.length ≤ 1048576) (ht : ShrsAt w (.slice at' Ts.length ct) Ts) (htl : Ts.length ≤ maxLen)
 (htd : ∀ z ∈ Ts, z.mem.size ≤ maxLen ∧ z.top.size ≤ maxLen ∧ z.parts.length ≤ maxLen) :
 Calls Tryz.prog 3 #[.slice am Ms.length cm, .slice at' Ts.length ct] w fun e w' => e = .returned (.bool true) ∧ Kept [] w w' := by
 have hci : CoIn w am Ms.length cm Ms at' Ts.length ct Ts := ⟨hm, rfl, ht, rfl, hmd, fun t h => (htd t h).2.1, ⟨hbn, htl⟩, hbo, hbp⟩
 cases Ms with
 | nil => exact law_coop0 am cm at' _ ct Ts w hci
 | cons m Ms => exact law_coop am _ cm (m :: Ms) at' _ ct Ts w hci (by simp)
end
end Go.Proofs.YticcnlpfmekagaaGreat
