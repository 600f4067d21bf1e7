/- Part of the proof of the row: the texts StSame, LawStk. -/
import Derived.Test.YticcnlpfmekagaaGreatRd48
import Derived.Test.YticcnlpfmekagaaGreatRd44
import Derived.Test.YticcnlpfmekagaaGreatRd50
namespace Go.Proofs.YticcnlpfmekagaaGreat
open Go Go.Proofs Go.RowKit Go.Lib
open Classical
set_option linter.unusedVariables false
set_option linter.unusedSimpArgs false

/-! ## A told plan comes again, share by share -/
theorem PlanL.same {Ms : List Mem} {Ts : List Shr} (h : FitA Ms Ts) {L : List Shr} (hl : PlanL Ms Ts L) {gen : Int} (hg : isI32 gen) {Ms' : List Mem} (hn : Ms'.length = Ms.length) (ht : ∀ (j : Nat) m m', Ms[j]? = some m → Ms'[j]? = some m' → ToldM L gen m m') :
    ∃ Old', StIn Ms' Ts Old' (fun _ => gen) ∧ ∀ (L2 : List Shr) A2, PlanOk (ids Ms') Old' (allT Ts) A2 → Shows (L2.map trip) A2 → Canon ltMT (L2.map trip) → L.length = L2.length ∧ ∀ (k : Nat) (x y : Shr), L[k]? = some x → L2[k]? = some y → x.mem = y.mem ∧ x.top = y.top ∧ x.parts.Perm y.parts := by
  obtain ⟨A, h1, h2, h3⟩ := hl
  have hi32 : ∀ x ∈ L, ∀ p ∈ x.parts, isI32 p := fun x hx p hp => by
    have h4 : Holds (L.map trip) x.mem x.top p := ⟨x.parts, List.mem_map_of_mem (f := trip) hx, hp⟩
    have h5 : (x.top, p) ∈ allT Ts := h1.all.mem_iff.1 (allOf_mem.2 ⟨_, (h2.iff _ _ _).1 h4⟩)
    obtain ⟨y, hy, _, hp2⟩ := allT_mem.1 h5
    have := (h.g.tops y hy).part hp2
    unfold isI32; omega
  obtain ⟨Old', q1, q2, q3⟩ := told_stin h.stin h1 h2 h3 (fun t ht => by have := (h.g.tops t ht).size; omega) hi32 hg hn ht
  refine ⟨Old', q1, fun L2 A2 g1 g2 g3 => ?_⟩
  rw [q2] at g1
  have hiff : ∀ m t p, Holds (L.map trip) m t p ↔ Holds (L2.map trip) m t p := fun m t p => by
    rw [h2.iff, g2.iff]
    exact ⟨fun hh => g1.has (h1.keyIn hh) (q3 m (h1.keyIn hh) _ hh), fun hh => has_back h1 g1 h.stin.tn q3 hh⟩
  obtain ⟨e1, e2⟩ := canon_same ltMT_irr ltMT_tr h3 g3 (h2.perm.nodup_iff.2 (h1.nodup h.stin.tn)) (g2.perm.nodup_iff.2 (g1.nodup h.stin.tn)) hiff
  refine ⟨by simpa using e1, fun k x y hx hy => ?_⟩
  exact e2 k (trip x) (trip y) (by rw [List.getElem?_map, hx]; rfl) (by rw [List.getElem?_map, hy]; rfl)
end Go.Proofs.YticcnlpfmekagaaGreat
namespace Go.Proofs.YticcnlpfmekagaaGreat
open Go Go.Proofs Go.RowKit Go.Lib
set_option linter.unusedVariables false
set_option linter.unusedSimpArgs false

/-! ## FnPlanSticks (5) -/
def BxRel (wr : World) (xm xt : ByteArray) (ya : Option Addr) (yc : Nat) (va : Option Addr) (vc pn : Nat) (p q : Value) (W : World) : Prop :=
  ∃ b18 b19 : Nat, p = .pointer (some ⟨b18, 0, none⟩) ∧ q = .pointer (some ⟨b19, 0, none⟩) ∧ W.cell? ⟨b18, 0, none⟩ = some (.string xm) ∧ W.cell? ⟨b18, 1, none⟩ = some (.string xt) ∧ W.cell? ⟨b18, 2, none⟩ = some (.slice ya pn yc) ∧
    W.cell? ⟨b19, 0, none⟩ = some (.string xm) ∧ W.cell? ⟨b19, 1, none⟩ = some (.string xt) ∧ W.cell? ⟨b19, 2, none⟩ = some (.slice va pn vc) ∧ Kept [] wr W
def FdRel (W : World) (z : Int) (xs : List Int) (pn : Nat) (f n : Value) (V : World) : Prop := Kept [] W V ∧ ∃ l : Nat, n = .int .i64 l ∧ l ≤ pn ∧ f = .bool (decide (z ∈ xs.take l))
set_option maxRecDepth 100000 in
set_option maxHeartbeats 8000000 in
theorem law_sticks (am : Option Addr) (N cm : Nat) (Ms : List Mem) (at' : Option Addr) (nt ct : Nat) (Ts : List Shr) (gen : Int) (w0 : World) (hm : MemsAt w0 (.slice am N cm) Ms) (hN : Ms.length = N) (ht : ShrsAt w0 (.slice at' nt ct) Ts) (hT : Ts.length = nt)
    (hg : isI32 gen) (hmd : ∀ m ∈ Ms, MemRd w0 m) (htd : ∀ t ∈ Ts, t.top.size ≤ maxLen) (hb : N ≤ maxLen ∧ nt ≤ maxLen) :
    Calls Tryz.prog 5 #[.slice am N cm, .slice at' nt ct, .int .i32 gen] w0 fun e w' => e = .returned (.bool true) ∧ Kept [] w0 w' := by
  have hmx : maxLen = 9223372036854775807 := rfl
  have hf2 := fits2_any am N cm Ms w0 hm hN hb.1 (fun m hmM => ⟨(hmd m hmM).ln.1, (hmd m hmM).ln.2.2⟩)
  have hf5 := fun W (k : Kept [] w0 W) => fits5 (.slice at' nt ct) Ts W (ht.kept k (by simp) (by simp)) (by omega)
  have hgf := fun W (k : Kept [] w0 W) => groupFits_any am N cm Ms at' nt ct Ts W (hm.keptW k) hN (ht.kept k (by simp) (by simp)) hT (fun m hmM => (hmd m hmM).kept0 k) htd ⟨hb.1, hb.2⟩
  have hak := fun W (k : Kept [] w0 W) (h : GFit Ms Ts) => ask_any am N cm Ms at' nt ct Ts W (hm.keptW k) hN (ht.kept k (by simp) (by simp)) hT (by have := h.m6; have := h.t6; omega) (fun m hmM => (hmd m hmM).ln.1)
  have HC := Lib.hid (And.intro hf2 (And.intro hf5 (And.intro hgf hak))); clear hf2 hf5 hgf hak
  have HAL := Lib.hid alive
  have HM0 := Lib.hid (And.intro hm (And.intro hN (And.intro ht (And.intro hT hg)))); clear hm hN ht hT hg hmd htd
  by_cases hneg : gen < 0
  · go_enter Tryz.func5, Tryz.ntmps5
    go_wp2_with (first
      | (go_at_call 12; refine HC.out.1.mono ?_; rintro e w1 ⟨⟨b1, rfl⟩, hk1⟩; cases b1)
      | (go_at_call 13; refine (HC.out.2.1 _ hk1).mono ?_; rintro e w2 ⟨⟨b2, rfl⟩, hk2⟩; have hk3 := hk1.trans hk2 (U := []) (by simp) (by simp); cases b2)
      | (go_at_call 15; refine (HC.out.2.2.1 _ hk3).mono ?_; rintro e w4 ⟨⟨rfl, hg⟩ | rfl, hk4⟩ <;> have hk5 := hk3.trans hk4 (U := []) (by simp) (by simp))
      | (go_at_call 14; refine (HAL.out _).mono ?_; rintro e w8 ⟨rfl, hk8⟩; have hk9 := hk5.trans hk8 (U := []) (by simp) (by simp))
      | fail)
    all_goals
      go_ret
      first | exact ⟨rfl, hk9⟩ | exact ⟨rfl, hk3⟩ | exact ⟨rfl, hk1⟩
  · go_enter Tryz.func5, Tryz.ntmps5
    go_upto_region 3 with (first
      | (go_at_call 12; refine HC.out.1.mono ?_; rintro e w1 ⟨⟨b1, rfl⟩, hk1⟩; cases b1)
      | (go_at_call 13; refine (HC.out.2.1 _ hk1).mono ?_; rintro e w2 ⟨⟨b2, rfl⟩, hk2⟩; have hk3 := hk1.trans hk2 (U := []) (by simp) (by simp); cases b2)
      | fail)
    · go_wp2
      go_ret
      exact ⟨rfl, hk1⟩
    · go_wp2
      go_ret
      exact ⟨rfl, hk3⟩
    go_upto_region 5 with (first
      | (go_at_call 15; refine (HC.out.2.2.1 _ hk3).mono ?_; rintro e w4 ⟨⟨rfl, hg⟩ | rfl, hk4⟩ <;> have hk5 := hk3.trans hk4 (U := []) (by simp) (by simp))
      | (go_at_call 16; refine (HC.out.2.2.2 _ hk5 hg).mono ?_; rintro e w6 ⟨⟨rfl, ha⟩ | rfl, hk6⟩ <;> have hk7 := hk5.trans hk6 (U := []) (by simp) (by simp))
      | fail)
    rotate_left
    all_goals try
      go_wp2_with (first
        | (go_at_call 14; refine (HAL.out _).mono ?_; rintro e w8 ⟨rfl, hk8⟩; first | have hk9 := hk7.trans hk8 (U := []) (by simp) (by simp) | have hk9 := hk5.trans hk8 (U := []) (by simp) (by simp))
        | fail)
      go_ret
      exact ⟨rfl, hk9⟩
    have hfa : FitA Ms Ts := ⟨hg, ha⟩
    clear HC hg ha hk1 hk2 hk3 hk4 hk5 hk6
    have hN := HM0.out.2.1
    have hT := HM0.out.2.2.2.1
    have hgs := group_sticky am cm Ms at' ct Ts (fun _ => []) (fun _ => 0) w6 (by rw [hN]; exact HM0.out.1.keptW hk7) (by rw [hT]; exact HM0.out.2.2.1.kept hk7 (by simp) (by simp)) hfa.stin
    rw [hN, hT] at hgs
    have HG := Lib.hid hgs; clear hgs
    go_upto_region 8 with (first
      | (go_at_call 18
         refine HG.out.mono ?_
         rintro e w ⟨A, S, ap, cp, rfl, hA1, hA2, hA3, hL, _, _, hk8⟩
         have hk9 := hk7.trans hk8 (U := []) (by simp) (by simp)
         obtain ⟨np, hn⟩ : ∃ n, S.length = n := ⟨_, rfl⟩
         rw [hn] at hL ⊢)
      | fail)
    have hpl : PlanL Ms Ts S := ⟨A, hA1, hA2, hA3⟩
    have hok : ∀ m ∈ Ms, OwnOk S gen m.id := fun m _ => hpl.own hfa _ _
    have hm := HM0.out.1.keptW hk9
    have hS := hL
    have hg := HM0.out.2.2.2.2
    have hb : 1 ≤ N ∧ N ≤ 1000 ∧ np ≤ 1000 := ⟨by have := hfa.g.m1; omega, by have := hfa.g.m6; omega, by have := (hpl.len hfa).1; omega⟩
    have HO := Lib.hid (And.intro HM0.out.2.2.1 (And.intro hpl hk9))
    clear hpl hA1 hA2 hA3 hL hk8 hk7 HG HM0 hk9
    have hst0 : St [] w w [] [] := St.start0 (Ow.nil w)
    have hst1 := hst0.made 30 8 0 [] rfl (by decide)
    have hms := hm.cells
    rw [hN] at hms
    have hsrc := (hms.kept (hst1.kept) (by simp)).src Tryz.underlying22
    obtain ⟨hb1, hb2, hb3⟩ := hb
    have HM := Lib.hid (And.intro hm (And.intro hN (And.intro hS (And.intro hn (And.intro hg hok))))); clear hm hS hn hg hok hms
    go_upto_region 9 with (first
      | (refine wl_push 0 rfl rfl elMem rfl rfl hst1 rfl hsrc (by omega) (by omega) ?_
         intro v' w2 hst2
         simp only [List.set_cons_zero, List.nil_append, Nat.zero_add] at hst2)
      | fail)
    obtain ⟨g, c, rfl⟩ := own_some (hst2.m 0 rfl) (by omega)
    have e0 : memsOf Ms [] = Ms := by
      unfold memsOf
      apply List.ext_getElem?
      intro j; simp
    have hst3 : St [] w w2 (Rs.dat [] :: [Rs.row 30 8 (.slice (some ⟨g, 0, none⟩) N c) N (Ms.flatMap memCells)]) [] := hst2.push (Kept.refl _ _) (by simp [Rs.dat]) (by simp [Rs.dat])
    have hst4 := hst3.front 1 rfl
    simp only [List.eraseIdx_cons_zero, List.eraseIdx_cons_succ] at hst4
    have h10 : TD1 w g c N Ms S gen [] (.int .i64 0) w2 := ⟨0, [], rfl, Nat.zero_le _, rfl, fun j m x _ hx => by simp at hx, by rw [e0]; exact hst4⟩
    have H10 := Lib.hid h10; clear h10 hst4 hst3 hst2 hst1 hst0 hsrc e0
    go_wp2_with fail
    go_loopw [10] (fun i wr => TD1 w g c N Ms S gen [] i wr) (fun i _ => N - (intOf i).toNat)
    case atStart => exact H10.out
    case round =>
      obtain ⟨k, U, rfl, hk, hU, hUd, hst⟩ := hrel
      clear H10
      by_cases hkn : k < N
      · obtain ⟨m, hmk⟩ : ∃ m, Ms[k]? = some m := ⟨_, List.getElem?_eq_getElem (by have := HM.out.2.1; omega)⟩
        have hki : (k : Int) < (N : Int) := by omega
        have hst1 := hst.made 33 3 0 [] rfl (by decide)
        have h20 : TD2 w S np m.id [Rs.row 30 8 (.slice (some ⟨g, 0, none⟩) N c) N ((memsOf Ms U).flatMap memCells), Rs.dat U] [] (.slice (some ⟨wr.heap.size, 0, none⟩) 0 0) (.int .i64 0) (wr.alloc (.cells #[] 33)) := ⟨0, rfl, Nat.zero_le _, by simpa [ownOf] using hst1⟩
        have H20 := Lib.hid h20; clear h20 hst1
        have hmg : (memsOf Ms U)[k]? = some m := by rw [memsOf_get, hmk, ← hU]; simp
        have HH := Lib.hid (And.intro hmk (And.intro hU (And.intro hUd hmg))); clear hmk hU hUd hmg
        go_wp2_with fail
        go_loopw [11, 12] (fun v i wr' => TD2 w S np m.id [Rs.row 30 8 (.slice (some ⟨g, 0, none⟩) N c) N ((memsOf Ms U).flatMap memCells), Rs.dat U] [] v i wr') (fun _ i _ => np - (intOf i).toNat)
        case atStart => exact H20.out
        case round =>
          obtain ⟨q, rfl, hq, hst2⟩ := hrel
          clear H20
          have hcid := (own_cell (j := k * 8) (hst2.m 1 rfl) (mem_get HH.out.2.2.2 0 (by omega))).1
          by_cases hqn : q < np
          · obtain ⟨x, hx⟩ : ∃ x, S[q]? = some x := ⟨_, List.getElem?_eq_getElem (by have := HM.out.2.2.2.1; omega)⟩
            obtain ⟨gp, op, va, vc, rfl, hv, hcx⟩ := shr_at HM.out.2.2.1 HM.out.2.2.2.1 hx
            obtain ⟨d0, d1, d2⟩ := hcx wr hst2.kept
            have hqi : (q : Int) < (np : Int) := by omega
            have hsn := ownOf_snoc S m.id hx
            have hol := ownOf_le (S.take q) m.id
            rw [List.length_take] at hol
            have hol2 : (ownOf (S.take q) m.id).length ≤ 1000 := by omega
            clear hol
            by_cases e : x.mem = m.id
            · have hse : (x.mem.toList == m.id.toList) = true := beq_iff_eq.2 (by rw [e])
              rw [if_pos e] at hsn
              have HX := Lib.hid (And.intro hsn (And.intro hv (And.intro hcx e))); clear hsn hv hcx e
              go_wp2_with fail
              go_quiet (fail)
              go_upto_region 17 with fail
              have hst3 := (hst2.drewN (nq + 1)).alloc (.cells #[.string ⟨#[]⟩, .string x.top, .slice va x.parts.length vc] 33)
              have hsl : SlAt ((wr.drewN (nq + 1)).alloc (.cells #[.string ⟨#[]⟩, .string x.top, .slice va x.parts.length vc] 33)) 3 (.slice (some ⟨wr.heap.size, 0, none⟩) 1 1) 1 [.string ⟨#[]⟩, .string x.top, .slice va x.parts.length vc] := by
                have h := new_sl3 (wr.drewN (nq + 1)) 33 (.string ⟨#[]⟩) (.string x.top) (.slice va x.parts.length vc) rfl
                simpa using h
              have hsrc := hsl.src Tryz.underlying23
              have HSRC := Lib.hid hsrc; clear hsrc hsl
              have hss : ∀ W, Kept [] wr W → W.cell? ⟨gp, op + q * 3 + 1, none⟩ = some (.string x.top) ∧ W.cell? ⟨gp, op + q * 3 + 2, none⟩ = some (.slice va x.parts.length vc) := fun W hW => (HX.out.2.2.1 W (hst2.kept.trans hW (by simp) (by simp))).2
              have HSS := Lib.hid hss; clear hss
              go_region_held3 (fun W => W.cell? ⟨gp, op + q * 3 + 1, none⟩ = some (.string x.top) ∧ W.cell? ⟨gp, op + q * 3 + 2, none⟩ = some (.slice va x.parts.length vc))
                (first | with_reducible exact HSS.out _ ((Kept.refl _ _).drewN _).drew | with_reducible exact HSS.out _ (((Kept.refl _ _).drewN _).drew.alloc _) | with_reducible exact (HX.out.2.2.1 _ hst4.kept).2 | fail)
                (first
                  | (refine sl_push 0 rfl rfl elSh rfl rfl hst3 rfl HSRC.out (by omega) (by omega) ?_
                     intro v' w3 hst4
                     simp only [List.set_cons_zero] at hst4)
                  | fail)
              all_goals
                go_wp2_with fail
                refine ⟨⟨q + 1, by go_num, by omega, ?_⟩, by simp [intOf]; omega⟩
                rw [HX.out.1]
                simpa [shrCells, HX.out.2.1] using hst4
            · have hse : (x.mem.toList == m.id.toList) = false := beq_eq_false_iff_ne.2 (fun h => e ((ba_inj _ _).1 h))
              rw [if_neg e, List.append_nil] at hsn
              have HX := Lib.hid hsn; clear hsn e hv hcx
              go_wp2_with fail
              go_quiet (fail)
              go_wp2_with fail
              refine ⟨⟨q + 1, by go_num, by omega, ?_⟩, by simp [intOf]; omega⟩
              rw [HX.out]
              exact hst2.drewN _
          · obtain rfl : q = np := by omega
            have e5 : S.take q = S := List.take_of_length_le (by have := HM.out.2.2.2.1; omega)
            rw [e5] at hst2
            have hmM := List.mem_of_getElem? HH.out.1
            have hokm := HM.out.2.2.2.2.2 m hmM
            have hints : ∀ y ∈ ownOf S m.id, SlInts wr y.val y.parts := fun y hy => by
              obtain ⟨x, hx, rfl⟩ := List.mem_map.1 hy
              exact (HM.out.2.2.1.parts x (List.mem_filter.1 hx).1).kept hst2.kept (by simp)
            have hll : (ownOf S m.id).length ≤ 1000 := by have h1 := ownOf_le S m.id; have h2 := HM.out.2.2.2.1; omega
            obtain ⟨va, vn, vc, e6⟩ := own_form (show wr.ownsRow 0 33 3 u11 _ _ from hst2.m 0 rfl)
            subst e6
            have hl := own_len (show wr.ownsRow 0 33 3 (.slice va vn vc) _ _ from hst2.m 0 rfl)
            subst hl
            have hgd := groupData_any 2 (by omega) m.id va vc (ownOf S m.id) gen wr ⟨⟨va, vc, rfl⟩, own_sl (hst2.m 0 rfl) (shrCells_one hints), hints⟩ hll hokm.nd hokm.sz hokm.top HM.out.2.2.2.2.1 hokm.room
            obtain ⟨ln, hln⟩ : ∃ ln, (ownOf S m.id).length = ln := ⟨_, rfl⟩
            have hst2' := hst2
            rw [hln] at hgd hst2' ⊢
            have HG := Lib.hid hgd; clear hgd hints hll hokm
            go_upto_region 19 with (first
              | (go_at_call 21
                 refine HG.out.mono ?_
                 rintro e w5 ⟨u, D, cs, rfl, hD, hdo, hsu, hfu, hk5⟩)
              | fail)
            have hne : cs ≠ [] := by
              rcases hdo with ⟨h, _⟩ | ⟨_, L', _, h⟩
              · exact absurd rfl h
              · rw [h, encV1_v1]; exact v1_ne _ _
            obtain ⟨b, off, cap, hu, hcl⟩ : ∃ b off cap, u = .slice (some ⟨b, off, none⟩) cs.length cap ∧ ∀ j x, cs[j]? = some x → w5.cell? ⟨b, off + j * 1, none⟩ = some x := by
              rcases hsu.2.2 with ⟨_, _, _, h0⟩ | ⟨b, off, cap, h1, h2⟩
              · exact absurd (List.eq_nil_of_length_eq_zero h0) hne
              · exact ⟨b, off, cap, h1, fun j x hj => by simpa using h2 j x hj⟩
            have hbl : b < w5.heap.size := by
              cases cs with
              | nil => exact absurd rfl hne
              | cons x xs => exact World.block_lt_of_cell? w5 _ (hcl 0 x rfl)
            have hst3 : St [] w w5 (Rs.dat [(u, cs)] :: _) [] := hst2'.push hk5 (by intro x hx; simp only [List.mem_cons, List.not_mem_nil, or_false] at hx; subst hx; exact hsu) (fun g hg => by
              simp only [Rs.dat, List.flatMap_cons, List.flatMap_nil, List.append_nil] at hg
              refine ⟨hfu g (by simpa using hg), ?_⟩
              rw [hu] at hg
              simp only [Value.ownBlock, Option.toList, List.mem_cons, List.not_mem_nil, or_false] at hg
              subst hg; exact hbl)
            have hst4 := (hst3.front 3 rfl).front 1 rfl
            simp only [List.eraseIdx_cons_zero, List.eraseIdx_cons_succ] at hst4
            have hst5 : St [] w w5 (Rs.dat (U ++ [(u, cs)]) :: _) [] := hst4.join (Z := Rs.dat (U ++ [(u, cs)])) (fun h1 h2 _ x hx => by
              rcases List.mem_append.1 hx with hx | hx
              · exact h2 x hx
              · exact h1 x hx) (fun g hg => by
              simp only [Rs.dat, List.flatMap_append, List.mem_append] at hg
              rcases hg with hg | hg
              · exact .inr hg
              · exact .inl hg)
            have hst6 := hst5.drop 1
            simp only [List.eraseIdx_cons_zero, List.eraseIdx_cons_succ] at hst6
            have hoc := own_cell (j := k * 8 + 3) (hst6.m 1 rfl) (mem_get HH.out.2.2.2 3 (by omega))
            obtain ⟨hoc1, hoc2⟩ := hoc
            have hst7 := hst6.setRow 1 rfl (k * 8 + 3) u
            obtain ⟨A, B, hA, eA, eB⟩ := mems_split (x := (u, cs)) (by rw [HH.out.2.1]; exact HH.out.1)
            have eset : ((memsOf Ms U).flatMap memCells).set (k * 8 + 3) u = (memsOf Ms (U ++ [(u, cs)])).flatMap memCells := by
              rw [eA, eB]
              exact set_mid (m := m) (m' := { m with dv := u, data := cs }) rfl (hA.trans HH.out.2.1)
            rw [eset] at hst7
            have hst8 := hst7.front 1 rfl
            simp only [List.set_cons_zero, List.set_cons_succ, List.eraseIdx_cons_zero, List.eraseIdx_cons_succ] at hst8
            have hud : ∀ (j : Nat) m x, Ms[j]? = some m → (U ++ [(u, cs)])[j]? = some x → (∃ a c, x.1 = .slice a x.2.length c) ∧ ∃ D, tops2 D = (ownOf S m.id).map topOf ∧ DataOf 2 D gen x.2 := fun j m' x hj hx => by
              by_cases hjk : j < U.length
              · rw [List.getElem?_append_left hjk] at hx
                exact HH.out.2.2.1 j m' x hj hx
              · rw [List.getElem?_append_right (by omega)] at hx
                have h0 : j - U.length = 0 := by
                  have := (List.getElem?_eq_some_iff.1 hx).1
                  simp at this; omega
                rw [h0] at hx
                simp only [List.getElem?_cons_zero, Option.some.injEq] at hx
                subst hx
                have : j = k := by have := HH.out.2.1; omega
                subst this
                rw [HH.out.1] at hj
                cases hj
                exact ⟨⟨_, _, hu⟩, D, hD, hdo⟩
            have hnx : TD1 w g c N Ms S gen [] (.int .i64 ((k : Nat) + 1)) (w5.setCell ⟨g, k * 8 + 3, none⟩ u) := ⟨k + 1, U ++ [(u, cs)], by go_num, by omega, by simp [HH.out.2.1], hud, hst8⟩
            have HNX := Lib.hid hnx; clear hnx hud hst8 hst7 eset eA eB hA hst6 hst5 hst4 hst3 hst2 hst2' hcl hsu hdo hD hfu
            subst hu
            go_wp2_with fail
            exact ⟨HNX.out, by simp [intOf]; omega⟩
      · obtain rfl : k = N := by omega
        have hrow : wr.ownsRow 0 30 8 (.slice (some ⟨g, 0, none⟩) k c) k ((memsOf Ms U).flatMap memCells) := hst.m 0 rfl
        have hdat : ∀ x ∈ U, SlAt wr 1 x.1 x.2.length x.2 := hst.m 1 rfl
        have heach : ∀ m' ∈ memsOf Ms U, MemAt wr m' := fun m' hm' => by
          obtain ⟨j, hj⟩ := List.mem_iff_getElem?.1 hm'
          rw [memsOf_get] at hj
          cases hmj : Ms[j]? with
          | none => rw [hmj] at hj; cases hj
          | some m =>
            rw [hmj] at hj
            have h0 := (HM.out.1.each m (List.mem_of_getElem? hmj)).kept0 hst.kept
            cases hxj : U[j]? with
            | none =>
              rw [hxj] at hj
              simp only [Option.map_some, Option.some.injEq] at hj
              subst hj; exact h0
            | some x =>
              rw [hxj] at hj
              simp only [Option.map_some, Option.some.injEq] at hj
              subst hj
              exact ⟨h0.tops, ⟨(hUd j m x hmj hxj).1, hdat x (List.mem_of_getElem? hxj)⟩, h0.owned⟩
        have hml : (memsOf Ms U).length = k := by rw [memsOf_len]; exact HM.out.2.1
        have hmems : MemsAt wr (.slice (some ⟨g, 0, none⟩) k c) (memsOf Ms U) := ⟨⟨_, _, by rw [hml]⟩, by rw [hml]; exact own_sl hrow (fun u hu => by
          obtain ⟨m', hm', hu⟩ := List.mem_flatMap.1 hu
          exact mem_one (heach m' hm') u hu), heach⟩
        have hkc : k ≤ c := by
          rcases hrow.2 with ⟨h, _⟩ | ⟨g', cap, cur, h, _, _, h2, _⟩
          · cases h
          · cases h; exact h2
        have htd : ∀ (j : Nat) m m', Ms[j]? = some m → (memsOf Ms U)[j]? = some m' → ToldM S gen m m' := fun j m m' hj hj' => by
          have hjk : j < U.length := by rw [hU]; have := (List.getElem?_eq_some_iff.1 hj).1; have := HM.out.2.1; omega
          obtain ⟨x, hx⟩ : ∃ x, U[j]? = some x := ⟨_, List.getElem?_eq_getElem hjk⟩
          rw [memsOf_get, hj, hx] at hj'
          simp only [Option.map_some, Option.some.injEq] at hj'
          subst hj'
          exact ⟨⟨x.1, x.2, rfl⟩, (hUd j m x hj hx).2⟩
        have hkw := hst.kept
        generalize memsOf Ms U = Ms' at *
        clear heach hrow hdat hst hUd
        have hkw1 := HO.out.2.2.trans hkw (U := []) (by simp) (by simp)
        obtain ⟨Old', hsi, hnx⟩ := HO.out.2.1.same hfa HM.out.2.2.2.2.1 (hml.trans HM.out.2.1.symm) htd
        have hgs := group_sticky (some ⟨g, 0, none⟩) c Ms' at' ct Ts Old' (fun _ => gen) wr (by rw [hml]; exact hmems) (by rw [hT]; exact HO.out.1.kept hkw1 (by simp) (by simp)) hsi
        rw [hml, hT] at hgs
        have HG := Lib.hid (And.intro hgs (And.intro hnx hkw)); clear hgs hnx hsi htd hmems hml hkw hkw1
        go_upto_region 23 with (first
          | (go_at_call 18
             refine HG.out.1.mono ?_
             rintro e w2 ⟨A2, S2, a2, c2, rfl, hA1, hA2, hA3, hL2, _, _, hk2⟩
             obtain ⟨n2, hn2⟩ : ∃ n2, S2.length = n2 := ⟨_, rfl⟩
             rw [hn2] at hL2 ⊢)
          | fail)
        obtain ⟨hsl, hsame⟩ := HG.out.2.1 S2 A2 hA1 hA2 hA3
        obtain rfl : n2 = np := by have := HM.out.2.2.2.1; omega
        have hkw2 := HG.out.2.2.trans hk2 (U := []) (by simp) (by simp)
        have hS2 := HM.out.2.2.1.kept hkw2 (by simp) (by simp)
        have hpb := HO.out.2.1.len hfa
        have hnp := HM.out.2.2.2.1
        have HC2 := Lib.hid (And.intro hS2 (And.intro hnp (And.intro hL2 (And.intro hn2 (And.intro hsame (And.intro hpb (HO.out.2.2.trans hkw2 (U := []) (by simp) (by simp)))))))); clear hS2 hnp hL2 hn2 hsame hpb hkw2 hk2 HG HM HO hA1 hA2 hA3 hsl
        --<A
        go_wp2_with fail
        go_loopw [17] (fun i wr => KR1 w2 n2 i wr) (fun i _ => n2 - (intOf i).toNat)
        case atStart => exact ⟨Kept.refl _ _, 0, rfl, Nat.zero_le _⟩
        case round =>
          obtain ⟨hkw, k, rfl, hk⟩ := hrel
          by_cases hkn : k < n2
          · obtain ⟨x, hx⟩ : ∃ x, S[k]? = some x := ⟨_, List.getElem?_eq_getElem (by have := HC2.out.2.1; omega)⟩
            obtain ⟨y, hy⟩ : ∃ y, S2[k]? = some y := ⟨_, List.getElem?_eq_getElem (by have := HC2.out.2.2.2.1; omega)⟩
            obtain ⟨g1, o1, va, vc, rfl, hv, hcx⟩ := shr_at HC2.out.1 HC2.out.2.1 hx
            obtain ⟨g2, o2, ya, yc, rfl, hv2, hcy⟩ := shr_at HC2.out.2.2.1 HC2.out.2.2.2.1 hy
            obtain ⟨q1, q2, q3⟩ := HC2.out.2.2.2.2.1 k x y hx hy
            have hix := HC2.out.1.parts x (List.mem_of_getElem? hx)
            have hiy := HC2.out.2.2.1.parts y (List.mem_of_getElem? hy)
            have hpl := HC2.out.2.2.2.2.2.1.2 x (List.mem_of_getElem? hx)
            obtain ⟨xm, xt, xv, xp⟩ := x
            obtain ⟨ym, yt, yv, yp⟩ := y
            simp only at hv hv2 hcx hcy q1 q2 q3 hix hiy hpl
            subst q1 q2 hv hv2
            have hyl := q3.length_eq
            obtain ⟨pn, hpn⟩ : ∃ pn, xp.length = pn := ⟨_, rfl⟩
            rw [← hyl, hpn] at hcy hiy
            rw [hpn] at hcx hix hpl
            have hss : ∀ W, Kept [] wr W → (W.cell? ⟨g2, o2 + k * 3, none⟩ = some (.string xm) ∧ W.cell? ⟨g2, o2 + k * 3 + 1, none⟩ = some (.string xt) ∧ W.cell? ⟨g2, o2 + k * 3 + 2, none⟩ = some (.slice ya pn yc)) ∧ (W.cell? ⟨g1, o1 + k * 3, none⟩ = some (.string xm) ∧ W.cell? ⟨g1, o1 + k * 3 + 1, none⟩ = some (.string xt) ∧ W.cell? ⟨g1, o1 + k * 3 + 2, none⟩ = some (.slice va pn vc)) := fun W hW =>
              ⟨hcy W (hkw.trans hW (by simp) (by simp)), hcx W (hkw.trans hW (by simp) (by simp))⟩
            obtain ⟨⟨f0, f1, f2⟩, d0, d1, d2⟩ := hss wr (Kept.refl _ _)
            have hki : (k : Int) < (n2 : Int) := by omega
            have k1 := fun o => (Kept.refl [] wr).alloc o
            have k2 := fun o o' => ((Kept.refl [] wr).alloc o).alloc o'
            have f01 := fun o => (hss _ (k1 o)).1.1
            have f11 := fun o => (hss _ (k1 o)).1.2.1
            have f21 := fun o => (hss _ (k1 o)).1.2.2
            have d01 := fun o => (hss _ (k1 o)).2.1
            have d11 := fun o => (hss _ (k1 o)).2.2.1
            have d21 := fun o => (hss _ (k1 o)).2.2.2
            have f02 := fun o o' => (hss _ (k2 o o')).1.1
            have f12 := fun o o' => (hss _ (k2 o o')).1.2.1
            have f22 := fun o o' => (hss _ (k2 o o')).1.2.2
            have d02 := fun o o' => (hss _ (k2 o o')).2.1
            have d12 := fun o o' => (hss _ (k2 o o')).2.2.1
            have d22 := fun o o' => (hss _ (k2 o o')).2.2.2
            clear k1 k2
            have HX := Lib.hid (And.intro q3 (And.intro hix (And.intro hiy (And.intro hpn hss)))); clear q3 hix hiy hpn hss hyl hcx hcy hx hy
            go_upto_region 28 with fail
            go_cut [18, 19] (fun p q W => BxRel wr xm xt ya yc va vc pn p q W)
            case first =>
              go_region
              all_goals
                go_wp2_with fail
                go_meet
                exact ⟨_, _, rfl, rfl, by simp [go_sem], by simp [go_sem], by simp [go_sem], by simp [go_sem], by simp [go_sem], by simp [go_sem], (((Kept.refl [] wr).alloc _).alloc _).drew⟩
            case rest =>
              obtain ⟨b18, b19, rfl, rfl, p0, p1, p2, r0, r1, r2, hkb⟩ := hcut
              clear f0 f1 f2 d0 d1 d2 f01 f11 f21 d01 d11 d21 f02 f12 f22 d02 d12 d22
              have hsm : (xm.toList == xm.toList) = true := beq_self_eq_true _
              have hst : (xt.toList == xt.toList) = true := beq_self_eq_true _
              have hbx : ∀ V, Kept [] wc V → V.cell? ⟨b18, 2, none⟩ = some (.slice ya pn yc) ∧ V.cell? ⟨b19, 2, none⟩ = some (.slice va pn vc) := fun V hV => ⟨hV.cell p2 (by simp), hV.cell r2 (by simp)⟩
              have hkw3 := hkw.trans hkb (U := []) (by simp) (by simp)
              have HB := Lib.hid (And.intro hbx hkw3); clear hbx hkb hkw
              go_wp2_with fail
              clear p0 p1 p2 r0 r1 r2 hsm hst
              go_loopw [20] (fun i V => KR1 wc pn i V) (fun i _ => pn - (intOf i).toNat)
              case atStart => exact ⟨Kept.refl _ _, 0, rfl, Nat.zero_le _⟩
              case round =>
                obtain ⟨hkV, j, rfl, hj⟩ := hrel
                obtain ⟨s1, s2⟩ := HB.out.1 wr hkV
                by_cases hjn : j < pn
                · obtain ⟨z, hz⟩ : ∃ z, yp[j]? = some z := ⟨_, List.getElem?_eq_getElem (by have := HX.out.1.length_eq; have := HX.out.2.2.2.1; omega)⟩
                  have hzx : z ∈ xp := HX.out.1.mem_iff.2 (List.mem_of_getElem? hz)
                  obtain ⟨bx, ox, cx, hvx, hclx⟩ : ∃ b off cap, Value.slice va pn vc = .slice (some ⟨b, off, none⟩) pn cap ∧ ∀ j u, (i32s xp)[j]? = some u → w2.cell? ⟨b, off + j, none⟩ = some u := by
                    have h := HX.out.2.1.2.1.2.2
                    rw [HX.out.2.2.2.1] at h
                    rcases h with ⟨_, _, _, h0⟩ | h
                    · omega
                    · exact h
                  obtain ⟨by', oy, cy, hvy, hcly⟩ : ∃ b off cap, Value.slice ya pn yc = .slice (some ⟨b, off, none⟩) pn cap ∧ ∀ j u, (i32s yp)[j]? = some u → w2.cell? ⟨b, off + j, none⟩ = some u := by
                    have h := HX.out.2.2.1.2.1.2.2
                    rw [HX.out.1.length_eq.symm.trans HX.out.2.2.2.1] at h
                    rcases h with ⟨_, _, _, h0⟩ | h
                    · omega
                    · exact h
                  simp only [Value.slice.injEq] at hvx hvy
                  obtain ⟨rfl, _, rfl⟩ := hvx
                  obtain ⟨rfl, _, rfl⟩ := hvy
                  have hjk : (j : Int) < (pn : Int) := by omega
                  have hfacts : ∀ V, Kept [] wc V → V.cell? ⟨by', oy + j, none⟩ = some (.int .i32 z) ∧ ∀ (l : Nat) v, xp[l]? = some v → V.cell? ⟨bx, ox + l, none⟩ = some (.int .i32 v) := fun V hV =>
                    have hk0 := HB.out.2.trans hV (U := []) (by simp) (by simp)
                    ⟨hk0.cell (hcly j (.int .i32 z) (by simp [i32s, hz])) (by simp), fun l v hv => hk0.cell (hclx l (.int .i32 v) (by simp [i32s, hv])) (by simp)⟩
                  have HF := Lib.hid (And.intro hfacts hzx); clear hfacts hzx hclx hcly hz
                  go_wp2_with fail
                  go_loopw [21, 22] (fun f n V => FdRel wc z xp pn f n V) (fun _ n _ => pn - (intOf n).toNat)
                  case atStart => exact ⟨hkV, 0, rfl, Nat.zero_le _, by simp⟩
                  case round =>
                    clear s1 s2 hkV
                    obtain ⟨hkV, l, rfl, hl, rfl⟩ := hrel
                    obtain ⟨s1, s2⟩ := HB.out.1 wr hkV
                    by_cases hln : l < pn
                    · obtain ⟨v, hv⟩ : ∃ v, xp[l]? = some v := ⟨_, List.getElem?_eq_getElem (by have := HX.out.2.2.2.1; omega)⟩
                      have e1 := (HF.out.1 wr hkV).1
                      have e2 := (HF.out.1 wr hkV).2 l v hv
                      have hlk : (l : Int) < (pn : Int) := by omega
                      have htk := take_snoc' hv
                      have HT := Lib.hid htk; clear htk hv
                      by_cases hin : z ∈ xp.take l
                      · have hin2 : decide (z ∈ xp.take l) = true := decide_eq_true hin
                        have hin3 : z ∈ xp.take (l + 1) := by rw [HT.out]; exact List.mem_append_left _ hin
                        have HI := Lib.hid hin3; clear hin3
                        rw [hin2]
                        clear hin hin2
                        go_wp2_with fail
                        go_quiet (fail)
                        go_wp2_with fail
                        exact ⟨⟨hkV.drewN _, l + 1, by go_num, by omega, by simp [HI.out]⟩, by simp [intOf]; omega⟩
                      · have hin2 : decide (z ∈ xp.take l) = false := decide_eq_false hin
                        have hin3 : decide (z ∈ xp.take (l + 1)) = decide (z = v) := by rw [HT.out]; simp [hin]
                        have HI := Lib.hid hin3; clear hin3
                        rw [hin2]
                        clear hin hin2
                        go_wp2_with fail
                        go_quiet (fail)
                        go_wp2_with fail
                        exact ⟨⟨hkV.drewN _, l + 1, by go_num, by omega, by rw [HI.out, Bool.beq_eq_decide_eq]⟩, by simp [intOf]; omega⟩
                    · obtain rfl : l = pn := by omega
                      have hall : decide (z ∈ xp.take l) = true := decide_eq_true (by rw [List.take_of_length_le (by have := HX.out.2.2.2.1; omega)]; exact HF.out.2)
                      rw [hall]
                      clear hall
                      go_wp2_with fail
                      exact ⟨⟨hkV, j + 1, by go_num, by omega⟩, by simp [intOf]; omega⟩
                · obtain rfl : j = pn := by omega
                  go_wp2_with fail
                  exact ⟨⟨HB.out.2.trans hkV (by simp) (by simp), k + 1, by go_num, by omega⟩, by simp [intOf]; omega⟩
          · obtain rfl : k = n2 := by omega
            go_wp2_with (first
              | (go_at_call 14; refine (HAL.out _).mono ?_; rintro e w8 ⟨rfl, hk8⟩)
              | fail)
            go_ret
            exact ⟨rfl, (HC2.out.2.2.2.2.2.2.trans hkw (U := []) (by simp) (by simp)).trans hk8 (by simp) (by simp)⟩
theorem law_sticks_row (am : Option Addr) (cm : Nat) (Ms : List Mem) (at' : Option Addr) (ct : Nat) (Ts : List Shr) (gen : Int) (w : World) (hm : MemsAt w (.slice am Ms.length cm) Ms) (hml : Ms.length ≤ maxLen) (hmd : ∀ z ∈ Ms, MemRd w z) (ht : ShrsAt w (.slice at' Ts.length ct) Ts) (htl : Ts.length ≤ maxLen)
    (htd : ∀ z ∈ Ts, z.mem.size ≤ maxLen ∧ z.top.size ≤ maxLen ∧ z.parts.length ≤ maxLen) (hg : (Lit.int .i32 gen).wf = true) :
    Calls Tryz.prog 5 #[.slice am Ms.length cm, .slice at' Ts.length ct, .int .i32 gen] w fun e w' => e = .returned (.bool true) ∧ Kept [] w w' := by
  simp [Lit.wf, IntKind.min, IntKind.max, IntKind.signed, IntKind.bits] at hg
  exact law_sticks am _ cm Ms at' _ ct Ts gen w hm rfl ht rfl (by unfold isI32; omega) hmd (fun t h => (htd t h).2.1) ⟨hml, htl⟩
end Go.Proofs.YticcnlpfmekagaaGreat
