/- Part 45 of the proof of the row: ToldO, Kept, Range. -/
import Derived.Test.YticcnlpfmekagaaGreatRj00
import Derived.Test.YticcnlpfmekagaaGreatRj40
import Derived.Test.YticcnlpfmekagaaGreatRj24
import Derived.Test.YticcnlpfmekagaaGreatRj25
set_option linter.unusedVariables false
set_option linter.unusedSimpArgs false
set_option maxRecDepth 100000
set_option maxHeartbeats 8000000
namespace Go.Proofs.YticcnlpfmekagaaGreat
section
open Go Go.Proofs Go.RowKit Go.Lib
open Classical
def ToldPostO (w : World) (N : Nat) (Ms : List Mem) (S : List Shr) (gen : Int) (e : Ending) (w' : World) : Prop :=
 ∃ (Ms' : List Mem) (g c : Nat), e = .returned (.tuple #[.slice (some ⟨g, 0, none⟩) N c, .bool true]) ∧ w'.ownsRow 0 30 8 (.slice (some ⟨g, 0, none⟩) N c) N (Ms'.flatMap memCells) ∧ Ms'.length = N ∧ w.heap.size ≤ g ∧ (∀ W, Kept [g] w' W → ∀ m ∈ Ms', MemAt W m) ∧ (∀ (j : Nat) m m', Ms[j]? = some m → Ms'[j]? = some m' → ToldM S gen m m') ∧ Kept [] w w'
theorem new_sl8 (w : World) (E : TypeId) (a b c d e f g h : Value) (hh : [a, b, c, d, e, f, g, h].all (·.oneCell') = true) : SlAt (w.alloc (.cells #[a, b, c, d, e, f, g, h] E)) 8 (.slice (some ⟨w.heap.size, 0, none⟩) 1 1) 1 [a, b, c, d, e, f, g, h] := by
 refine ⟨by simp, fun u hu => (List.all_eq_true.1 hh) u hu, .inr ⟨_, 0, 1, rfl, fun j u hj => ?_⟩⟩
 have hc := heap_alloc_new w (.cells #[a, b, c, d, e, f, g, h] E)
 rw [Nat.zero_add]
 exact (cells_of hc).1 j u (by simpa using hj)
theorem joined_mems {w' W : World} {g N : Nat} {Ms' : List Mem} {mn : Mem} {v' : Value} (hl : Ms'.length = N) (hs : ∀ W, Kept [g] w' W → ∀ m ∈ Ms', MemAt W m) (hk : Kept [g] w' W) (ho : W.ownsRow 0 30 8 v' (N + 1) (Ms'.flatMap memCells ++ memCells mn)) (hmn : MemAt W mn) :
 ∃ a c', v' = .slice a (N + 1) c' ∧ MemsAt W (.slice a (N + 1) c') (Ms' ++ [mn]) ∧ (Ms' ++ [mn]).length = N + 1 := by
 have hl' : (Ms' ++ [mn]).length = N + 1 := by simp [hl]
 have heach : ∀ m ∈ Ms' ++ [mn], MemAt W m := fun m hm => by
  rcases Zap.1 hm with hm | hm
  · exact hs W hk m hm
  · simp only [Zmc, Znn, or_false] at hm
    subst hm; exact hmn
 have e : Ms'.flatMap memCells ++ memCells mn = (Ms' ++ [mn]).flatMap memCells := by simp
 rw [e] at ho
 obtain ⟨g', c, rfl⟩ := own_some ho (by omega)
 have hone : ∀ u ∈ (Ms' ++ [mn]).flatMap memCells, u.oneCell' = true := fun u hu => by
  obtain ⟨m', hm', hu⟩ := List.mem_flatMap.1 hu
  exact mem_one (heach m' hm') u hu
 refine ⟨_, c, rfl, ⟨⟨_, _, by rw [hl']⟩, ?_, heach⟩, hl'⟩
 rw [hl']
 exact own_sl ho hone
theorem told_own (am : Option Addr) (N cm : Nat) (Ms : List Mem) (ap : Option Addr) (np cp : Nat) (S : List Shr) (gen : Int) (w : World) (hm : MemsAt w (.slice am N cm) Ms) (hN : Ms.length = N) (hS : ShrsAt w (.slice ap np cp) S) (hn : S.length = np) (hg : isI32 gen) (hb : 1 ≤ N ∧ N ≤ 1000 ∧ np ≤ 1000) (hok : ∀ m ∈ Ms, OwnOk S gen m.id) :
 Calls Tryz.prog 24 #[.slice am N cm, .slice ap np cp, .int .i32 gen] w (ToldPostO w N Ms S gen) := by
 have hst0 : St [] w w [] [] := St.start0 (Ow.nil w)
 have hst1 := hst0.made 30 8 0 [] rfl (by decide)
 have hms := hm.cells
 rw [hN] at hms
 have hsrc := (hms.kept (hst1.kept) (by simp)).src Tryz.underlying22
 obtain ⟨hb1, hb2, hb3⟩ := hb
 have HM := Zhd (Zan hm (Zan hN (Zan hS (Zan hn (Zan hg hok))))); clear hm hN hS hn hg hok hms
 go_enter Tryz.func24, Tryz.ntmps24
 go_upto_region 2 with (first
  | (refine wl_push 0 rfl rfl elMem rfl rfl hst1 rfl hsrc (by omega) (by omega) ?_
     intro v' w2 hst2
     simp only [Zs0, List.nil_append, Nat.zero_add] at hst2)
  | fail)
 obtain ⟨g, c, rfl⟩ := own_some (hst2.m 0 rfl) (by omega)
 have e0 : memsOf Ms [] = Ms := by
  unfold memsOf
  apply List.ext_getElem?
  intro j; simp
 have hst3 : St [] w w2 (Rs.dat [] :: [Rs.row 30 8 (.slice (some ⟨g, 0, none⟩) N c) N (Ms.flatMap memCells)]) [] := hst2.push (Kept.refl _ _) (by simp [Rs.dat]) (by simp [Rs.dat])
 have hst4 := hst3.front 1 rfl
 simp only [Ze0, Ze1] at hst4
 have h10 : TD1 w g c N Ms S gen [] (.int .i64 0) w2 := ⟨0, [], rfl, Nat.zero_le _, rfl, fun j m x _ hx => by simp at hx, by rw [e0]; exact hst4⟩
 have H10 := Zhd h10; clear h10 hst4 hst3 hst2 hst1 hst0 hsrc e0
 go_wp2_with fail
 go_loopw [9] (fun i wr => TD1 w g c N Ms S gen [] i wr) (fun i _ => N - (intOf i).toNat)
 case atStart => exact H10.out
 case round =>
  obtain ⟨k, U, rfl, hk, hU, hUd, hst⟩ := hrel
  clear H10
  by_cases hkn : k < N
  · obtain ⟨m, hmk⟩ : ∃ m, Ms[k]? = some m := ⟨_, List.getElem?_eq_getElem (by have := HM.out.2.1; omega)⟩
    have hki : (k : Int) < (N : Int) := by omega
    have hst1 := hst.made 33 3 0 [] rfl (by decide)
    have h20 : TD2 w S np m.id [Rs.row 30 8 (.slice (some ⟨g, 0, none⟩) N c) N ((memsOf Ms U).flatMap memCells), Rs.dat U] [] (.slice (some ⟨wr.heap.size, 0, none⟩) 0 0) (.int .i64 0) (wr.alloc (.cells #[] 33)) := ⟨0, rfl, Nat.zero_le _, by simpa [ownOf] using hst1⟩
    have H20 := Zhd h20; clear h20 hst1
    have hmg : (memsOf Ms U)[k]? = some m := by rw [memsOf_get, hmk, ← hU]; simp
    have HH := Zhd (Zan hmk (Zan hU (Zan hUd hmg))); clear hmk hU hUd hmg
    go_wp2_with fail
    go_loopw [10, 11] (fun v i wr' => TD2 w S np m.id [Rs.row 30 8 (.slice (some ⟨g, 0, none⟩) N c) N ((memsOf Ms U).flatMap memCells), Rs.dat U] [] v i wr') (fun _ i _ => np - (intOf i).toNat)
    case atStart => exact H20.out
    case round =>
     obtain ⟨q, rfl, hq, hst2⟩ := hrel
     clear H20
     have hcid := (own_cell (j := k * 8) (hst2.m 1 rfl) (mem_get HH.out.2.2.2 0 (by omega))).1
     by_cases hqn : q < np
     · obtain ⟨x, hx⟩ : ∃ x, S[q]? = some x := ⟨_, List.getElem?_eq_getElem (by have := HM.out.2.2.2.1; omega)⟩
       obtain ⟨gp, op, va, vc, rfl, hv, hcx⟩ := shr_at HM.out.2.2.1 HM.out.2.2.2.1 hx
       obtain ⟨d0, d1, d2⟩ := hcx wr hst2.kept
       have hqi : (q : Int) < (np : Int) := by omega
       have hsn := ownOf_snoc S m.id hx
       have hol := ownOf_le (S.take q) m.id
       rw [List.length_take] at hol
       have hol2 : (ownOf (S.take q) m.id).length ≤ 1000 := by omega
       clear hol
       by_cases e : x.mem = m.id
       · have hse : (x.mem.toList == m.id.toList) = true := beq_iff_eq.2 (by rw [e])
         rw [if_pos e] at hsn
         have HX := Zhd (Zan hsn (Zan hv (Zan hcx e))); clear hsn hv hcx e
         go_wp2_with fail
         go_quiet (fail)
         go_upto_region 10 with fail
         have hst3 := (hst2.drewN (nq + 1)).alloc (.cells #[.string ⟨#[]⟩, .string x.top, .slice va x.parts.length vc] 33)
         have hsl : SlAt ((wr.drewN (nq + 1)).alloc (.cells #[.string ⟨#[]⟩, .string x.top, .slice va x.parts.length vc] 33)) 3 (.slice (some ⟨wr.heap.size, 0, none⟩) 1 1) 1 [.string ⟨#[]⟩, .string x.top, .slice va x.parts.length vc] := by
          have h := new_sl3 (wr.drewN (nq + 1)) 33 (.string ⟨#[]⟩) (.string x.top) (.slice va x.parts.length vc) rfl
          simpa using h
         have hsrc := hsl.src Tryz.underlying23
         have HSRC := Zhd hsrc; clear hsrc hsl
         have hss : ∀ W, Kept [] wr W → W.cell? ⟨gp, op + q * 3 + 1, none⟩ = some (.string x.top) ∧ W.cell? ⟨gp, op + q * 3 + 2, none⟩ = some (.slice va x.parts.length vc) := fun W hW => (HX.out.2.2.1 W (hst2.kept.trans hW (by simp) (by simp))).2
         have HSS := Zhd hss; clear hss
         go_region_held3 (fun W => W.cell? ⟨gp, op + q * 3 + 1, none⟩ = some (.string x.top) ∧ W.cell? ⟨gp, op + q * 3 + 2, none⟩ = some (.slice va x.parts.length vc))
          (first | with_reducible exact HSS.out _ ((Kept.refl _ _).drewN _).drew | with_reducible exact HSS.out _ (((Kept.refl _ _).drewN _).drew.alloc _) | with_reducible exact (HX.out.2.2.1 _ hst4.kept).2 | fail)
          (first
            | (refine sl_push 0 rfl rfl elSh rfl rfl hst3 rfl HSRC.out (by omega) (by omega) ?_
               intro v' w3 hst4
               simp only [Zs0] at hst4)
            | fail)
         all_goals
          go_wp2_with fail
          refine ⟨⟨q + 1, by go_num, by omega, ?_⟩, by simp [intOf]; omega⟩
          rw [HX.out.1]
          simpa [shrCells, HX.out.2.1] using hst4
       · have hse : (x.mem.toList == m.id.toList) = false := beq_eq_false_iff_ne.2 (fun h => e ((ba_inj _ _).1 h))
         rw [if_neg e, List.append_nil] at hsn
         have HX := Zhd hsn; clear hsn e hv hcx
         go_wp2_with fail
         go_quiet (fail)
         go_wp2_with fail
         refine ⟨⟨q + 1, by go_num, by omega, ?_⟩, by simp [intOf]; omega⟩
         rw [HX.out]
         exact hst2.drewN _
     · obtain rfl : q = np := by omega
       have e5 : S.take q = S := List.take_of_length_le (by have := HM.out.2.2.2.1; omega)
       rw [e5] at hst2
       have hmM := List.mem_of_getElem? HH.out.1
       have hokm := HM.out.2.2.2.2.2 m hmM
       have hints : ∀ y ∈ ownOf S m.id, SlInts wr y.val y.parts := fun y hy => by
        obtain ⟨x, hx, rfl⟩ := List.mem_map.1 hy
        exact (HM.out.2.2.1.parts x (List.mem_filter.1 hx).1).kept hst2.kept (by simp)
       have hll : (ownOf S m.id).length ≤ 1000 := by have h1 := ownOf_le S m.id; have h2 := HM.out.2.2.2.1; omega
       obtain ⟨va, vn, vc, e6⟩ := own_form (show wr.ownsRow 0 33 3 u10 _ _ from hst2.m 0 rfl)
       subst e6
       have hl := own_len (show wr.ownsRow 0 33 3 (.slice va vn vc) _ _ from hst2.m 0 rfl)
       subst hl
       have hgd := groupData_any 2 (by omega) m.id va vc (ownOf S m.id) gen wr ⟨⟨va, vc, rfl⟩, own_sl (hst2.m 0 rfl) (shrCells_one hints), hints⟩ hll hokm.nd hokm.sz hokm.top HM.out.2.2.2.2.1 hokm.room
       obtain ⟨ln, hln⟩ : ∃ ln, (ownOf S m.id).length = ln := ⟨_, rfl⟩
       have hst2' := hst2
       rw [hln] at hgd hst2' ⊢
       have HG := Zhd hgd; clear hgd hints hll hokm
       go_upto_region 12 with (first
        | (go_at_call 21
           refine HG.out.mono ?_
           rintro e w5 ⟨u, D, cs, rfl, hD, hdo, hsu, hfu, hk5⟩)
        | fail)
       have hne : cs ≠ [] := by
        rcases hdo with ⟨h, _⟩ | ⟨_, L', _, h⟩
        · exact absurd rfl h
        · rw [h, encV1_v1]; exact v1_ne _ _
       obtain ⟨b, off, cap, hu, hcl⟩ : ∃ b off cap, u = .slice (some ⟨b, off, none⟩) cs.length cap ∧ ∀ j x, cs[j]? = some x → w5.cell? ⟨b, off + j * 1, none⟩ = some x := by
        rcases hsu.2.2 with ⟨_, _, _, h0⟩ | ⟨b, off, cap, h1, h2⟩
        · exact absurd (List.eq_nil_of_length_eq_zero h0) hne
        · exact ⟨b, off, cap, h1, fun j x hj => by simpa using h2 j x hj⟩
       have hbl : b < w5.heap.size := by
        cases cs with
        | nil => exact absurd rfl hne
        | cons x xs => exact World.block_lt_of_cell? w5 _ (hcl 0 x rfl)
       have hst3 : St [] w w5 (Rs.dat [(u, cs)] :: _) [] := hst2'.push hk5 (by intro x hx; simp only [Zmc, Znn, or_false] at hx; subst hx; exact hsu) (fun g hg => by
        simp only [Rs.dat, List.flatMap_cons, List.flatMap_nil, List.append_nil] at hg
        refine ⟨hfu g (by simpa using hg), ?_⟩
        rw [hu] at hg
        simp only [Value.ownBlock, Option.toList, Zmc, Znn, or_false] at hg
        subst hg; exact hbl)
       have hst4 := (hst3.front 3 rfl).front 1 rfl
       simp only [Ze0, Ze1] at hst4
       have hst5 : St [] w w5 (Rs.dat (U ++ [(u, cs)]) :: _) [] := hst4.join (Z := Rs.dat (U ++ [(u, cs)])) (fun h1 h2 _ x hx => by
        rcases Zap.1 hx with hx | hx
        · exact h2 x hx
        · exact h1 x hx) (fun g hg => by
        simp only [Rs.dat, List.flatMap_append, Zap] at hg
        rcases hg with hg | hg
        · exact .inr hg
        · exact .inl hg)
       have hst6 := hst5.drop 1
       simp only [Ze0, Ze1] at hst6
       have hoc := own_cell (j := k * 8 + 3) (hst6.m 1 rfl) (mem_get HH.out.2.2.2 3 (by omega))
       obtain ⟨hoc1, hoc2⟩ := hoc
       have hst7 := hst6.setRow 1 rfl (k * 8 + 3) u
       obtain ⟨A, B, hA, eA, eB⟩ := mems_split (x := (u, cs)) (by rw [HH.out.2.1]; exact HH.out.1)
       have eset : ((memsOf Ms U).flatMap memCells).set (k * 8 + 3) u = (memsOf Ms (U ++ [(u, cs)])).flatMap memCells := by
        rw [eA, eB]
        exact set_mid (m := m) (m' := { m with dv := u, data := cs }) rfl (hA.trans HH.out.2.1)
       rw [eset] at hst7
       have hst8 := hst7.front 1 rfl
       simp only [Zs0, Zs1, Ze0, Ze1] at hst8
       have hud : ∀ (j : Nat) m x, Ms[j]? = some m → (U ++ [(u, cs)])[j]? = some x → (∃ a c, x.1 = .slice a x.2.length c) ∧ ∃ D, tops2 D = (ownOf S m.id).map topOf ∧ DataOf 2 D gen x.2 := fun j m' x hj hx => by
        by_cases hjk : j < U.length
        · rw [List.getElem?_append_left hjk] at hx
          exact HH.out.2.2.1 j m' x hj hx
        · rw [List.getElem?_append_right (by omega)] at hx
          have h0 : j - U.length = 0 := by
           have := (List.getElem?_eq_some_iff.1 hx).1
           simp at this; omega
          rw [h0] at hx
          simp only [List.getElem?_cons_zero, Option.some.injEq] at hx
          subst hx
          have : j = k := by have := HH.out.2.1; omega
          subst this
          rw [HH.out.1] at hj
          cases hj
          exact ⟨⟨_, _, hu⟩, D, hD, hdo⟩
       have hnx : TD1 w g c N Ms S gen [] (.int .i64 ((k : Nat) + 1)) (w5.setCell ⟨g, k * 8 + 3, none⟩ u) := ⟨k + 1, U ++ [(u, cs)], by go_num, by omega, by simp [HH.out.2.1], hud, hst8⟩
       have HNX := Zhd hnx; clear hnx hud hst8 hst7 eset eA eB hA hst6 hst5 hst4 hst3 hst2 hst2' hcl hsu hdo hD hfu
       subst hu
       go_wp2_with fail
       exact ⟨HNX.out, by simp [intOf]; omega⟩
  · obtain rfl : k = N := by omega
    have hrow : wr.ownsRow 0 30 8 (.slice (some ⟨g, 0, none⟩) k c) k ((memsOf Ms U).flatMap memCells) := hst.m 0 rfl
    have hdat : ∀ x ∈ U, SlAt wr 1 x.1 x.2.length x.2 := hst.m 1 rfl
    have hgs : w.heap.size ≤ g := by
     have := hst.turn g (by simp [foots, Rs.row, Value.ownBlock])
     rcases this with h | h
     · simp at h
     · exact h
    have hap : ∀ g' ∈ (Rs.row 30 8 (.slice (some ⟨g, 0, none⟩) k c) k ((memsOf Ms U).flatMap memCells)).foot, g' ∉ (Rs.dat U).foot := (List.pairwise_cons.1 hst.ow.dis).1 _ (by simp)
    have heach : ∀ W, Kept [g] wr W → ∀ m' ∈ memsOf Ms U, MemAt W m' := fun W hW m' hm' => by
     obtain ⟨j, hj⟩ := List.mem_iff_getElem?.1 hm'
     rw [memsOf_get] at hj
     cases hmj : Ms[j]? with
     | none => rw [hmj] at hj; cases hj
     | some m =>
       rw [hmj] at hj
       have h0 := (HM.out.1.each m (List.mem_of_getElem? hmj)).kept0 (hst.kept.trans hW (U := []) (by simp) (fun g' hg' hlt => by simp only [Zmc, Znn, or_false] at hg'; omega))
       cases hxj : U[j]? with
       | none =>
         rw [hxj] at hj
         simp only [Option.map_some, Option.some.injEq] at hj
         subst hj; exact h0
       | some x =>
         rw [hxj] at hj
         simp only [Option.map_some, Option.some.injEq] at hj
         subst hj
         exact ⟨h0.tops, ⟨(hUd j m x hmj hxj).1, (hdat x (List.mem_of_getElem? hxj)).kept hW (fun b hb hbg => hap g (by simp [Rs.row, Value.ownBlock]) (by
          simp only [Zmc, Znn, or_false] at hbg
          exact List.mem_flatMap.2 ⟨x, List.mem_of_getElem? hxj, by simp [hb, hbg]⟩))⟩, h0.owned⟩
    have hml : (memsOf Ms U).length = k := by rw [memsOf_len]; exact HM.out.2.1
    have hfin : ToldPostO w k Ms S gen (.returned (.tuple #[.slice (some ⟨g, 0, none⟩) k c, .bool true])) wr := ⟨memsOf Ms U, g, c, rfl, hrow, hml, hgs, heach, fun j m m' hj hj' => by
     have hjk : j < U.length := by rw [hU]; have := (List.getElem?_eq_some_iff.1 hj).1; have := HM.out.2.1; omega
     obtain ⟨x, hx⟩ : ∃ x, U[j]? = some x := ⟨_, List.getElem?_eq_getElem hjk⟩
     rw [memsOf_get, hj, hx] at hj'
     simp only [Option.map_some, Option.some.injEq] at hj'
     subst hj'
     exact ⟨⟨x.1, x.2, rfl⟩, (hUd j m x hj hx).2⟩, hst.kept⟩
    have HFN := Zhd hfin; clear hfin heach hrow hdat hst hUd hap
    go_wp2_with fail
    go_ret2
    exact HFN.out
end
section
open Go Go.Proofs Go.RowKit Go.Lib
open Classical
def HR1 (w : World) (L : List Shr) (t : ByteArray) (p : Int) (m : ByteArray) (n : Nat) (i : Value) (wr : World) : Prop := wr = w ∧ ∃ k : Nat, i = .int .i64 k ∧ k ≤ n ∧ holderT ((L.drop k).map trip) t p = some m
def HR2 (w : World) (x : Shr) (t : ByteArray) (p : Int) (pn : Nat) (i : Value) (wr : World) : Prop := wr = w ∧ ∃ j : Nat, i = .int .i64 j ∧ j ≤ pn ∧ ¬ (x.top = t ∧ p ∈ x.parts.take j)
theorem holder_any (a : Option Addr) (n c : Nat) (L : List Shr) (t : ByteArray) (p : Int) (m : ByteArray) (w : World) (h : ShrsAt w (.slice a n c) L) (hn : L.length = n) (hb : n ≤ 1000000) (hp : ∀ x ∈ L, x.parts.length ≤ 1000000) (hh : holderT (L.map trip) t p = some m) :
 Calls Tryz.prog 19 #[.slice a n c, .string t, .int .i32 p] w fun e w' => e = .returned (.tuple #[.string m, .bool true]) ∧ w' = w := by
 have HM := Zhd (Zan h (Zan hn (Zan hp hh))); clear h hn hp hh
 go_enter Tryz.func19, Tryz.ntmps19
 go_wp2_with fail
 go_loopw [8] (fun i wr => HR1 w L t p m n i wr) (fun i _ => n - (intOf i).toNat)
 case atStart => exact ⟨rfl, 0, rfl, Nat.zero_le _, HM.out.2.2.2⟩
 case round =>
  obtain ⟨rfl, k, rfl, hk, hho⟩ := hrel
  by_cases hkn : k < n
  · obtain ⟨x, hx⟩ : ∃ x, L[k]? = some x := ⟨_, List.getElem?_eq_getElem (by have := HM.out.2.1; omega)⟩
    obtain ⟨g, off, va, vc, rfl, hv, hc⟩ := shr_at HM.out.1 HM.out.2.1 hx
    obtain ⟨d0, d1, d2⟩ := hc wr (Kept.refl _ _)
    have hxL := List.mem_of_getElem? hx
    have hpt := (HM.out.1.parts x hxL).2.1
    rw [hv] at hpt
    have hpb := HM.out.2.2.1 x hxL
    obtain ⟨hk1, hk2⟩ := List.getElem?_eq_some_iff.1 hx
    rw [List.drop_eq_getElem_cons hk1, hk2, List.map_cons] at hho
    obtain ⟨pn, hpn⟩ : ∃ pn, x.parts.length = pn := ⟨_, rfl⟩
    rw [hpn] at hpt d2 hpb
    have hki : (k : Int) < (n : Int) := by omega
    have HX := Zhd (Zan hho (Zan hpt hpn)); clear hho hpt hpn hc hv hk2
    go_wp2_with fail
    go_loopw [9] (fun i wr' => HR2 wr x t p pn i wr') (fun i _ => pn - (intOf i).toNat)
    case atStart => exact ⟨rfl, 0, rfl, Nat.zero_le _, by simp⟩
    case round =>
     obtain ⟨rfl, j, rfl, hj, hno⟩ := hrel
     by_cases hjn : j < pn
     · obtain ⟨v, hv⟩ : ∃ v, x.parts[j]? = some v := ⟨_, List.getElem?_eq_getElem (by have := HX.out.2.2; omega)⟩
       obtain ⟨b, o2, cap, hva, hcl⟩ : ∃ b off cap, Value.slice va pn vc = .slice (some ⟨b, off, none⟩) pn cap ∧ ∀ j u, (i32s x.parts)[j]? = some u → wr.cell? ⟨b, off + j, none⟩ = some u := by
        rcases HX.out.2.1.2.2 with ⟨_, _, _, h0⟩ | h
        · omega
        · exact h
       simp only [Value.slice.injEq] at hva
       obtain ⟨rfl, _, rfl⟩ := hva
       have c5 := hcl j (.int .i32 v) (by simp [i32s, hv])
       have hji : (j : Int) < (pn : Int) := by omega
       have HV := Zhd (Zan hv hno); clear hv hno hcl
       by_cases et : x.top = t
       · have hse : (x.top.toList == t.toList) = true := beq_iff_eq.2 (by rw [et])
         by_cases ev : v = p
         · subst ev
           have hm : x.mem = m := by
            have h1 := HX.out.1
            unfold holderT at h1
            rw [if_pos ⟨et, List.mem_of_getElem? HV.out.1⟩] at h1
            simpa [trip] using h1
           have HMM := Zhd (Zan hm et); clear hm et
           go_wp2_with fail
           go_ret2
           exact ⟨by rw [← HMM.out.1]; rfl, rfl⟩
         · have HET := Zhd (Zan et ev); clear et
           go_wp2_with fail
           refine ⟨⟨rfl, j + 1, by go_num, by omega, ?_⟩, by simp [intOf]; omega⟩
           obtain ⟨h1, h2⟩ := List.getElem?_eq_some_iff.1 HV.out.1
           rw [List.take_succ_eq_append_getElem h1, h2]
           rintro ⟨h3, h4⟩
           rcases Zap.1 h4 with h4 | h4
           · exact HV.out.2 ⟨h3, h4⟩
           · simp only [Zmc, Znn, or_false] at h4
             exact HET.out.2 h4.symm
       · have hse : (x.top.toList == t.toList) = false := beq_eq_false_iff_ne.2 (fun h => et ((ba_inj _ _).1 h))
         have HET := Zhd et; clear et
         go_wp2_with fail
         exact ⟨⟨rfl, j + 1, by go_num, by omega, fun h => HET.out h.1⟩, by simp [intOf]; omega⟩
     · obtain rfl : j = pn := by omega
       rw [List.take_of_length_le (by have := HX.out.2.2; omega)] at hno
       have hnx : HR1 wr L t p m n (.int .i64 ((k : Nat) + 1)) wr := by
        refine ⟨rfl, k + 1, by go_num, by omega, ?_⟩
        have h1 := HX.out.1
        unfold holderT at h1
        rw [if_neg (by simpa [trip] using hno)] at h1
        exact h1
       have HNX := Zhd hnx; clear hnx hno
       go_wp2_with fail
       exact ⟨HNX.out, by simp [intOf]; omega⟩
  · exfalso
    have : k = n := by omega
    rw [List.drop_of_length_le (by have := HM.out.2.1; omega)] at hho
    cases hho
def KR1 (w : World) (n : Nat) (i : Value) (wr : World) : Prop := Kept [] w wr ∧ ∃ k : Nat, i = .int .i64 k ∧ k ≤ n
theorem kept_any (m : ByteArray) (a1 : Option Addr) (n1 c1 : Nat) (L1 : List Shr) (a2 : Option Addr) (n2 c2 : Nat) (L2 : List Shr) (w : World) (h1 : ShrsAt w (.slice a1 n1 c1) L1) (hn1 : L1.length = n1) (h2 : ShrsAt w (.slice a2 n2 c2) L2) (hn2 : L2.length = n2)
 (hb : n1 ≤ 1000000 ∧ n2 ≤ 1000000) (hp1 : ∀ x ∈ L1, x.parts.length ≤ 1000000) (hp2 : ∀ x ∈ L2, x.parts.length ≤ 1000000) (hk : keptT m (L1.map trip) (L2.map trip) = true) :
 Calls Tryz.prog 26 #[.string m, .slice a1 n1 c1, .slice a2 n2 c2] w fun e w' => e = .returned (.bool true) ∧ Kept [] w w' := by
 have hh : ∀ x ∈ L1, x.mem = m → ∀ p ∈ x.parts, holderT (L2.map trip) x.top p = some m := fun x hx e p hp => by
  unfold keptT at hk
  rw [List.all_eq_true] at hk
  have := hk (trip x) (List.mem_map_of_mem hx)
  simp only [trip, e, ne_eq, not_true_eq_false, decide_false, Bool.false_or, List.all_eq_true, decide_eq_true_eq] at this
  exact this p hp
 have hho := fun w' (k' : Kept [] w w') t p h => holder_any a2 n2 c2 L2 t p m w' (h2.kept k' (by simp) (by simp)) hn2 (by omega) hp2 h
 have HM := Zhd (Zan h1 (Zan hn1 (Zan hh (Zan hho hp1)))); clear h1 hn1 h2 hn2 hk hh hho hp1 hp2
 go_enter Tryz.func26, Tryz.ntmps26
 go_wp2_with fail
 go_loopw [7] (fun i wr => KR1 w n1 i wr) (fun i _ => n1 - (intOf i).toNat)
 case atStart => exact ⟨Kept.refl _ _, 0, rfl, Nat.zero_le _⟩
 case round =>
  obtain ⟨hkw, k, rfl, hk⟩ := hrel
  by_cases hkn : k < n1
  · obtain ⟨x, hx⟩ : ∃ x, L1[k]? = some x := ⟨_, List.getElem?_eq_getElem (by have := HM.out.2.1; omega)⟩
    obtain ⟨g, off, va, vc, rfl, hv, hc⟩ := shr_at HM.out.1 HM.out.2.1 hx
    obtain ⟨d0, d1, d2⟩ := hc wr hkw
    have hxL := List.mem_of_getElem? hx
    have hki : (k : Int) < (n1 : Int) := by omega
    by_cases e : x.mem = m
    · have hse : (x.mem.toList == m.toList) = true := beq_iff_eq.2 (by rw [e])
      have hpt := (HM.out.1.parts x hxL).2.1
      rw [hv] at hpt
      have hpb := HM.out.2.2.2.2 x hxL
      have hhx := HM.out.2.2.1 x hxL e
      obtain ⟨pn, hpn⟩ : ∃ pn, x.parts.length = pn := ⟨_, rfl⟩
      rw [hpn] at hpt hpb d2 hc
      have HX := Zhd (Zan hhx (Zan hpt (Zan hpn hc))); clear hhx hpt hpn e hv hx hxL hc
      go_wp2_with fail
      go_loopw [8] (fun i wr' => KR1 w pn i wr') (fun i _ => pn - (intOf i).toNat)
      case atStart => exact ⟨hkw, 0, rfl, Nat.zero_le _⟩
      case round =>
       clear d0 d1 d2 hkw
       obtain ⟨hkw, j, rfl, hj⟩ := hrel
       obtain ⟨d0, d1, d2⟩ := HX.out.2.2.2 wr hkw
       by_cases hjn : j < pn
       · obtain ⟨v, hv⟩ : ∃ v, x.parts[j]? = some v := ⟨_, List.getElem?_eq_getElem (by have := HX.out.2.2.1; omega)⟩
         obtain ⟨b, o2, cap, hva, hcl⟩ : ∃ b off cap, Value.slice va pn vc = .slice (some ⟨b, off, none⟩) pn cap ∧ ∀ j u, (i32s x.parts)[j]? = some u → w.cell? ⟨b, off + j, none⟩ = some u := by
          rcases HX.out.2.1.2.2 with ⟨_, _, _, h0⟩ | h
          · omega
          · exact h
         simp only [Value.slice.injEq] at hva
         obtain ⟨rfl, _, rfl⟩ := hva
         have c5 := hkw.cell (hcl j (.int .i32 v) (by simp [i32s, hv])) (by simp)
         have hji : (j : Int) < (pn : Int) := by omega
         have hcall := fun n => HM.out.2.2.2.1 (wr.drewN n) (hkw.drewN n) x.top v (HX.out.1 v (List.mem_of_getElem? hv))
         have HC := Zhd hcall; clear hcall hcl hv
         have hmm : (m.toList == m.toList) = true := beq_self_eq_true _
         go_wp2_with fail
         go_quiet ((go_at_call 19; exact Calls.quiet_of_same (HC.out _)))
         go_wp2_with fail
         exact ⟨⟨hkw.drewN _, j + 1, by go_num, by omega⟩, by simp [intOf]; omega⟩
       · obtain rfl : j = pn := by omega
         go_wp2_with fail
         exact ⟨⟨hkw, k + 1, by go_num, by omega⟩, by simp [intOf]; omega⟩
    · have hse : (x.mem.toList == m.toList) = false := beq_eq_false_iff_ne.2 (fun h => e ((ba_inj _ _).1 h))
      clear e hv hc hx hxL
      go_wp2_with fail
      exact ⟨⟨hkw, k + 1, by go_num, by omega⟩, by simp [intOf]; omega⟩
  · go_wp2_with fail
    go_ret
    exact ⟨rfl, hkw⟩
end
section
open Go Go.Proofs Go.RowKit
theorem add_one (p : Nat) (m t : ByteArray) (a : Option Addr) (c : Nat) (xs : List Int) (w : World) (hp : MapAt w isStr p []) (hx : SlInts w (.slice a xs.length c) xs) (h1 : 1 ≤ xs.length) (h2 : xs.length ≤ 1000) :
 Calls Tryz.prog 93 #[.map (some p), .string m, .string t, .slice a xs.length c] w fun e w' => e = .returned (.tuple #[]) ∧ (∃ r v, PlanAt w' p [(m, r, [(t, v, xs)])] ∧ w.heap.size ≤ r ∧ (∀ g, v.ownBlock = some g → w.heap.size ≤ g ∧ g < w'.heap.size)) ∧ Kept [p] w w' := by
 have hpl := hp.lt
 have hmk : ∀ w : World, (Instr.makeMap 90 (some (.int .i64 1))).run Tryz.prog w = .ok (.map (some w.heap.size)) (w.alloc (.map #[] 0)) := fun w => by
  simp [Instr.makeMap, go_sem]
 have hlk := map_lookup_miss (P := Tryz.prog) hp (keyT_str Tryz.underlying9) Tryz.underlying82 (k := .string m) ⟨_, rfl⟩ (by simp) (Tryz.zeroValue90 w) true
 simp only [if_true] at hlk
 have HP := Zhd hp; clear hp
 have HX := Zhd hx; clear hx
 have hne : ¬ ((xs.length : Int) = 0) := by omega
 go_enter Tryz.func93, Tryz.ntmps93
 go_upto_region 4 with (first | (refine wl_update (kv := .string m) (vv := .map (some w.heap.size)) rfl rfl rfl rfl rfl (keyT_str Tryz.underlying9) Tryz.underlying82 (HP.out.alloc _) ⟨_, rfl⟩ ?_; intro w2 hm2 hk2 hs2) | fail)
 rw [putE_miss (by simp), List.nil_append] at hm2
 have hpr : w.heap.size ≠ p := by omega
 have hr2 : MapAt w2 isStr w.heap.size [] := (MapAt.new w isStr).kept hk2 (by simp; omega)
 have hk02 : Kept [p] w w2 := ((Kept.refl [p] w).alloc _).trans hk2 (by simp) (by simp)
 have hl1 : ∀ w', MapAt w' isStr p [(.string m, .map (some w.heap.size))] → (Instr.lookup 82 (.map (some p)) (.string m) false).run Tryz.prog w' = .ok (.map (some w.heap.size)) w' := fun w' h' => by
  have h1 := map_lookup_hit (P := Tryz.prog) h' (keyT_str Tryz.underlying9) Tryz.underlying82 (k := .string m) (v := .map (some w.heap.size)) (by simp) false
  simpa using h1
 have hl2 := map_lookup_miss (P := Tryz.prog) (w := w2.drew) hr2.drew (keyT_str Tryz.underlying9) Tryz.underlying90 (k := .string t) ⟨_, rfl⟩ (by simp) (Tryz.zeroValue31 _) false
 simp only [Bool.false_eq_true, if_false] at hl2
 have hgp : ∀ g, (Value.slice a xs.length c).ownBlock = some g → g ≠ p := by
  rintro g hg rfl
  obtain ⟨_, hcase⟩ := HX.out.2.1.cases
  rcases hcase with ⟨_, h0, _⟩ | ⟨g', off, rfl, hcell⟩
  · omega
  · simp only [Value.ownBlock, Option.some.injEq] at hg
    subst hg
    obtain ⟨es, ck, hh, _⟩ := HP.out
    have := hcell 0 (.int .i32 xs[0]) (by simp [i32s])
    simp [World.cell?, hh] at this
 have hsl2 := HX.out.2.1.kept hk02 (fun g hg => by have := hgp g hg; simpa using this)
 have hsrc := (SlAt.drew hsl2).src Tryz.underlying31
 have HSRC := Zhd hsrc; clear hsrc
 have HR2 := Zhd hr2; clear hr2
 have hs02 := hk02.size
 have hs2' := hs2
 simp only [World.size_alloc] at hs2'
 go_region_held3 (fun w' => MapAt w' isStr p [(.string m, .map (some w.heap.size))])
  (first | exact hm4 | exact hm3 | exact hm2.drew | fail)
  (first
    | (refine sl_app (v := .slice none 0 0) rfl rfl elI32 rfl rfl (own_nil _ _) HSRC.out (by omega) (by omega) ?_
       intro v' w3 hown3 hk3 hd3
       have hk3' : Kept [] w2 w3 := by simpa [Value.ownBlock] using hk3.of_drew
       have hm3 := hm2.kept hk3' (by simp)
       have hr3 := HR2.out.kept hk3' (by simp))
    | (refine up_update (fun _ _ => rfl) (keyT_str Tryz.underlying9) Tryz.underlying90 hr3 ⟨_, rfl⟩ ?_
       intro w4 hm5 hk4 hs4
       have hm4 := hm3.kept hk4 (by simp; omega))
    | fail)
 all_goals
  go_end0
  rw [putE_miss (by simp)] at hm5
  rw [List.nil_append, Nat.zero_add] at hown3
  have hs3 := hk3'.size
  have hvo : ∀ g, v'.ownBlock = some g → g = w2.heap.size ∧ g < w3.heap.size := fun g hg => by
   rcases hd3 with ⟨h1, h2⟩ | ⟨h1, h2⟩
   · rw [h1] at hg; simp [Value.ownBlock] at hg
   · rw [h1] at hg; simp only [Option.some.injEq, World.size_drew] at hg h2; omega
  refine ⟨rfl, ⟨w.heap.size, v', ⟨by simpa [rawP] using hm4, fun x hx => ?_⟩, Nat.le_refl _, fun g hg => by have := hvo g hg; omega⟩, ?_⟩
  · simp only [Zmc, Znn, or_false] at hx
    subst hx
    refine ⟨by simpa [rawT] using hm5, fun y hy => ?_⟩
    simp only [Zmc, Znn, or_false] at hy
    subst hy
    have hsl3 := own_sl hown3 (by intro u hu; obtain ⟨z, _, rfl⟩ := List.mem_map.1 hu; rfl)
    refine SlInts.kept ⟨?_, hsl3, HX.out.2.2⟩ hk4 (fun g hg => by have := hvo g hg; simp; omega)
    rcases hsl3.2.2 with ⟨a', c', e1, e2⟩ | ⟨g', off', c', e1, _⟩
    · rw [e1, e2]; exact ⟨_, _, rfl⟩
    · rw [e1]; exact ⟨_, _, rfl⟩
  · exact (hk02.trans hk3' (U := [p]) (by simp) (by simp)).trans hk4 (by simp) (by simp <;> omega)
theorem min_zero (w : World) : Calls Tryz.prog 92 #[.float .f64 0, .float .f64 0] w fun e w' => e = .returned (.float .f64 0) ∧ w = w' := by
 have ha : ∀ w : World, (callFunc 118 #[.float .f64 0, .float .f64 0]).run Tryz.prog w = .ok (.value (.float .f64 0)) w := fun w => by kernel_rfl
 go_enter Tryz.func92, Tryz.ntmps92
 go_wp2
 go_ret
 exact ⟨rfl, rfl⟩
theorem sort_strings_one (v : Value) (m : ByteArray) (w : World) (hown : w.ownsRow 0 9 1 v 1 (strs [m])) : ∃ g c, v = .slice (some ⟨g, 0, none⟩) 1 c ∧ g < w.heap.size ∧
 Calls Tryz.prog 91 #[v] w fun e w' => e = .returned (.tuple #[]) ∧ w'.ownsRow 0 9 1 v 1 (strs [m]) ∧ Kept [g] w w' := by
 obtain ⟨g, c, rfl, hg, hs⟩ := sort_names v 1 [m] w hown (Nat.le_refl _) (by omega)
 have h1 : sortedNames [m] = [m] := by
  have := sortedNames_perm [m]
  exact List.perm_singleton.1 this
 rw [h1] at hs
 have HS := Zhd hs; clear hs
 refine ⟨g, c, rfl, hg, ?_⟩
 clear hown h1
 go_enter Tryz.func91, Tryz.ntmps91
 go_wp2_with (go_at_call 48; refine HS.out.mono ?_; rintro e w1 ⟨rfl, h2, h3⟩)
 go_end0
 exact ⟨rfl, h2, h3⟩
theorem range_core (p : Nat) (m t : ByteArray) (v : Value) (a : Option Addr) (c : Nat) (w : World) (hp : MapAt w isStr p []) (hx : SlInts w (.slice a 2 c) [0, 1]) (hc : 2 ≤ c) (hown : w.ownsRow 0 9 1 v 1 (strs [m])) (hvp : ∀ g, v.ownBlock = some g → g ≠ p ∧ ∀ g', a.map (·.block) = some g' → g ≠ g') :
 Calls Tryz.prog 90 #[.map (some p), v, .string t, .slice a 2 c] w fun e w' => e = .returned (.tuple #[]) ∧ (∃ r u, PlanAt w' p [(m, r, [(t, u, [0, 1])])] ∧ w.heap.size ≤ r ∧ (∀ g, u.ownBlock = some g → w.heap.size ≤ g ∧ g < w'.heap.size)) ∧ Kept (p :: v.ownBlock.toList) w w' := by
 obtain ⟨g, cn, rfl, hg, hsort⟩ := sort_strings_one v m w hown
 have hcv : ∀ w : World, (convert 3 161 (.int .i64 0)).run Tryz.prog w = .ok (.float .f64 0) w := fun w => by kernel_rfl
 have hcw : ∀ w : World, (convert 161 3 (.float .f64 0)).run Tryz.prog w = .ok (.int .i64 0) w := fun w => by kernel_rfl
 have HS := Zhd hsort; clear hsort
 have HX := Zhd hx; clear hx
 have HP := Zhd hp; clear hp
 have hvp' := hvp g rfl
 obtain ⟨ga, off, rfl⟩ : ∃ ga off, a = some ⟨ga, off, none⟩ := by
  obtain ⟨_, hcase⟩ := HX.out.2.1.cases
  rcases hcase with ⟨_, h0, _⟩ | ⟨g', off, h, _⟩
  · simp at h0
  · exact ⟨g', off, h⟩
 have hga : g ≠ ga := hvp'.2 ga rfl
 have hgp := hvp'.1
 have hci : (2 : Int) ≤ (c : Int) := by omega
 clear hvp hvp'
 go_enter Tryz.func90, Tryz.ntmps90
 go_upto_region 3 with (first | (go_at_call 91; refine HS.out.mono ?_; rintro e w1 ⟨rfl, hown1, hk1⟩) | fail)
 have hp1 := HP.out.kept hk1 (by simp; exact fun h => hgp h.symm)
 have hx1 := HX.out.kept hk1 (fun g' hg' => by simp only [Value.ownBlock, Option.some.injEq] at hg'; subst hg'; simp; exact fun h => hga h.symm)
 have hnm : w1.cell? ⟨g, 0, none⟩ = some (.string m) := by
  have h1 := (own_sl hown1 (strs_one _)).cell (j := 0) (u := .string m) rfl
  simpa using h1
 have hadd : ∀ c', Calls Tryz.prog 93 #[.map (some p), .string m, .string t, .slice (some ⟨ga, off, none⟩) 2 c'] w1 _ := fun c' => add_one p m t (some ⟨ga, off, none⟩) c' [0, 1] w1 hp1 ⟨⟨_, _, rfl⟩, ⟨hx1.2.1.1, hx1.2.1.2.1, .inr ⟨ga, off, c', rfl, fun j u hj => hx1.2.1.cell hj⟩⟩, hx1.2.2⟩ (by simp) (by simp)
 have HADD := Zhd hadd; clear hadd
 have hs1 := hk1.size
 have HK1 := Zhd hk1; clear hk1
 clear hp1 hx1 hown1
 go_wp2_with fail
 go_loopw [29] (fun i wr => (i = .int .i64 0 ∧ wr = w1) ∨ (i = .int .i64 1 ∧ ((∃ r u, PlanAt wr p [(m, r, [(t, u, [0, 1])])] ∧ w.heap.size ≤ r ∧ (∀ g, u.ownBlock = some g → w.heap.size ≤ g ∧ g < wr.heap.size)) ∧ Kept [p, g] w wr))) (fun i _ => 1 - (intOf i).toNat)
 case atStart => exact .inl ⟨rfl, rfl⟩
 case round =>
  rcases hrel with ⟨rfl, rfl⟩ | ⟨rfl, hpost⟩
  · have hmin := min_zero
    have HMIN := Zhd hmin; clear hmin
    go_wp2_with (first
     | (go_at_call 92; refine (HMIN.out _).mono ?_; rintro e w2 ⟨rfl, rfl⟩)
     | (go_at_call 93; refine (HADD.out _).mono ?_; rintro e w3 ⟨rfl, ⟨r, u, hpl, hr, hu⟩, hk3⟩)
     | fail)
    refine ⟨.inr ⟨rfl, ⟨r, u, hpl, by omega, fun g' hg' => by have := hu g' hg'; omega⟩, HK1.out.trans hk3 (by simp) (by simp)⟩, by simp [intOf]⟩
  · have HPO := Zhd hpost; clear hpost
    go_wp2_with fail
    go_end0
    exact ⟨rfl, HPO.out.1, by simpa [Value.ownBlock] using HPO.out.2⟩
end
end Go.Proofs.YticcnlpfmekagaaGreat
