/- Part 44 of 51 of the proof of the row: the texts Told. -/
import Derived.Test.YticcnlpfmekagaaGreatRd42
import Derived.Test.YticcnlpfmekagaaGreatRd11
import Derived.Test.YticcnlpfmekagaaGreatRd43
namespace Go.Proofs.YticcnlpfmekagaaGreat
open Go Go.Proofs Go.RowKit Go.Lib
open Classical
set_option linter.unusedVariables false
set_option linter.unusedSimpArgs false

/-! ## told (24): members with their data -/
theorem infoMem : (Tryz.prog.info? 30).map (fun i => (i.zero, i.size, i.bytes)) = some (some (.agg #[.string ⟨#[]⟩, .int .i16 0, .slice none 0 0, .slice none 0 0, .slice none 0 0, .int .i32 0, .string ⟨#[]⟩, .bool false]), 8, 128) := by kernel_rfl
theorem elMem : Elem Tryz.prog 22 30 8 128 (.agg #[.string ⟨#[]⟩, .int .i16 0, .slice none 0 0, .slice none 0 0, .slice none 0 0, .int .i32 0, .string ⟨#[]⟩, .bool false]) := ⟨Tryz.underlying22, info_parts infoMem, rfl, by omega⟩

/-- slices of bytes that lie by themselves -/
def Rs.dat (U : List (Value × List Value)) : Res where
  foot := U.flatMap fun x => x.1.ownBlock.toList
  holds := fun w => ∀ x ∈ U, SlAt w 1 x.1 x.2.length x.2
  stable := fun w w' S k hs h x hx => (h x hx).kept k (fun g hg => hs g (List.mem_flatMap.2 ⟨x, hx, by simp [hg]⟩))
/-- what a plan gives a member, as shares without her name -/
def ownOf (S : List Shr) (id : ByteArray) : List Shr := (S.filter fun x => decide (x.mem = id)).map fun x => ⟨⟨#[]⟩, x.top, x.val, x.parts⟩
theorem ownOf_snoc (S : List Shr) (id : ByteArray) {k : Nat} {x : Shr} (h : S[k]? = some x) : ownOf (S.take (k + 1)) id = ownOf (S.take k) id ++ (if x.mem = id then [⟨⟨#[]⟩, x.top, x.val, x.parts⟩] else []) := by
  obtain ⟨h1, h2⟩ := List.getElem?_eq_some_iff.1 h
  rw [List.take_succ_eq_append_getElem h1, h2]
  unfold ownOf
  rw [List.filter_append, List.map_append]
  by_cases e : x.mem = id <;> simp [e]
/-- a member with her data -/
structure ToldM (S : List Shr) (gen : Int) (m m' : Mem) : Prop where
  same : ∃ dv data, m' = { m with dv := dv, data := data }
  data : ∃ D, tops2 D = (ownOf S m.id).map topOf ∧ DataOf 2 D gen m'.data
def memsOf (Ms : List Mem) (U : List (Value × List Value)) : List Mem := Ms.mapIdx fun i m => match U[i]? with | some x => { m with dv := x.1, data := x.2 } | none => m
theorem memsOf_len (Ms : List Mem) (U : List (Value × List Value)) : (memsOf Ms U).length = Ms.length := by simp [memsOf]
theorem memsOf_get (Ms : List Mem) (U : List (Value × List Value)) (i : Nat) : (memsOf Ms U)[i]? = (Ms[i]?).map fun m => match U[i]? with | some x => { m with dv := x.1, data := x.2 } | none => m := by simp [memsOf]
/-- told so far: the first members have their data -/
def TD1 (w : World) (g c N : Nat) (Ms : List Mem) (S : List Shr) (gen : Int) (R : List Res) (i : Value) (wr : World) : Prop :=
  ∃ (k : Nat) (U : List (Value × List Value)), i = .int .i64 k ∧ k ≤ N ∧ U.length = k ∧ (∀ (j : Nat) m x, Ms[j]? = some m → U[j]? = some x → (∃ a c, x.1 = .slice a x.2.length c) ∧ ∃ D, tops2 D = (ownOf S m.id).map topOf ∧ DataOf 2 D gen x.2) ∧
    St [] w wr [Rs.row 30 8 (.slice (some ⟨g, 0, none⟩) N c) N ((memsOf Ms U).flatMap memCells), Rs.dat U] R
def TD2 (w : World) (S : List Shr) (np : Nat) (id : ByteArray) (Mr R : List Res) (v i : Value) (wr : World) : Prop :=
  ∃ k : Nat, i = .int .i64 k ∧ k ≤ np ∧ St [] w wr (Rs.row 33 3 v (ownOf (S.take k) id).length ((ownOf (S.take k) id).flatMap shrCells) :: Mr) R

theorem memCells_len (L : List Mem) : (L.flatMap memCells).length = L.length * 8 := by
  induction L with
  | nil => rfl
  | cons x L ih => rw [List.flatMap_cons, List.length_append, ih, List.length_cons]; simp [memCells]; omega
theorem set_mid {A B : List Mem} {m m' : Mem} {u : Value} (h : (memCells m).set 3 u = memCells m') {k : Nat} (hk : A.length = k) : ((A ++ m :: B).flatMap memCells).set (k * 8 + 3) u = (A ++ m' :: B).flatMap memCells := by
  rw [List.flatMap_append, List.flatMap_append, List.flatMap_cons, List.flatMap_cons, ← h]
  rw [List.set_append_right _ _ (by rw [memCells_len, hk]; omega), memCells_len, hk]
  rw [show k * 8 + 3 - k * 8 = 3 by omega, List.set_append_left _ _ (by simp [memCells])]
theorem mems_split {Ms : List Mem} {U : List (Value × List Value)} {m : Mem} {x : Value × List Value} (hm : Ms[U.length]? = some m) :
    ∃ A B, A.length = U.length ∧ memsOf Ms U = A ++ m :: B ∧ memsOf Ms (U ++ [x]) = A ++ { m with dv := x.1, data := x.2 } :: B := by
  obtain ⟨hk, e⟩ := List.getElem?_eq_some_iff.1 hm
  have h1 : (memsOf Ms U)[U.length]? = some m := by rw [memsOf_get, hm]; simp
  have hl : U.length < (memsOf Ms U).length := by rw [memsOf_len]; exact hk
  refine ⟨(memsOf Ms U).take U.length, (memsOf Ms U).drop (U.length + 1), by simp; omega, ?_, ?_⟩
  · conv => lhs; rw [← List.take_append_drop U.length (memsOf Ms U), List.drop_eq_getElem_cons hl]
    rw [List.getElem?_eq_getElem hl] at h1
    simp only [Option.some.injEq] at h1
    rw [h1]
  · have hl2 : ((memsOf Ms U).take U.length).length = U.length := by rw [List.length_take]; omega
    apply List.ext_getElem?
    intro j
    by_cases h2 : j < U.length
    · have r1 : ((memsOf Ms U).take U.length ++ { m with dv := x.1, data := x.2 } :: (memsOf Ms U).drop (U.length + 1))[j]? = (memsOf Ms U)[j]? := by
        rw [List.getElem?_append_left (by rw [hl2]; exact h2), List.getElem?_take_of_lt h2]
      rw [r1, memsOf_get, memsOf_get, List.getElem?_append_left h2]
    · by_cases h3 : j = U.length
      · subst h3
        have r1 : ((memsOf Ms U).take U.length ++ { m with dv := x.1, data := x.2 } :: (memsOf Ms U).drop (U.length + 1))[U.length]? = some { m with dv := x.1, data := x.2 } := by
          rw [List.getElem?_append_right (by omega), hl2]; simp
        rw [r1, memsOf_get, hm]
        simp
      · obtain ⟨d, rfl⟩ : ∃ d, j = U.length + 1 + d := ⟨j - U.length - 1, by omega⟩
        have r1 : ((memsOf Ms U).take U.length ++ { m with dv := x.1, data := x.2 } :: (memsOf Ms U).drop (U.length + 1))[U.length + 1 + d]? = (memsOf Ms U)[U.length + 1 + d]? := by
          rw [List.getElem?_append_right (by omega), hl2, show U.length + 1 + d - U.length = d + 1 by omega, List.getElem?_cons_succ, List.getElem?_drop]
        rw [r1, memsOf_get, memsOf_get, List.getElem?_eq_none (l := U ++ [x]) (by simp), List.getElem?_eq_none (l := U) (by omega)]
theorem ownOf_le (S : List Shr) (id : ByteArray) : (ownOf S id).length ≤ S.length := by
  unfold ownOf
  rw [List.length_map]
  exact List.length_filter_le _ _
structure OwnOk (S : List Shr) (gen : Int) (id : ByteArray) : Prop where
  nd : ((ownOf S id).map (·.top)).Nodup
  sz : ∀ x ∈ ownOf S id, x.parts.length ≤ 1000
  top : ∀ x ∈ ownOf S id, x.top.size ≤ 1000
  room : ∀ D, tops2 D = (ownOf S id).map topOf → (encV1 D gen).length ≤ 1000000
def ToldPost (w : World) (N : Nat) (Ms : List Mem) (S : List Shr) (gen : Int) (e : Ending) (w' : World) : Prop :=
  ∃ (Ms' : List Mem) (a : Option Addr) (c : Nat), e = .returned (.tuple #[.slice a N c, .bool true]) ∧ MemsAt w' (.slice a N c) Ms' ∧ Ms'.length = N ∧ N ≤ c ∧ (∀ g, a = some g → w.heap.size ≤ g.block) ∧ (∀ (j : Nat) m m', Ms[j]? = some m → Ms'[j]? = some m' → ToldM S gen m m') ∧ Kept [] w w'

set_option maxRecDepth 100000 in
set_option maxHeartbeats 8000000 in
theorem told_any (am : Option Addr) (N cm : Nat) (Ms : List Mem) (ap : Option Addr) (np cp : Nat) (S : List Shr) (gen : Int) (w : World) (hm : MemsAt w (.slice am N cm) Ms) (hN : Ms.length = N) (hS : ShrsAt w (.slice ap np cp) S) (hn : S.length = np) (hg : isI32 gen) (hb : 1 ≤ N ∧ N ≤ 1000 ∧ np ≤ 1000) (hok : ∀ m ∈ Ms, OwnOk S gen m.id) :
    Calls Tryz.prog 24 #[.slice am N cm, .slice ap np cp, .int .i32 gen] w (ToldPost w N Ms S gen) := by
  have hst0 : St [] w w [] [] := St.start0 (Ow.nil w)
  have hst1 := hst0.made 30 8 0 [] rfl (by decide)
  have hms := hm.cells
  rw [hN] at hms
  have hsrc := (hms.kept (hst1.kept) (by simp)).src Tryz.underlying22
  obtain ⟨hb1, hb2, hb3⟩ := hb
  have HM := Lib.hid (And.intro hm (And.intro hN (And.intro hS (And.intro hn (And.intro hg hok))))); clear hm hN hS hn hg hok hms
  go_enter Tryz.func24, Tryz.ntmps24
  go_upto_region 2 with (first
    | (refine wl_push 0 rfl rfl elMem rfl rfl hst1 rfl hsrc (by omega) (by omega) ?_
       intro v' w2 hst2
       simp only [List.set_cons_zero, List.nil_append, Nat.zero_add] at hst2)
    | fail)
  obtain ⟨g, c, rfl⟩ := own_some (hst2.m 0 rfl) (by omega)
  have e0 : memsOf Ms [] = Ms := by
    unfold memsOf
    apply List.ext_getElem?
    intro j; simp
  have hst3 : St [] w w2 (Rs.dat [] :: [Rs.row 30 8 (.slice (some ⟨g, 0, none⟩) N c) N (Ms.flatMap memCells)]) [] := hst2.push (Kept.refl _ _) (by simp [Rs.dat]) (by simp [Rs.dat])
  have hst4 := hst3.front 1 rfl
  simp only [List.eraseIdx_cons_zero, List.eraseIdx_cons_succ] at hst4
  have h10 : TD1 w g c N Ms S gen [] (.int .i64 0) w2 := ⟨0, [], rfl, Nat.zero_le _, rfl, fun j m x _ hx => by simp at hx, by rw [e0]; exact hst4⟩
  have H10 := Lib.hid h10; clear h10 hst4 hst3 hst2 hst1 hst0 hsrc e0
  go_wp2_with fail
  go_loopw [9] (fun i wr => TD1 w g c N Ms S gen [] i wr) (fun i _ => N - (intOf i).toNat)
  case atStart => exact H10.out
  case round =>
    obtain ⟨k, U, rfl, hk, hU, hUd, hst⟩ := hrel
    clear H10
    by_cases hkn : k < N
    · obtain ⟨m, hmk⟩ : ∃ m, Ms[k]? = some m := ⟨_, List.getElem?_eq_getElem (by have := HM.out.2.1; omega)⟩
      have hki : (k : Int) < (N : Int) := by omega
      have hst1 := hst.made 33 3 0 [] rfl (by decide)
      have h20 : TD2 w S np m.id [Rs.row 30 8 (.slice (some ⟨g, 0, none⟩) N c) N ((memsOf Ms U).flatMap memCells), Rs.dat U] [] (.slice (some ⟨wr.heap.size, 0, none⟩) 0 0) (.int .i64 0) (wr.alloc (.cells #[] 33)) := ⟨0, rfl, Nat.zero_le _, by simpa [ownOf] using hst1⟩
      have H20 := Lib.hid h20; clear h20 hst1
      have hmg : (memsOf Ms U)[k]? = some m := by rw [memsOf_get, hmk, ← hU]; simp
      have HH := Lib.hid (And.intro hmk (And.intro hU (And.intro hUd hmg))); clear hmk hU hUd hmg
      go_wp2_with fail
      go_loopw [10, 11] (fun v i wr' => TD2 w S np m.id [Rs.row 30 8 (.slice (some ⟨g, 0, none⟩) N c) N ((memsOf Ms U).flatMap memCells), Rs.dat U] [] v i wr') (fun _ i _ => np - (intOf i).toNat)
      case atStart => exact H20.out
      case round =>
        obtain ⟨q, rfl, hq, hst2⟩ := hrel
        clear H20
        have hcid := (own_cell (j := k * 8) (hst2.m 1 rfl) (mem_get HH.out.2.2.2 0 (by omega))).1
        by_cases hqn : q < np
        · obtain ⟨x, hx⟩ : ∃ x, S[q]? = some x := ⟨_, List.getElem?_eq_getElem (by have := HM.out.2.2.2.1; omega)⟩
          obtain ⟨gp, op, va, vc, rfl, hv, hcx⟩ := shr_at HM.out.2.2.1 HM.out.2.2.2.1 hx
          obtain ⟨d0, d1, d2⟩ := hcx wr hst2.kept
          have hqi : (q : Int) < (np : Int) := by omega
          have hsn := ownOf_snoc S m.id hx
          have hol := ownOf_le (S.take q) m.id
          rw [List.length_take] at hol
          have hol2 : (ownOf (S.take q) m.id).length ≤ 1000 := by omega
          clear hol
          by_cases e : x.mem = m.id
          · have hse : (x.mem.toList == m.id.toList) = true := beq_iff_eq.2 (by rw [e])
            rw [if_pos e] at hsn
            have HX := Lib.hid (And.intro hsn (And.intro hv (And.intro hcx e))); clear hsn hv hcx e
            go_wp2_with fail
            go_quiet (fail)
            go_upto_region 10 with fail
            have hst3 := (hst2.drewN (nq + 1)).alloc (.cells #[.string ⟨#[]⟩, .string x.top, .slice va x.parts.length vc] 33)
            have hsl : SlAt ((wr.drewN (nq + 1)).alloc (.cells #[.string ⟨#[]⟩, .string x.top, .slice va x.parts.length vc] 33)) 3 (.slice (some ⟨wr.heap.size, 0, none⟩) 1 1) 1 [.string ⟨#[]⟩, .string x.top, .slice va x.parts.length vc] := by
              have h := new_sl3 (wr.drewN (nq + 1)) 33 (.string ⟨#[]⟩) (.string x.top) (.slice va x.parts.length vc) rfl
              simpa using h
            have hsrc := hsl.src Tryz.underlying23
            have HSRC := Lib.hid hsrc; clear hsrc hsl
            have hss : ∀ W, Kept [] wr W → W.cell? ⟨gp, op + q * 3 + 1, none⟩ = some (.string x.top) ∧ W.cell? ⟨gp, op + q * 3 + 2, none⟩ = some (.slice va x.parts.length vc) := fun W hW => (HX.out.2.2.1 W (hst2.kept.trans hW (by simp) (by simp))).2
            have HSS := Lib.hid hss; clear hss
            go_region_held3 (fun W => W.cell? ⟨gp, op + q * 3 + 1, none⟩ = some (.string x.top) ∧ W.cell? ⟨gp, op + q * 3 + 2, none⟩ = some (.slice va x.parts.length vc))
              (first | with_reducible exact HSS.out _ ((Kept.refl _ _).drewN _).drew | with_reducible exact HSS.out _ (((Kept.refl _ _).drewN _).drew.alloc _) | with_reducible exact (HX.out.2.2.1 _ hst4.kept).2 | fail)
              (first
                | (refine sl_push 0 rfl rfl elSh rfl rfl hst3 rfl HSRC.out (by omega) (by omega) ?_
                   intro v' w3 hst4
                   simp only [List.set_cons_zero] at hst4)
                | fail)
            all_goals
              go_wp2_with fail
              refine ⟨⟨q + 1, by go_num, by omega, ?_⟩, by simp [intOf]; omega⟩
              rw [HX.out.1]
              simpa [shrCells, HX.out.2.1] using hst4
          · have hse : (x.mem.toList == m.id.toList) = false := beq_eq_false_iff_ne.2 (fun h => e ((ba_inj _ _).1 h))
            rw [if_neg e, List.append_nil] at hsn
            have HX := Lib.hid hsn; clear hsn e hv hcx
            go_wp2_with fail
            go_quiet (fail)
            go_wp2_with fail
            refine ⟨⟨q + 1, by go_num, by omega, ?_⟩, by simp [intOf]; omega⟩
            rw [HX.out]
            exact hst2.drewN _
        · obtain rfl : q = np := by omega
          have e5 : S.take q = S := List.take_of_length_le (by have := HM.out.2.2.2.1; omega)
          rw [e5] at hst2
          have hmM := List.mem_of_getElem? HH.out.1
          have hokm := HM.out.2.2.2.2.2 m hmM
          have hints : ∀ y ∈ ownOf S m.id, SlInts wr y.val y.parts := fun y hy => by
            obtain ⟨x, hx, rfl⟩ := List.mem_map.1 hy
            exact (HM.out.2.2.1.parts x (List.mem_filter.1 hx).1).kept hst2.kept (by simp)
          have hll : (ownOf S m.id).length ≤ 1000 := by have h1 := ownOf_le S m.id; have h2 := HM.out.2.2.2.1; omega
          obtain ⟨va, vn, vc, e6⟩ := own_form (show wr.ownsRow 0 33 3 u10 _ _ from hst2.m 0 rfl)
          subst e6
          have hl := own_len (show wr.ownsRow 0 33 3 (.slice va vn vc) _ _ from hst2.m 0 rfl)
          subst hl
          have hgd := groupData_any 2 (by omega) m.id va vc (ownOf S m.id) gen wr ⟨⟨va, vc, rfl⟩, own_sl (hst2.m 0 rfl) (shrCells_one hints), hints⟩ hll hokm.nd hokm.sz hokm.top HM.out.2.2.2.2.1 hokm.room
          obtain ⟨ln, hln⟩ : ∃ ln, (ownOf S m.id).length = ln := ⟨_, rfl⟩
          have hst2' := hst2
          rw [hln] at hgd hst2' ⊢
          have HG := Lib.hid hgd; clear hgd hints hll hokm
          go_upto_region 12 with (first
            | (go_at_call 21
               refine HG.out.mono ?_
               rintro e w5 ⟨u, D, cs, rfl, hD, hdo, hsu, hfu, hk5⟩)
            | fail)
          have hne : cs ≠ [] := by
            rcases hdo with ⟨h, _⟩ | ⟨_, L', _, h⟩
            · exact absurd rfl h
            · rw [h, encV1_v1]; exact v1_ne _ _
          obtain ⟨b, off, cap, hu, hcl⟩ : ∃ b off cap, u = .slice (some ⟨b, off, none⟩) cs.length cap ∧ ∀ j x, cs[j]? = some x → w5.cell? ⟨b, off + j * 1, none⟩ = some x := by
            rcases hsu.2.2 with ⟨_, _, _, h0⟩ | ⟨b, off, cap, h1, h2⟩
            · exact absurd (List.eq_nil_of_length_eq_zero h0) hne
            · exact ⟨b, off, cap, h1, fun j x hj => by simpa using h2 j x hj⟩
          have hbl : b < w5.heap.size := by
            cases cs with
            | nil => exact absurd rfl hne
            | cons x xs => exact World.block_lt_of_cell? w5 _ (hcl 0 x rfl)
          have hst3 : St [] w w5 (Rs.dat [(u, cs)] :: _) [] := hst2'.push hk5 (by intro x hx; simp only [List.mem_cons, List.not_mem_nil, or_false] at hx; subst hx; exact hsu) (fun g hg => by
            simp only [Rs.dat, List.flatMap_cons, List.flatMap_nil, List.append_nil] at hg
            refine ⟨hfu g (by simpa using hg), ?_⟩
            rw [hu] at hg
            simp only [Value.ownBlock, Option.toList, List.mem_cons, List.not_mem_nil, or_false] at hg
            subst hg; exact hbl)
          have hst4 := (hst3.front 3 rfl).front 1 rfl
          simp only [List.eraseIdx_cons_zero, List.eraseIdx_cons_succ] at hst4
          have hst5 : St [] w w5 (Rs.dat (U ++ [(u, cs)]) :: _) [] := hst4.join (Z := Rs.dat (U ++ [(u, cs)])) (fun h1 h2 _ x hx => by
            rcases List.mem_append.1 hx with hx | hx
            · exact h2 x hx
            · exact h1 x hx) (fun g hg => by
            simp only [Rs.dat, List.flatMap_append, List.mem_append] at hg
            rcases hg with hg | hg
            · exact .inr hg
            · exact .inl hg)
          have hst6 := hst5.drop 1
          simp only [List.eraseIdx_cons_zero, List.eraseIdx_cons_succ] at hst6
          have hoc := own_cell (j := k * 8 + 3) (hst6.m 1 rfl) (mem_get HH.out.2.2.2 3 (by omega))
          obtain ⟨hoc1, hoc2⟩ := hoc
          have hst7 := hst6.setRow 1 rfl (k * 8 + 3) u
          obtain ⟨A, B, hA, eA, eB⟩ := mems_split (x := (u, cs)) (by rw [HH.out.2.1]; exact HH.out.1)
          have eset : ((memsOf Ms U).flatMap memCells).set (k * 8 + 3) u = (memsOf Ms (U ++ [(u, cs)])).flatMap memCells := by
            rw [eA, eB]
            exact set_mid (m := m) (m' := { m with dv := u, data := cs }) rfl (hA.trans HH.out.2.1)
          rw [eset] at hst7
          have hst8 := hst7.front 1 rfl
          simp only [List.set_cons_zero, List.set_cons_succ, List.eraseIdx_cons_zero, List.eraseIdx_cons_succ] at hst8
          have hud : ∀ (j : Nat) m x, Ms[j]? = some m → (U ++ [(u, cs)])[j]? = some x → (∃ a c, x.1 = .slice a x.2.length c) ∧ ∃ D, tops2 D = (ownOf S m.id).map topOf ∧ DataOf 2 D gen x.2 := fun j m' x hj hx => by
            by_cases hjk : j < U.length
            · rw [List.getElem?_append_left hjk] at hx
              exact HH.out.2.2.1 j m' x hj hx
            · rw [List.getElem?_append_right (by omega)] at hx
              have h0 : j - U.length = 0 := by
                have := (List.getElem?_eq_some_iff.1 hx).1
                simp at this; omega
              rw [h0] at hx
              simp only [List.getElem?_cons_zero, Option.some.injEq] at hx
              subst hx
              have : j = k := by have := HH.out.2.1; omega
              subst this
              rw [HH.out.1] at hj
              cases hj
              exact ⟨⟨_, _, hu⟩, D, hD, hdo⟩
          have hnx : TD1 w g c N Ms S gen [] (.int .i64 ((k : Nat) + 1)) (w5.setCell ⟨g, k * 8 + 3, none⟩ u) := ⟨k + 1, U ++ [(u, cs)], by go_num, by omega, by simp [HH.out.2.1], hud, hst8⟩
          have HNX := Lib.hid hnx; clear hnx hud hst8 hst7 eset eA eB hA hst6 hst5 hst4 hst3 hst2 hst2' hcl hsu hdo hD hfu
          subst hu
          go_wp2_with fail
          exact ⟨HNX.out, by simp [intOf]; omega⟩
    · obtain rfl : k = N := by omega
      have hrow : wr.ownsRow 0 30 8 (.slice (some ⟨g, 0, none⟩) k c) k ((memsOf Ms U).flatMap memCells) := hst.m 0 rfl
      have hdat : ∀ x ∈ U, SlAt wr 1 x.1 x.2.length x.2 := hst.m 1 rfl
      have heach : ∀ m' ∈ memsOf Ms U, MemAt wr m' := fun m' hm' => by
        obtain ⟨j, hj⟩ := List.mem_iff_getElem?.1 hm'
        rw [memsOf_get] at hj
        cases hmj : Ms[j]? with
        | none => rw [hmj] at hj; cases hj
        | some m =>
          rw [hmj] at hj
          have h0 := (HM.out.1.each m (List.mem_of_getElem? hmj)).kept0 hst.kept
          cases hxj : U[j]? with
          | none =>
            rw [hxj] at hj
            simp only [Option.map_some, Option.some.injEq] at hj
            subst hj; exact h0
          | some x =>
            rw [hxj] at hj
            simp only [Option.map_some, Option.some.injEq] at hj
            subst hj
            exact ⟨h0.tops, ⟨(hUd j m x hmj hxj).1, hdat x (List.mem_of_getElem? hxj)⟩, h0.owned⟩
      have hml : (memsOf Ms U).length = k := by rw [memsOf_len]; exact HM.out.2.1
      have hmems : MemsAt wr (.slice (some ⟨g, 0, none⟩) k c) (memsOf Ms U) := ⟨⟨_, _, by rw [hml]⟩, by rw [hml]; exact own_sl hrow (fun u hu => by
        obtain ⟨m', hm', hu⟩ := List.mem_flatMap.1 hu
        exact mem_one (heach m' hm') u hu), heach⟩
      have hkc : k ≤ c := by
        rcases hrow.2 with ⟨h, _⟩ | ⟨g', cap, cur, h, _, _, h2, _⟩
        · cases h
        · cases h; exact h2
      have hgs : w.heap.size ≤ g := by
        have := hst.turn g (by simp [foots, Rs.row, Value.ownBlock])
        rcases this with h | h
        · simp at h
        · exact h
      have hfin : ToldPost w k Ms S gen (.returned (.tuple #[.slice (some ⟨g, 0, none⟩) k c, .bool true])) wr := ⟨memsOf Ms U, _, c, rfl, hmems, hml, hkc, fun g' hg' => by cases hg'; exact hgs, fun j m m' hj hj' => by
        have hjk : j < U.length := by rw [hU]; have := (List.getElem?_eq_some_iff.1 hj).1; have := HM.out.2.1; omega
        obtain ⟨x, hx⟩ : ∃ x, U[j]? = some x := ⟨_, List.getElem?_eq_getElem hjk⟩
        rw [memsOf_get, hj, hx] at hj'
        simp only [Option.map_some, Option.some.injEq] at hj'
        subst hj'
        exact ⟨⟨x.1, x.2, rfl⟩, (hUd j m x hj hx).2⟩, hst.kept⟩
      have HFN := Lib.hid hfin; clear hfin hmems heach hrow hdat hst hUd
      go_wp2_with fail
      go_ret2
      exact HFN.out
end Go.Proofs.YticcnlpfmekagaaGreat
