/- Part 41 of the proof of the row: PlanCp, PlanJ. -/
import Derived.Test.YticcnlpfmekagaaGreatRc00
import Derived.Test.YticcnlpfmekagaaGreatRc35
import Derived.Test.YticcnlpfmekagaaGreatRc37
import Derived.Test.YticcnlpfmekagaaGreatRc39
import Derived.Test.YticcnlpfmekagaaGreatRc40
set_option linter.unusedVariables false
set_option linter.unusedSimpArgs false
set_option maxRecDepth 100000
set_option maxHeartbeats 8000000
namespace Go.Proofs.YticcnlpfmekagaaGreat
section
open Go Go.Proofs Go.RowKit Go.Lib
open Classical
structure MdTopC (sp : Nat) (w : World) (D : Tops) (x : Md) : Prop where
 ex : ∃ (ver g : Int) (ta oa da : Option Addr) (tn tc dn dc on oc : Nat) (ra : Option Addr) (tl : List ByteArray), x.val = .agg #[.int .i16 ver, .slice ta tn tc, .slice da dn dc, .slice oa on oc, .int .i32 g, .pointer ra] ∧ tl.Perm (D.map (·.1)) ∧
  ∀ w', Kept [sp] w w' → SlStrs w' (.slice ta tn tc) tl ∧ CoIs w' x.val x.parts x.gen ∧ on ≤ 100000 ∧ Calls Tryz.prog 257 #[.slice oa on oc] w' (OwPs x.parts w')
 gen : isI32 x.gen
theorem MdTopC.ok {sp : Nat} {w w' : World} {D : Tops} {x : Md} (h : MdTopC sp w D x) (k : Kept [sp] w w') : MdOkC w' x := by
 obtain ⟨⟨ver, g, ta, oa, da, tn, tc, dn, dc, on, oc, ra, tl, h1, h2, h3⟩, hg⟩ := h
 exact ⟨⟨ver, g, ta, oa, da, tn, tc, dn, dc, on, oc, ra, h1, (h3 w' k).2.1⟩, hg⟩
structure PlInC (Xs : List Md) (D : Tops) : Prop where
 n1 : 1 ≤ Xs.length
 n2 : Xs.length ≤ 1000
 dk : (D.map (·.1)).Nodup
 tn : (topTps D).Nodup
 t0 : 0 < (topTps D).length
 t1 : (topTps D).length ≤ 1000
 dl : D.length ≤ 1000
 nd : (Xs.flatMap (·.parts)).Nodup
 sub : ∀ x ∈ Xs, ∀ p ∈ x.parts, p ∈ topTps D
theorem PlInC.plen {Xs : List Md} {D : Tops} (h : PlInC Xs D) : (Xs.flatMap (·.parts)).length ≤ (topTps D).length :=
 sub_len h.nd (fun p hp => by
  obtain ⟨x, hx, hp⟩ := List.mem_flatMap.1 hp
  exact h.sub x hx p hp)
def PlanPostC (sp : Nat) (w : World) (Xs : List Md) (D : Tops) (e : Ending) (w' : World) : Prop :=
 ∃ (p : Nat) (P : PL) (A : Asg), e = .returned (.tuple #[.map (some p), .nilIface]) ∧ PlanAt w' p P ∧ PlanFresh sp w' p P ∧ Plans P A ∧ (A.map (·.1)).Perm (Xs.map (·.name)) ∧ (allOf A).Nodup ∧ (∀ q ∈ allOf A, q ∈ topTps D) ∧
  (∀ m ps q, (m, ps) ∈ A → q ∈ ps → ∀ x ∈ Xs, q ∈ x.parts → x.name = m) ∧ (∀ q ∈ topTps D, (∀ x ∈ Xs, q ∉ x.parts) → ∃ m ps, (m, ps) ∈ A ∧ q ∈ ps) ∧ Kept [sp] w w'
def Rs.stratC (sp : Nat) : Res where
 foot := [sp]
 holds := fun w => ∃ a b, w.heap[sp]? = some (.cells #[a, b, .bool true, .int .i32 (-1)] 181 (0, 0))
 stable := fun w w' S k hs h => by
  obtain ⟨a, b, h⟩ := h
  exact ⟨a, b, k.heap h (hs sp (by simp))⟩
theorem movM_newC {S : List Nat} {w0 w : World} {R : List Res} {sp rb rm : Nat} (h : St S w0 w [Rs.map rb isStr [], Rs.map rm isTp [], Rs.blk sp (.cells #[.map (some rb), .map (some rm), .bool true, .int .i32 (-1)] 181 (0, 0))] R) : St S w0 w (movM sp rb rm true [] [] [] []) R := by
 have h1 := ((h.push (X := Rs.maps []) (Kept.refl _ _) (by simp [Rs.maps]) (by simp [Rs.maps])).push (X := Rs.maps []) (Kept.refl _ _) (by simp [Rs.maps]) (by simp [Rs.maps]))
 exact (h1.front 4 rfl).perm ((List.perm_middle (l₁ := [Rs.maps [], Rs.maps []]) (a := Rs.map rb isStr []) (l₂ := [Rs.map rm isTp []])).cons _)
theorem movM_oldC {S : List Nat} {w0 w : World} {R M2 : List Res} {X : Res} {sp rb rm : Nat} {E0 D I Mv} (h : St S w0 w ((X :: movM sp rb rm true E0 D I Mv) ++ M2) R) : St S w0 w [X, Rs.stratC sp] R := by
 have h1 := h.weak 1 rfl (X' := Rs.stratC sp) (fun h => ⟨_, _, h⟩) (fun g hg => hg)
 simp only [List.cons_append, Zs0, Zs1] at h1
 exact h1.sub (List.Sublist.cons_cons _ (List.Sublist.cons_cons _ (List.nil_sublist _)))
theorem St.innerJoinD {S : List Nat} {w0 w : World} {M R : List Res} {r : Nat} {I : Tops} {P : PL} (m : ByteArray) (h : St S w0 w (Rs.inn r I :: Rs.innerD P :: M) R) : St S w0 w (Rs.innerD (P ++ [(m, r, I)]) :: M) R :=
 St.innerInD (P1 := P) (P2 := []) m (by rw [List.append_nil]; exact h)
def PF1C (sp : Nat) (w : World) (p rc it : Nat) (A3 : List Rw) (R : List Res) (wr : World) : Prop :=
 ∃ (Dn Lf : List Rw) (P : PL), (Dn ++ Lf).Perm A3 ∧ PlDone Dn P ∧ St [sp] w wr [Rs.map p isStr (rawP P), Rs.innerD P, itC rc A3 (rawR (rowsT Lf)) it, Rs.stratC sp] R
def PF2C (sp : Nat) (w : World) (p : Nat) (P : PL) (m : ByteArray) (ps : List TP) (pn : Nat) (X : Res) (R : List Res) (i : Value) (wr : World) : Prop :=
 ∃ k : Nat, i = .int .i64 k ∧ k ≤ pn ∧ ((k = 0 ∧ St [sp] w wr [Rs.map p isStr (rawP P), Rs.innerD P, X, Rs.stratC sp] R) ∨
  (0 < k ∧ ∃ r I, (topTps I).Perm (ps.take k) ∧ (∀ y ∈ I, y.2.2 ≠ []) ∧ St [sp] w wr [Rs.map p isStr (rawP P ++ [(.string m, .map (some r))]), Rs.inn r I, Rs.innerD P, X, Rs.stratC sp] R))
theorem coop_ok {Xs : List Md} {D : Tops} {A2 Pp : List Rw} {B : List Sw} {K zs : List TP} {n N : Nat} (h : PlInC Xs D) (hk : (A2.map (·.1)).Perm (Xs.map (·.name))) (hX : (Xs.map (·.name)).Nodup) (hP : (Pp.map (·.1)).Perm (Xs.map (·.name))) (hPt : ∀ x ∈ Pp, x.2.2.Perm (topTps D)) (hB : B.map (·.1) = K) (hBf : ∀ y ∈ B, y.2.2.Perm (Xs.map (·.name))) (hK : K.Perm (topTps D)) (hz : zs.Perm (B.map (·.1))) (hzl : N = zs.length) (hn : A2.length = n) (hnX : n = Xs.length) (hn0 : 0 < n) (hn1 : n ≤ 1000) :
 PfOk n N (A2.map (·.1)) (topTps D) zs B Pp :=
 ⟨hn0, hn1, by rw [List.length_map]; exact hn, hk.nodup_iff.2 hX, h.tn, h.t1, hz.trans (by rw [hB]; exact hK), hzl.symm, by rw [hB]; exact hK, fun x hx => (hBf x hx).trans hk.symm, fun m hm => by
   obtain ⟨y, hy, e⟩ := List.mem_map.1 (hP.mem_iff.2 (hk.mem_iff.1 hm))
   exact ⟨y.2.1, y.2.2, by rw [← e]; exact hy, hPt y hy⟩⟩
noncomputable def rowPl (P : PL) : ByteArray → List TP := rowOf (P.map fun x => (x.1, topTps x.2.2))
noncomputable def ownMd (Xs : List Md) : ByteArray → List TP := rowOf (Xs.map fun x => (x.name, x.parts))
theorem rowPl_mem {P : PL} (hn : (P.map (·.1)).Nodup) {m : ByteArray} {r : Nat} {D : Tops} (h : (m, r, D) ∈ P) : rowPl P m = topTps D :=
 rowOf_mem (by simpa [Function.comp_def] using hn) (List.mem_map.2 ⟨_, h, rfl⟩)
theorem ownMd_mem {Xs : List Md} (hn : (Xs.map (·.name)).Nodup) {x : Md} (h : x ∈ Xs) : ownMd Xs x.name = x.parts :=
 rowOf_mem (by simpa [Function.comp_def] using hn) (List.mem_map.2 ⟨x, h, rfl⟩)
theorem flat_sub {α β : Type} {g f : α → List β} : ∀ (L : List α), (∀ m, (g m).Sublist (f m)) → (L.flatMap g).Sublist (L.flatMap f)
 | [], _ => List.Sublist.refl _
 | m :: L, h => by
   rw [List.flatMap_cons, List.flatMap_cons]
   exact (h m).append (flat_sub L h)
theorem pl_keys {P : PL} (hn : (P.map (·.1)).Nodup) : (P.flatMap fun x => topTps x.2.2) = (P.map (·.1)).flatMap (rowPl P) := by
 rw [List.flatMap_map, List.flatMap_def, List.flatMap_def]
 congr 1
 exact List.map_congr_left (fun x hx => (rowPl_mem hn (m := x.1) (r := x.2.1) (D := x.2.2) hx).symm)
theorem pl_flat {Dn : List Rw} {P : PL} (hn : (P.map (·.1)).Nodup) (hd : PlDone Dn P) : (P.flatMap fun x => topTps x.2.2).Perm (Dn.flatMap (·.2.2)) := by
 rw [pl_keys hn, hd.1, List.flatMap_map]
 exact perm_flatMap _ (fun y hy => by
  obtain ⟨r, I, h1, h2, _⟩ := hd.2 y hy
  rw [rowPl_mem hn h1]; exact h2)
section
variable {sp p rc it rt rm : Nat} {w wr : World} {Xs : List Md} {D : Tops} {A3 Dn : List Rw} {P : PL} {lf : List (Value × Value)}
theorem plan_adj (hst : St [sp] w wr [Rs.map p isStr (rawP P), Rs.innerD P, itC rc A3 lf it, Rs.stratC sp] [Rs.map rm isStr (rawMd Xs), Rs.tops rt D]) (hin : PlInC Xs D) (hmd : ∀ x ∈ Xs, MdTopC sp w D x) (hX : (Xs.map (·.name)).Nodup) (hp : Dn.Perm A3) (hd : PlDone Dn P) (hk : (A3.map (·.1)).Nodup)
 (hK : (A3.flatMap (·.2.2)).Perm (topTps D)) (hkeys : (A3.map (·.1)).Perm (Xs.map (·.name))) :
 AdjOk (foots [Rs.map p isStr (rawP P), Rs.innerD P]) wr (rowPl P) (ownMd Xs) P Xs ∧ (P.map (·.1)).Nodup ∧ (P.map (·.1)).Perm (Xs.map (·.name)) ∧ (P.flatMap fun x => topTps x.2.2).Perm (topTps D) := by
 have hkP : (P.map (·.1)).Nodup := by rw [hd.1]; exact (hp.map (·.1)).nodup_iff.2 hk
 have hkp : (P.map (·.1)).Perm (Xs.map (·.name)) := by rw [hd.1]; exact (hp.map (·.1)).trans hkeys
 have hfl : (P.flatMap fun x => topTps x.2.2).Perm (topTps D) := (pl_flat hkP hd).trans ((hp.flatMap_right _).trans hK)
 refine ⟨⟨fun x hx => ?_, fun x hx => ownMd_mem hX hx, fun m r D h => rowPl_mem hkP h, fun x hx => ?_, hX, hkP, hfl.nodup_iff.2 hin.tn, by rw [hfl.length_eq]; exact hin.t1, fun x hx => hkp.mem_iff.1 (List.mem_map_of_mem hx), fun x hx => ?_, fun x hx y hy => ?_⟩, hkP, hkp, hfl⟩
 · obtain ⟨⟨ver, g, ta, oa, da, tn, tc, dn, dc, on, oc, ra, tl, h1, h2, h3⟩, hg⟩ := hmd x hx
   refine ⟨ver, g, ta, oa, da, tn, tc, dn, dc, on, oc, ra, h1, (h3 wr hst.kept).2.2.1, fun w' k => (h3 w' (hst.kept.trans k (U := [sp]) (fun _ h => h) (fun z hz hlt => ?_))).2.2.2⟩
   have := hst.turn z (by
    simp only [foots, List.flatMap_cons, List.flatMap_nil, List.append_nil, Zap] at hz ⊢
    rcases hz with h | h
    · exact .inl h
    · exact .inr (.inl h))
   rcases this with h | h
   · exact h
   · omega
 · obtain ⟨z, hz, e⟩ := List.mem_map.1 (hkp.mem_iff.2 (List.mem_map_of_mem (f := fun x : Md => x.name) hx))
   exact ⟨z.2.1, z.2.2, by rw [← e]; exact hz⟩
 · have h1 := hin.plen
   have h2 := hin.t1
   obtain ⟨X1, X2, rfl⟩ := List.append_of_mem hx
   simp only [List.flatMap_append, List.flatMap_cons, List.length_append] at h1
   omega
 · have h1 : x.1 ∈ Dn.map (·.1) := by rw [← hd.1]; exact List.mem_map_of_mem hx
   obtain ⟨z, hz, e⟩ := List.mem_map.1 h1
   obtain ⟨r, I, h2, h3, h4⟩ := hd.2 z hz
   have h5 : x.2.2 = I := plans_uniq (m := x.1) (r := x.2.1) hkP hx (by rw [← e]; exact h2)
   exact h4 y (by rw [← h5]; exact hy)
theorem plan_endC {P' : PL} {w' : World} (hst : St [sp] w wr [Rs.map p isStr (rawP P), Rs.innerD P, itC rc A3 lf it, Rs.stratC sp] [Rs.map rm isStr (rawMd Xs), Rs.tops rt D]) (hspw : sp < w.heap.size) (hin : PlInC Xs D)
 (hok : AdjOk (foots [Rs.map p isStr (rawP P), Rs.innerD P]) wr (rowPl P) (ownMd Xs) P Xs) (hkP : (P.map (·.1)).Nodup) (hkp : (P.map (·.1)).Perm (Xs.map (·.name))) (hfl : (P.flatMap fun x => topTps x.2.2).Perm (topTps D))
 (hS : Struck (fun q m => adjK (rowPl P) (ownMd Xs) (Xs.map (·.name)) q m ∧ adjR (rowPl P) (ownMd Xs) (Xs.map (·.name)) q) P P') (hst2 : St (foots [Rs.map p isStr (rawP P), Rs.innerD P]) wr w' [Rs.map p isStr (rawP P'), Rs.innerD P'] []) :
 PlanPostC sp w Xs D (.returned (.tuple #[.map (some p), .nilIface])) w' := by
 obtain ⟨G, hG⟩ : ∃ G : TP → ByteArray → Prop, ∀ q m, G q m ↔ (adjK (rowPl P) (ownMd Xs) (Xs.map (·.name)) q m ∧ adjR (rowPl P) (ownMd Xs) (Xs.map (·.name)) q) := ⟨_, fun _ _ => Iff.rfl⟩
 replace hS : Struck G P P' := hS.congr hG
 have hf := St.call (M1 := [Rs.map p isStr (rawP P), Rs.innerD P]) (M2 := [itC rc A3 lf it, Rs.stratC sp]) hst hst2
 simp only [List.cons_append, List.nil_append] at hf
 have hT : TopsAt w' rt D := hf.r 1 rfl
 have hrw : ∀ x ∈ P', RowsAt w' isStr x.2.1 21 1 (rowsI x.2.2) := (show (Rs.innerD P').holds w' from hf.m 1 rfl).1
 have hk' : (P'.map (·.1)) = P.map (·.1) := by
  have h1 := congrArg (List.map (·.1)) hS.1
  simpa [List.map_map, Function.comp_def] using h1
 have hkP' : (P'.map (·.1)).Nodup := by rw [hk']; exact hkP
 have hq : ∀ m r D', (m, r, D') ∈ P' → ∀ q, q ∈ topTps D' ↔ (q ∈ rowPl P m ∧ ¬ G q m) := fun m r D' h q => by
  obtain ⟨D0, h1, h2, _⟩ := hS.2 m r D' h
  rw [h2.mem_iff, List.mem_filter, decide_eq_true_eq, rowPl_mem hkP h1]
 have hrD : ∀ m q, q ∈ rowPl P m → q ∈ topTps D ∧ m ∈ P.map (·.1) := fun m q h => by
  by_cases hm : m ∈ P.map (·.1)
  · obtain ⟨z, hz, rfl⟩ := List.mem_map.1 hm
    rw [rowPl_mem hkP (m := z.1) (r := z.2.1) (D := z.2.2) hz] at h
    exact ⟨hfl.mem_iff.1 (List.mem_flatMap.2 ⟨z, hz, h⟩), hm⟩
  · exfalso
    unfold rowPl rowOf at h
    rw [List.find?_eq_none.2 (fun z hz => by
     obtain ⟨y, hy, rfl⟩ := List.mem_map.1 hz
     simp only [decide_eq_true_eq]
     intro e; exact hm (e ▸ List.mem_map_of_mem hy))] at h
    simp at h
 have hi32 : ∀ x ∈ P', ∀ y ∈ x.2.2, ∀ n ∈ y.2.2, isI32 n := fun x hx y hy n hn => by
  have h5 : (y.1, n) ∈ topTps x.2.2 := List.mem_flatMap.2 ⟨y, hy, List.mem_map.2 ⟨n, hn, rfl⟩⟩
  have h6 := (hrD x.1 _ ((hq x.1 x.2.1 x.2.2 hx _).1 h5).1).1
  obtain ⟨d, hd', h7⟩ := List.mem_flatMap.1 h6
  obtain ⟨n', hn', e7⟩ := List.mem_map.1 h7
  rw [Prod.mk.injEq] at e7
  rw [← e7.2]
  exact (hT.parts d hd').2.2 n' hn'
 have hall : (allOf (P'.map fun x => (x.1, topTps x.2.2))).Nodup := by
  have e1 : allOf (P'.map fun x => (x.1, topTps x.2.2)) = P'.flatMap fun x => topTps x.2.2 := by unfold allOf; rw [List.flatMap_map]
  have e2 : (P'.flatMap fun x => topTps x.2.2).Perm (P'.flatMap fun x => (rowPl P x.1).filter fun q => decide (¬ G q x.1)) := perm_flatMap _ (fun x hx => by
   obtain ⟨D0, h1, h2, _⟩ := hS.2 x.1 x.2.1 x.2.2 hx
   rw [rowPl_mem hkP h1]; exact h2)
  rw [e1, e2.nodup_iff]
  have e3 : (P'.flatMap fun x => (rowPl P x.1).filter fun q => decide (¬ G q x.1)) = (P'.map (·.1)).flatMap fun m => (rowPl P m).filter fun q => decide (¬ G q m) := by rw [List.flatMap_map]
  rw [e3, hk']
  refine List.Nodup.sublist (flat_sub _ (fun m => List.filter_sublist)) ?_
  rw [← pl_keys hkP]
  exact hfl.nodup_iff.2 hin.tn
 refine ⟨p, P', P'.map fun x => (x.1, topTps x.2.2), rfl, ⟨hf.m 0 rfl, fun x hx => ⟨?_, fun y hy => ?_⟩⟩, ⟨?_, fun x hx => ⟨?_, fun y hy g hg => ?_⟩⟩, ⟨hkP', fun m xs h => ?_⟩, ?_, hall, fun q h => ?_, fun m ps q h h' x hx hxq => ?_, fun q hqD hno => ?_, hf.kept⟩
 · have h1 := (hrw x hx).map
   rw [rowsI_raw] at h1; exact h1
 · obtain ⟨h1, a, c, e⟩ := inn_row (hrw x hx) (show (y.1, y.2.1, y.2.2) ∈ x.2.2 from hy)
   exact ⟨⟨a, c, e⟩, own_sl h1 (i32s_one _), hi32 x hx y hy⟩
 · have h1 := hf.turn p (by simp [foots, Rs.map])
   rcases h1 with h1 | h1
   · simp only [Zmc, Znn, or_false] at h1; omega
   · omega
 · have h1 := hf.turn x.2.1 (by
    rw [foots_cons, foots_cons]
    simp only [Zap]
    exact .inr (.inl (List.mem_flatMap.2 ⟨x, hx, by simp⟩)))
   rcases h1 with h1 | h1
   · simp only [Zmc, Znn, or_false] at h1; omega
   · omega
 · have hgI : g ∈ (Rs.innerD P').foot := List.mem_flatMap.2 ⟨x, hx, List.mem_cons_of_mem _ (List.mem_flatMap.2 ⟨(.string y.1, y.2.1, i32s y.2.2), List.mem_map.2 ⟨y, hy, rfl⟩, by simp [hg]⟩)⟩
   have h1 := hf.turn g (by
    rw [foots_cons, foots_cons]
    simp only [Zap]
    exact .inr (.inl hgI))
   refine ⟨?_, hf.lt 1 rfl g hgI⟩
   rcases h1 with h1 | h1
   · simp only [Zmc, Znn, or_false] at h1; omega
   · omega
 · obtain ⟨z, hz, e⟩ := List.mem_map.1 h
   rw [Prod.mk.injEq] at e
   obtain ⟨D0, h1, h2, h3⟩ := hS.2 z.1 z.2.1 z.2.2 hz
   refine ⟨z.2.1, z.2.2, by rw [← e.1]; exact hz, by rw [e.2], ?_, h3⟩
   have h4 := (hrw z hz).keys
   have e4 : (rowsI z.2.2).map (·.1) = (z.2.2.map (·.1)).map (fun s : ByteArray => (Value.string s)) := by simp [rowsI, Function.comp_def]
   rw [e4] at h4
   exact (List.pairwise_map.1 h4).imp fun h e => h (by rw [e])
 · have e1 : (P'.map fun x => (x.1, topTps x.2.2)).map (·.1) = P'.map (·.1) := by simp [Function.comp_def]
   rw [e1, hk']; exact hkp
 · obtain ⟨m, ps, h1, h2⟩ : ∃ m ps, (m, ps) ∈ (P'.map fun x => (x.1, topTps x.2.2)) ∧ q ∈ ps := by
    obtain ⟨z, hz, h1⟩ := List.mem_flatMap.1 h
    exact ⟨z.1, z.2, hz, h1⟩
   obtain ⟨z, hz, e⟩ := List.mem_map.1 h1
   rw [Prod.mk.injEq] at e
   rw [← e.2] at h2
   exact (hrD z.1 _ ((hq z.1 z.2.1 z.2.2 hz _).1 h2).1).1
 · obtain ⟨z, hz, e⟩ := List.mem_map.1 h
   rw [Prod.mk.injEq] at e
   rw [← e.2] at h'
   obtain ⟨h1, h2⟩ := (hq z.1 z.2.1 z.2.2 hz _).1 h'
   rw [← e.1]
   refine Classical.byContradiction fun hne => h2 ((hG _ _).2 ⟨⟨hkp.mem_iff.1 (hrD _ _ h1).2, h1, fun ho => ?_⟩, x.name, List.mem_map_of_mem hx, by rw [ownMd_mem hok.names hx]; exact hxq, fun hr => ?_⟩)
   · have hm := hkp.mem_iff.1 (hrD _ _ h1).2
     obtain ⟨y, hy, ey⟩ := List.mem_map.1 hm
     rw [← ey, ownMd_mem hok.names hy] at ho
     have := flat_uniq hin.nd hx hy hxq ho
     exact hne (by rw [this, ey])
   · have := hok.uniq (hkp.mem_iff.1 (hrD _ _ h1).2) (List.mem_map_of_mem hx) h1 hr
     exact hne this
 · obtain ⟨z, hz, h1⟩ := List.mem_flatMap.1 (hfl.mem_iff.2 hqD)
   have h2 : z.1 ∈ P'.map (·.1) := by rw [hk']; exact List.mem_map_of_mem hz
   obtain ⟨y, hy, ey⟩ := List.mem_map.1 h2
   refine ⟨y.1, topTps y.2.2, List.mem_map.2 ⟨y, hy, rfl⟩, (hq y.1 y.2.1 y.2.2 hy q).2 ⟨?_, fun h => ?_⟩⟩
   · rw [ey, rowPl_mem hkP (m := z.1) (r := z.2.1) (D := z.2.2) hz]; exact h1
   · obtain ⟨m', h3, h4, _⟩ := ((hG _ _).1 h).2
     obtain ⟨x, hx, rfl⟩ := List.mem_map.1 h3
     rw [ownMd_mem hok.names hx] at h4
     exact hno x hx h4
end
end
section
open Go Go.Proofs Go.RowKit Go.Lib
open Classical
def PB1J (MV : List Res) (sp : Nat) (w : World) (rm rt rk rp rc rv it : Nat) (Xs : List Md) (D : Tops) (K : List TP) (A : List Rw) (wr : World) : Prop :=
 ∃ (Dn Lf : List Md) (Pp : List Rw) (B : List Sw) (E : List Rw), (Dn ++ Lf).Perm Xs ∧ Pp.map (·.1) = Dn.map (·.name) ∧ (∀ x ∈ Pp, x.2.2.Perm (topTps D)) ∧ B.map (·.1) = K ∧ (∀ x ∈ B, x.2.2 = Dn.map (·.name)) ∧
  (∀ x ∈ E, x.2.2 = [] ∧ x.1 ∈ Dn.map (·.name)) ∧ (∀ m ∈ Dn.map (·.name), m ∈ (A ++ E).map (·.1)) ∧
  St [sp] w wr (Rs.cur rp Pp :: Rs.p2c rk B :: Rs.cur rc (A ++ E) :: Rs.map rv isTp [] :: MV) [itMd rm Xs (rawMd Lf) it, Rs.tops rt D]
def PD1J (sp : Nat) (w : World) (rc it ru rq : Nat) (A1 : List Rw) (K : List TP) (Mb R : List Res) (v : Value) (wr : World) : Prop :=
 v = .slice none 0 0 ∧ ∃ (Dn Lf A2 : List Rw) (lq : List (Value × Value)) (Un : List TP), (Dn ++ Lf).Perm A1 ∧ asgT A2 = asgT A1 ∧ (∀ x ∈ Lf, x ∈ A2) ∧ (∀ x ∈ A2, x ∈ Lf ∨ (x.2.2 = [] → x.2.1 = .slice none 0 0)) ∧
  (Un ++ Dn.flatMap (·.2.2)).Perm K ∧ LqOk Dn lq ∧ St [sp] w wr (Rs.map ru isTp (UnT Un) :: Rs.map rq isTp lq :: itC rc A2 (rawR (rowsT Lf)) it :: Mb) R
def PD2J (Dn : List Rw) (m : ByteArray) (sp : Nat) (w : World) (ru rq : Nat) (K vis ps : List TP) (pn : Nat) (X : Res) (Mb R : List Res) (v vk i : Value) (wr : World) : Prop :=
 v = .slice none 0 0 ∧ ∃ (k : Nat) (lq : List (Value × Value)) (Un : List TP), i = .int .i64 k ∧ k ≤ pn ∧ (k = 0 → vk = .slice none 0 0) ∧ (Un ++ (vis ++ ps.take k)).Perm K ∧ LqOk (Dn ++ [(m, .nilIface, ps.take k)]) lq ∧
  St [sp] w wr (Rs.row 384 2 vk k ((ps.take k).flatMap encTp) :: Rs.map ru isTp (UnT Un) :: Rs.map rq isTp lq :: X :: Mb) R
end
end Go.Proofs.YticcnlpfmekagaaGreat
