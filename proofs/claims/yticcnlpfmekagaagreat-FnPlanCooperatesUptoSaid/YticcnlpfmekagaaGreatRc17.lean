/- Part 17 of the proof of the row: Parts, Filt. -/
import Derived.Test.YticcnlpfmekagaaGreatRc00
import Derived.Test.YticcnlpfmekagaaGreatRc14
import Derived.Test.YticcnlpfmekagaaGreatRc16
set_option linter.unusedVariables false
set_option linter.unusedSimpArgs false
set_option maxRecDepth 100000
set_option maxHeartbeats 8000000
namespace Go.Proofs.YticcnlpfmekagaaGreat
section
open Go Go.Proofs Go.RowKit Go.Lib
open Classical
theorem enc_set (A B : List TP) (p q : TP) : (((A ++ q :: B).flatMap encTp).set (A.length * 2) (.string p.1)).set (A.length * 2 + 1) (.int .i32 p.2) = (A ++ p :: B).flatMap encTp := by
 rw [List.flatMap_append, List.flatMap_append, List.flatMap_cons, List.flatMap_cons, ← encs_len]
 simp [encTp, List.set_append]
theorem enc_setc (A : List TP) (r0 r1 : Value) (rs : List Value) (p : TP) : ((A.flatMap encTp ++ r0 :: r1 :: rs).set (A.length * 2) (.string p.1)).set (A.length * 2 + 1) (.int .i32 p.2) = (A ++ [p]).flatMap encTp ++ rs := by
 rw [List.flatMap_append, ← encs_len]
 simp [encTp, List.set_append]
def TpsInv (w : World) (g n c B A r : Nat) (l : List (Value × Value)) (len : Nat) (L : List TP) (wr : World) : Prop :=
 L.length = n ∧ (∀ x ∈ L, ∃ a c, (tpV x, .slice a len c) ∈ l) ∧
 St [] w wr [Rs.blk B (.cells #[.slice (some ⟨g, 0, none⟩) n c] 375 (0, 0)), Rs.row 384 2 (.slice (some ⟨g, 0, none⟩) n c) n (L.flatMap encTp), Rs.blk A (.cells #[.map (some r)] 382 (0, 0))] [Rs.map r isTp l]
theorem swap_lists {L : List TP} {j : Nat} (h0 : 0 < j) (hj : j < L.length) :
 ((((L.flatMap encTp).set (j * 2) (.string (L[j-1]'(by omega)).1)).set (j * 2 + 1) (.int .i32 (L[j-1]'(by omega)).2)).set ((j-1) * 2) (.string L[j].1)).set ((j-1) * 2 + 1) (.int .i32 L[j].2) = ((L.set j (L[j-1]'(by omega))).set (j-1) L[j]).flatMap encTp := by
 obtain ⟨k, rfl⟩ : ∃ k, j = k + 1 := ⟨j - 1, by omega⟩
 obtain ⟨A, x, y, C, rfl, rfl⟩ : ∃ A x y C, L = A ++ x :: y :: C ∧ A.length = k :=
  ⟨L.take k, L[k], L[k+1], L.drop (k+2), by rw [← List.drop_eq_getElem_cons (by omega), ← List.drop_eq_getElem_cons (by omega), List.take_append_drop], by simp; omega⟩
 have e1 : (A ++ x :: y :: C)[A.length + 1 - 1]'(by simp) = x := by simp
 have e2 : (A ++ x :: y :: C)[A.length + 1] = y := by simp
 have e3 : ((A ++ x :: y :: C).set (A.length + 1) x).set (A.length + 1 - 1) y = A ++ y :: x :: C := by simp [List.set_append]
 rw [e1, e2, e3]
 have h1 := enc_set (A ++ [x]) C x y
 simp only [List.length_append, List.length_cons, List.length_nil, Nat.zero_add, List.append_assoc, List.cons_append, List.nil_append] at h1
 rw [h1]
 have h2 := enc_set A (x :: C) y x
 simp only [Nat.add_sub_cancel]
 exact h2
theorem tps_zz (w : World) (g n c B A r len : Nat) (l : List (Value × Value)) (hn : n < 1000000000) :
 ZzOk 263 264 #[.pointer (some ⟨B, 0, none⟩)] #[.pointer (some ⟨A, 0, none⟩), .pointer (some ⟨B, 0, none⟩)] n ltTp (TpsInv w g n c B A r l len) where
 len := fun L wr h => h.1
 swap := fun L wr j h0 hj ⟨hl, hx, hst⟩ => by
  have hc := (hst.cell1 0 rfl).1
  have hrow : wr.ownsRow 0 384 2 (.slice (some ⟨g, 0, none⟩) n c) n (L.flatMap encTp) := hst.m 1 rfl
  have hj1 : j - 1 < L.length := by omega
  obtain ⟨g1, g2⟩ := tp_get (List.getElem?_eq_getElem hj)
  obtain ⟨g3, g4⟩ := tp_get (List.getElem?_eq_getElem hj1)
  have hfr : ∀ k, wr.frozen? ⟨g, k, none⟩ = false := by
   rcases hrow.2 with ⟨h1, _⟩ | ⟨g', cap, cur, h1, _, hg, _⟩
   · cases h1
   · cases h1; intro k; simp [World.frozen?, hg]
  have hne : B ≠ g := by
   have := hst.ow.dis
   simp only [List.cons_append, List.nil_append, List.pairwise_cons] at this
   have h1 := this.1 (Rs.row 384 2 (.slice (some ⟨g, 0, none⟩) n c) n (L.flatMap encTp)) (by simp) B (by simp [Rs.blk])
   simpa [Rs.row, Value.ownBlock] using h1
  have h := swap_tp B g n c wr L[j] L[j-1] j (j-1) (by omega) (by omega) (by omega) (by omega) hc hne (own_cell hrow g1).1 (own_cell hrow g2).1 (own_cell hrow g3).1 (own_cell hrow g4).1 hfr
  have e : ((j - 1 : Nat) : Int) = (j : Int) - 1 := by omega
  rw [e] at h
  refine h.mono ?_
  rintro e w' ⟨rfl, q, rfl⟩
  refine ⟨rfl, by simpa using hl, fun x hx' => ?_, ?_⟩
  · exact hx x ((perm_swap h0 hj).mem_iff.1 hx')
  · have h1 := (((hst.setRow 1 rfl (j * 2) (.string L[j-1].1)).setRow 1 rfl (j * 2 + 1) (.int .i32 L[j-1].2)).setRow 1 rfl ((j-1) * 2) (.string L[j].1)).setRow 1 rfl ((j-1) * 2 + 1) (.int .i32 L[j].2)
    simp only [Zs1, Zs0, swap_lists h0 hj] at h1
    exact h1.drewN q
 less := fun L wr j h0 hj ⟨hl, hx, hst⟩ => by
  have hB := (hst.cell1 0 rfl).1
  have hA := (hst.cell1 2 rfl).1
  have hrow : wr.ownsRow 0 384 2 (.slice (some ⟨g, 0, none⟩) n c) n (L.flatMap encTp) := hst.m 1 rfl
  have hj1 : j - 1 < L.length := by omega
  obtain ⟨g1, g2⟩ := tp_get (List.getElem?_eq_getElem hj)
  obtain ⟨g3, g4⟩ := tp_get (List.getElem?_eq_getElem hj1)
  obtain ⟨a1, k1, m1⟩ := hx L[j] (by simp)
  obtain ⟨a2, k2, m2⟩ := hx L[j-1] (by simp)
  have h := less_tp A B g n c r len l wr L[j] L[j-1] a1 a2 k1 k2 j (j-1) (by omega) (by omega) (by omega) hA hB (own_cell hrow g1).1 (own_cell hrow g2).1 (own_cell hrow g3).1 (own_cell hrow g4).1 (hst.r 0 rfl) m1 m2
  have e : ((j - 1 : Nat) : Int) = (j : Int) - 1 := by omega
  rw [e] at h
  refine h.mono ?_
  rintro e w' ⟨rfl, q, rfl⟩
  exact ⟨rfl, hl, hx, hst.drewN q⟩
theorem body263 : HasBody 263 := by unfold HasBody; intro a w; kernel_rfl
theorem body264 : HasBody 264 := by unfold HasBody; intro a w; kernel_rfl
abbrev itK (rk : Nat) (B : List Sw) (lf : List (Value × Value)) (it : Nat) : Res := Rs.it (Rs.map rk isTp (rawR (rowsS B))) rk (rawR (rowsS B)) lf it (by simp [Rs.map])
def SPInv (w : World) (rk it g Bb A N : Nat) (B : List Sw) (i : Value) (wr : World) : Prop :=
 ∃ (Dn Lf : List Sw) (rs : List Value), i = .int .i64 (Dn.length : Nat) ∧ (Dn ++ Lf).Perm B ∧ rs.length = Lf.length * 2 ∧
  St [] w wr [Rs.blk Bb (.cells #[.slice (some ⟨g, 0, none⟩) N N] 375 (0, 0)), Rs.row 384 2 (.slice (some ⟨g, 0, none⟩) N N) N ((Dn.map (·.1)).flatMap encTp ++ rs), Rs.blk A (.cells #[.map (some rk)] 382 (0, 0))] [itK rk B (rawR (rowsS Lf)) it]
def PartsPost (w : World) (N : Nat) (B : List Sw) (e : Ending) (w' : World) : Prop :=
 ∃ (g c : Nat) (zs : List TP), e = .returned (.slice (some ⟨g, 0, none⟩) N c) ∧ zs.Perm (B.map (·.1)) ∧ St [] w w' [Rs.row 384 2 (.slice (some ⟨g, 0, none⟩) N c) N (zs.flatMap encTp)] []
theorem rawS_len (B : List Sw) : (rawR (rowsS B)).length = B.length := by simp [rawR, rowsS]
theorem sort_parts (rk len N : Nat) (B : List Sw) (w : World) (hrows : RowsAt w isTp rk 9 1 (rowsS B)) (hfull : ∀ x ∈ B, x.2.2.length = len) (hN : (rawR (rowsS B)).length = N) (hN1 : N ≤ 1000) :
 Calls Tryz.prog 244 #[.map (some rk)] w (PartsPost w N B) := by
 have hst0 : St [] w w [] [Rs.map rk isTp (rawR (rowsS B))] := St.start0 (Ow.one hrows.map (by simpa [Rs.map] using hrows.map.lt))
 have hent : ∀ x ∈ B, ∃ a c, (tpV x.1, Value.slice a len c) ∈ rawR (rowsS B) := fun x hx => by
  obtain ⟨_, a, c, e⟩ := p2c_row hrows hx
  rw [hfull x hx] at e
  have := p2c_in hx
  rw [e] at this
  exact ⟨a, c, this⟩
 have HE := Zhd (Zan hent hN); clear hent hrows hfull
 have hlen := fun w' (h : MapAt w' isTp rk (rawR (rowsS B))) => map_len (P := Tryz.prog) h Tryz.underlying382 3
 rw [hN] at hlen
 have hl1 := hlen _ ((hst0.blk (.cells #[.map (some rk)] 382)).r 0 rfl)
 clear hlen hN
 go_enter Tryz.func244, Tryz.ntmps244
 go_wp2_with (first
  | (refine wl_mkfull N rfl rfl rfl rfl elTp (hst0.blk _) (by omega) (by unfold maxLen; omega) ?_
     intro g cs w1 hcs hst1 hg
     have cA : ∀ o, (w1.alloc o).cell? ⟨w.heap.size, 0, none⟩ = some (.map (some rk)) := fun o => ca (hst1.cell1 1 rfl).1
     have HCS := Zhd hcs; clear hcs)
  | (refine wl_rngR 0 rfl rfl rfl Tryz.underlying382 (hst1.blk _) rfl (by simp [Rs.map]) ((hst1.blk _).r 0 rfl) ?_
     intro it w2 hst2 hit)
  | fail)
 simp only [Zs0] at hst2
 have hfit : w.heap.size ≤ it := by have h1 := hst1.size; simp at hit; omega
 have HFIT := Zhd hfit; clear hfit
 clear cA hg hit hst1 hst0 hl1
 generalize w1.heap.size = Bb at hst2 ⊢
 generalize w.heap.size = A at hst2 ⊢
 have h0 : SPInv w rk it g Bb A N B (.int .i64 0) w2 := ⟨[], B, cs, rfl, List.Perm.refl _, by rw [HCS.out, ← HE.out.2, rawS_len], hst2⟩
 have H0 := Zhd h0; clear h0 hst2
 try go_frame
 go_loopw [4] (fun i wr => SPInv w rk it g Bb A N B i wr) (fun _ wr => leftOf wr it rk)
 case atStart => exact H0.out
 case round =>
  obtain ⟨Dn, Lf, rs, rfl, hperm, hrs, hst⟩ := hrel
  have hB : Dn.length + Lf.length = N := by have := hperm.length_eq; simp only [List.length_append] at this; rw [← HE.out.2, rawS_len]; omega
  by_cases hlf : rawR (rowsS Lf) = []
  · have h0 := rawS_nil hlf
    subst h0
    obtain rfl : rs = [] := List.eq_nil_of_length_eq_zero (by simpa using hrs)
    have hB0 := (hst.cell1 0 rfl).1
    have hit0 : IterAt wr it rk (rawR (rowsS B)) [] := (hst.r 0 rfl).2.1
    have hst5 := hst.weakR 0 rfl (X' := Rs.map rk isTp (rawR (rowsS B))) (fun h => h.1) (fun g hg => List.mem_append_left [it] hg)
    simp only [Zs0, List.append_nil] at hst5
    rw [List.append_nil] at hperm
    have hI : TpsInv w g N N Bb A rk (rawR (rowsS B)) len (Dn.map (·.1)) wr := ⟨by rw [List.length_map]; simpa using hB, fun x hx => by
     obtain ⟨y, hy, rfl⟩ := List.mem_map.1 hx
     exact HE.out.1 y (hperm.mem_iff.1 hy), hst5⟩
    have hz := zz_perm 263 264 _ _ N ltTp _ (tps_zz w g N N Bb A rk len (rawR (rowsS B)) (by omega)) body263 body264 (by omega) (Dn.map (·.1)) wr hI
    have HZ := Zhd hz; clear hz hI hst5
    have HP := Zhd hperm; clear hperm hrs
    go_wp2_with (first | (refine wl_nx0 rfl rfl rfl hit0 ?_) | fail)
    refine HZ.out.mono ?_
    rintro e w3 ⟨rfl, L, hp, ⟨hL1, hL2, hst6⟩⟩
    obtain ⟨cB, fB⟩ := hst6.cell1 0 rfl
    have hfin : PartsPost w N B (.returned (.slice (some ⟨g, 0, none⟩) N N)) w3 := ⟨g, N, L, rfl, hp.trans (HP.out.map _), ((hst6.drop 2).drop 0).noR⟩
    have HF := Zhd hfin; clear hfin hst6 hst hp hL1 hL2
    go_wp2_with fail
    go_ret
    exact HF.out
  · have HL := Zhd (Zan hperm hrs); clear hperm hrs
    obtain ⟨wB, rfl⟩ : ∃ wB, wB = wr := ⟨_, rfl⟩
    go_upto_region 6 with (first
     | (refine wl_nx1R 0 (by simp [Rs.map]) rfl rfl rfl hst rfl hlf HFIT.out ?_
        intro k v l1 l2 w2 hsp hst2 hent
        simp only [Zs0] at hst2
        obtain ⟨L1, x, L2, rfl, rfl, rfl, rfl, rfl⟩ := rawS_split hsp
        obtain ⟨p, pv, nm⟩ := x
        have HSP := Zhd hsp; clear hsp)
     | (refine wl_entry rfl rfl rfl hent ?_)
     | fail)
    obtain ⟨r0, r1, rs', rfl⟩ : ∃ r0 r1 rs', rs = r0 :: r1 :: rs' := by
     have h1 := HL.out.2
     match rs, h1 with
     | [], h => simp at h
     | [_], h => (simp at h; omega)
     | r0 :: r1 :: rs', _ => exact ⟨_, _, _, rfl⟩
    have hkl : Dn.length < N := by simp at hB; omega
    have hk1 : (Dn.length : Int) < (N : Int) := by omega
    have hst3 := hst2.alloc (.cells #[.string p.1, .int .i32 p.2] 384)
    have hm1 : ((Dn.map (·.1)).flatMap encTp).length = Dn.length * 2 := by rw [encs_len, List.length_map]
    obtain ⟨c1, f1⟩ := own_cell (show _ from hst3.m 1 rfl) (j := Dn.length * 2) (u := r0) (by rw [← hm1]; simp)
    obtain ⟨c2, f2⟩ := own_cell (show _ from hst3.m 1 rfl) (j := Dn.length * 2 + 1) (u := r1) (by rw [← hm1, List.getElem?_append_right (by omega)]; simp)
    have cB := (hst3.cell1 0 rfl).1
    have s1 : ∀ u, ((w2.alloc (.cells #[.string p.1, .int .i32 p.2] 384)).setCell ⟨g, Dn.length * 2, none⟩ u).cell? ⟨g, Dn.length * 2 + 1, none⟩ = some r1 := fun u => by
     rw [World.cell?_setCell_other _ _ _ _ (fun e => by injection e with _ h; omega)]; exact c2
    have hst4 := (hst3.setRow 1 rfl (Dn.length * 2) (.string p.1)).setRow 1 rfl (Dn.length * 2 + 1) (.int .i32 p.2)
    have hec := enc_setc (Dn.map (·.1)) r0 r1 rs' p
    rw [List.length_map] at hec
    simp only [Zs0, Zs1, hec] at hst4
    have e : rawR (rowsS L1) ++ rawR (rowsS L2) = rawR (rowsS (L1 ++ L2)) := by rw [rowsS_append, rawR_append]
    simp only [e] at hst4
    have hend : SPInv w rk it g Bb A N B (.int .i64 ((Dn.length : Int) + 1)) (((w2.alloc (.cells #[.string p.1, .int .i32 p.2] 384)).setCell ⟨g, Dn.length * 2, none⟩ (.string p.1)).setCell ⟨g, Dn.length * 2 + 1, none⟩ (.int .i32 p.2)) ∧
     leftOf (((w2.alloc (.cells #[.string p.1, .int .i32 p.2] 384)).setCell ⟨g, Dn.length * 2, none⟩ (.string p.1)).setCell ⟨g, Dn.length * 2 + 1, none⟩ (.int .i32 p.2)) it rk < leftOf wB it rk := by
     refine ⟨⟨Dn ++ [(p, pv, nm)], L1 ++ L2, rs', by simp, perm_step HL.out.1, ?_, ?_⟩, ?_⟩
     · have := HL.out.2; simp at this ⊢; omega
     · rw [List.map_append]; exact hst4
     · have h1 : IterAt _ it rk (rawR (rowsS B)) (rawR (rowsS (L1 ++ L2))) := (hst4.r 0 rfl).2.1
       have h2 : IterAt wB it rk (rawR (rowsS B)) _ := (hst.r 0 rfl).2.1
       rw [h1.leftOf, h2.leftOf, HSP.out, ← e]
       simp
    have HEN := Zhd hend; clear hend hst4 hst3 hec e hm1 hB
    go_wp2_with fail
    exact HEN.out
end
section
open Go Go.Proofs Go.RowKit Go.Lib
open Classical
theorem setCell_same {w : World} {g o : Nat} {u : Value} (h : w.cell? ⟨g, o, none⟩ = some u) : w.setCell ⟨g, o, none⟩ u = w := by
 have hh : (w.setCell ⟨g, o, none⟩ u).heap = w.heap := by
  apply Array.ext_getElem?
  intro i
  simp only [World.setCell, Array.getElem?_modify]
  by_cases hi : g = i
  · subst hi
    rw [if_pos rfl]
    unfold World.cell? at h
    cases hg : w.heap[g]? with
    | none => rfl
    | some obj =>
      rw [hg] at h
      cases obj with
      | cells c e f =>
        simp only [Option.isSome, Bool.false_eq_true, if_false] at h
        simp only [Option.map_some, Option.some.injEq, Obj.cells.injEq, and_true, Option.isSome, Bool.false_eq_true, if_false]
        apply Array.ext_getElem?
        intro j
        rw [Array.getElem?_setIfInBounds]
        by_cases hj : o = j
        · subst hj
          obtain ⟨h1, h2⟩ := Array.getElem?_eq_some_iff.1 h
          simp [h1, h2]
        · rw [if_neg hj]
      | _ => rfl
  · rw [if_neg hi]
 have h2 : w.setCell ⟨g, o, none⟩ u = { w with heap := (w.setCell ⟨g, o, none⟩ u).heap } := rfl
 rw [h2, hh]
theorem putE_same {l : List (Value × Value)} {k v : Value} (hn : (l.map (·.1)).Nodup) (h : (k, v) ∈ l) : putE l k v = l := by
 obtain ⟨A, B, rfl⟩ := List.append_of_mem h
 exact putE_hit hn v
section
variable {P : Program} {ops : Array Oper} {o : Oper} {a : Act} {w : World} {rest : List Oper} {Q : Exit → Act → World → Prop}
variable {V : Value → Prop} {r it E sz : Nat} {L : List MRow} {left : List (Value × Value)} {T kT eT : TypeId} {m x y : Operand} {kv vv : Value}
variable {S : List Nat} {w0 : World} {M R : List Res}
theorem wl_updsame (i : Nat) (hr : r ∈ (Rs.rows V r E sz L).foot) (hgd : o.guard = none) (hop : o.op = .mapUpdate T m x y) (hm : a.eval m = .map (some r)) (hk : a.eval x = kv) (hv : a.eval y = vv) (K0 : KeyT P kT V) (hT : P.underlying T = some (.map kT eT)) (hst : St S w0 w M R)
 (hi : M[i]? = some (Rs.it (Rs.rows V r E sz L) r (rawR L) left it hr)) (hV : V kv) (hin : (kv, vv) ∈ rawR L) (hout : ∀ u, (kv, u) ∉ left)
 (hK : ∀ w', St S w0 w' M R → wpList P ops Q rest (a.put o.dst undef) w') : wpList P ops Q (o :: rest) a w := by
 obtain ⟨hrows, hiter, hni⟩ : RowsAt w V r E sz L ∧ IterAt w it r (rawR L) left ∧ it ∉ (Rs.rows V r E sz L).foot := hst.m i hi
 obtain ⟨w', hrun, h1, h2, h3, h4⟩ := map_update_iter (P := P) hrows.map K0 hT hV vv hiter (iter_ne hiter) ⟨vv, hin⟩ hout
 have hsame : putE (rawR L) kv vv = rawR L := putE_same hrows.map.nodup hin
 rw [hsame] at h1 h4
 have hd := hrows.dis
 rw [List.nodup_cons] at hd
 have hrows' : RowsAt w' V r E sz L := ⟨h1, fun y hy => by
  obtain ⟨n, hn⟩ := hrows.each y hy
  exact ⟨n, own_kept hn h2 (fun g hg e => by
   simp only [Zmc, Znn, or_false] at e
   subst e
   exact hd.1 (List.mem_flatMap.2 ⟨y, hy, by simp [hg]⟩))⟩, hrows.dis⟩
 have hst' := hst.set i hi (X' := Rs.it (Rs.rows V r E sz L) r (rawR L) left it hr) h2 (fun g hg _ => by
  simp only [Zmc, Znn, or_false] at hg; subst hg
  exact List.mem_append_left [it] (by simp [Rs.rows])) ⟨hrows', h4, hni⟩ (fun g hg => .inl hg)
 have hself : M.set i (Rs.it (Rs.rows V r E sz L) r (rawR L) left it hr) = M := by
  obtain ⟨A, B, rfl, rfl⟩ := split_at hi
  simp
 rw [hself] at hst'
 refine wl_of hgd fun _ hh => ?_
 refine wp_skip' (w' := w') ?_ (hh _ _ (hK w' hst'))
 simp only [execOp, hop, hm, hk, hv, Sem.run_bind, hrun, Result.andThen_ok]; rfl
end
abbrev itB (r' : Nat) (B : List Rw) (lf : List (Value × Value)) (it : Nat) : Res := Rs.it (Rs.cur r' B) r' (rawR (rowsT B)) lf it (cur_foot r' B)
def FAInv (w : World) (r' it : Nat) (B : List Rw) (R : List Res) (wr : World) : Prop :=
 ∃ (Dn Lf : List Rw), (Dn ++ Lf).Perm B ∧ St [] w wr [itB r' B (rawR (rowsT Lf)) it] R
def FiltPost (w : World) (A : List Rw) (e : Ending) (w' : World) : Prop :=
 ∃ (r' : Nat) (B : List Rw), e = .returned (.map (some r')) ∧ (asgT B).Perm (asgT A) ∧ Nils B ∧ St [] w w' [Rs.cur r' B] []
theorem filter_all_in (rc rk : Nat) (A : List Rw) (C : List Sw) (w : World) (how : Ow w [Rs.cur rc A, Rs.p2c rk C]) (hl : A.length ≤ 1000) (hb : ∀ x ∈ A, x.2.2.length ≤ 1000) (hnil : Nils A) (hin : ∀ x ∈ A, ∀ p ∈ x.2.2, p ∈ C.map (·.1)) :
 Calls Tryz.prog 239 #[.map (some rc), .map (some rk)] w (FiltPost w A) := by
 have hdc := deep_copy rc A w (how.sub (List.Sublist.cons_cons _ (List.nil_sublist _))) (by omega) (fun x hx => by have := hb x hx; omega) hnil
 have hst0 : St [] w w [] [Rs.p2c rk C] := St.start0 (how.sub (List.Sublist.cons _ (List.Sublist.refl _)))
 have HDC := Zhd hdc; clear hdc how hnil
 have HIN := Zhd (Zan hin (Zan hb hl)); clear hin hb hl
 go_enter Tryz.func239, Tryz.ntmps239
 go_wp2_with (first
  | (go_at_call 251
     refine (HDC.out).mono ?_
     rintro e w1 ⟨r', B, rfl, hB, hBn, hst1⟩
     have hst2 : St [] w w1 [Rs.cur r' B] [Rs.p2c rk C] := St.call (M1 := []) hst0 hst1)
  | (refine wl_rng 0 rfl rfl rfl Tryz.underlying378 hst2 rfl (cur_foot r' B) (show RowsAt _ isStr r' 384 2 (rowsT B) from hst2.m 0 rfl).map ?_
     intro it w2 hst3 hit)
  | fail)
 simp only [Zs0] at hst3
 have h0 : FAInv w r' it B [Rs.p2c rk C] w2 := ⟨[], B, List.Perm.refl _, hst3⟩
 have H0 := Zhd (Zan h0 (Zan hB hBn)); clear h0 hst3 hit hst2 hst1 hB hBn hst0
 try go_frame
 go_loopw [6] (fun _ wr => FAInv w r' it B [Rs.p2c rk C] wr) (fun _ wr => leftOf wr it r')
 case atStart => exact H0.out.1
 case round =>
  obtain ⟨Dn, Lf, hperm, hst⟩ := hrel
  have HL := Zhd hperm; clear hperm
  by_cases hlf : rawR (rowsT Lf) = []
  · have hLf := rawR_nil hlf
    subst hLf
    have hit0 : IterAt wr it r' (rawR (rowsT B)) [] := (hst.m 0 rfl).2.1
    have hst5 := (hst.weak 0 rfl (X' := Rs.cur r' B) (fun h => h.1) (fun g hg => List.mem_append_left [it] hg)).noR
    simp only [Zs0] at hst5
    have hfin : FiltPost w A (.returned (.map (some r'))) wr := ⟨r', B, rfl, H0.out.2.1, H0.out.2.2, hst5⟩
    have HF := Zhd hfin; clear hfin hst5
    go_wp2_with (first | (refine wl_nx0 rfl rfl rfl hit0 ?_) | fail)
    go_ret
    exact HF.out
  · obtain ⟨wB, rfl⟩ : ∃ wB, wB = wr := ⟨_, rfl⟩
    go_wp2_with (first
     | (refine wl_nx1 0 (cur_foot r' B) rfl rfl rfl hst rfl hlf ?_
        intro k v l1 l2 w2 hsp hst2 hent
        simp only [Zs0] at hst2
        obtain ⟨L1, x, L2, rfl, rfl, rfl, rfl, rfl⟩ := rawR_split hsp
        have hxB : x ∈ B := HL.out.mem_iff.1 (by simp)
        obtain ⟨hrow, xa, xc, hxv⟩ := cur_row (show RowsAt w2 isStr r' 384 2 (rowsT B) from (hst2.m 0 rfl).1) hxB
        have hxin := cur_in hxB
        obtain ⟨m, xv, ps⟩ := x
        simp only at hxv hrow hxin
        subst hxv
        have HSP := Zhd (Zan hsp hxB); clear hsp hxB)
     | (refine wl_entry rfl rfl rfl hent ?_)
     | fail)
    have hk0 : 0 ≤ ps.length := Nat.zero_le _
    have hbp : ps.length ≤ 1000 := by
     have h1 : ((m, ps) : ByteArray × List TP) ∈ asgT B := List.mem_map.2 ⟨_, HSP.out.2, rfl⟩
     obtain ⟨y, hy, hye⟩ := List.mem_map.1 (H0.out.2.1.mem_iff.1 h1)
     have := HIN.out.2.1 y hy
     rw [Prod.mk.injEq] at hye
     rw [← hye.2]; exact this
    have hpin : ∀ p ∈ ps, p ∈ C.map (·.1) := by
     have h1 : ((m, ps) : ByteArray × List TP) ∈ asgT B := List.mem_map.2 ⟨_, HSP.out.2, rfl⟩
     obtain ⟨y, hy, hye⟩ := List.mem_map.1 (H0.out.2.1.mem_iff.1 h1)
     rw [Prod.mk.injEq] at hye
     rw [← hye.2]; exact HIN.out.1 y hy
    have HPI := Zhd hpin; clear hpin hent
    generalize hkn : ps.length = kn at *
    have HKN := Zhd hkn; clear hkn
    go_loopw [8, 24] (fun i j wr' => ∃ k : Nat, i = .int .i64 k ∧ j = .int .i64 k ∧ k ≤ kn ∧ St [] w wr' [itB r' B (rawR (rowsT L1) ++ rawR (rowsT L2)) it] [Rs.p2c rk C]) (fun i _ _ => kn - (intOf i).toNat)
    case atStart => exact ⟨0, rfl, rfl, Nat.zero_le _, hst2⟩
    case round =>
     obtain ⟨k, rfl, rfl, hk, hst3⟩ := hrel
     by_cases hkl : k < kn
     · obtain ⟨p, hkp⟩ : ∃ p, ps[k]? = some p := ⟨_, List.getElem?_eq_getElem (by rw [HKN.out]; exact hkl)⟩
       obtain ⟨g1, g2⟩ := tp_get hkp
       obtain ⟨hrow3, _⟩ := cur_row (show RowsAt wr isStr r' 384 2 (rowsT B) from (hst3.m 0 rfl).1) HSP.out.2
       simp only [HKN.out] at hrow3
       obtain ⟨g, c, ev⟩ := own_some hrow3 (by omega)
       cases ev
       obtain ⟨c1, f1⟩ := own_cell hrow3 g1
       obtain ⟨c2, f2⟩ := own_cell hrow3 g2
       have d1 : ∀ o, (wr.alloc o).cell? ⟨g, k * 2, none⟩ = some (.string p.1) := fun o => ca c1
       have d2 : ∀ o, (wr.alloc o).cell? ⟨g, k * 2 + 1, none⟩ = some (.int .i32 p.2) := fun o => ca c2
       have s1 : ∀ o, (wr.alloc o).setCell ⟨g, k * 2, none⟩ (.string p.1) = wr.alloc o := fun o => setCell_same (d1 o)
       have s2 : ∀ o, (wr.alloc o).setCell ⟨g, k * 2 + 1, none⟩ (.int .i32 p.2) = wr.alloc o := fun o => setCell_same (d2 o)
       have fz : ∀ o, (wr.alloc o).frozen? ⟨g, k * 2, none⟩ = false ∧ (wr.alloc o).frozen? ⟨g, k * 2 + 1, none⟩ = false := fun o => by
        obtain ⟨hr', _⟩ := cur_row (show RowsAt (wr.alloc o) isStr r' 384 2 (rowsT B) from ((hst3.alloc o).m 0 rfl).1) HSP.out.2
        simp only [HKN.out] at hr'
        exact ⟨(own_cell hr' g1).2, (own_cell hr' g2).2⟩
       obtain ⟨⟨p', pv, nm⟩, hpm, hpe⟩ := List.mem_map.1 (HPI.out p (List.mem_of_getElem? hkp))
       simp only at hpe
       subst hpe
       have hpin2 := p2c_in hpm
       simp only at hpin2
       have hkc : k < xc := by
        obtain ⟨_, _, e1, h1⟩ := own_cap hrow3
        cases e1
        omega
       have hki : (k : Int) < (kn : Int) := by omega
       clear f1 f2 g1 g2 hkp hpm
       go_wp2_with (first
        | (refine wl_lk2 rfl rfl rfl rfl keyT_tp Tryz.underlying382 (show RowsAt _ isTp rk 9 1 (rowsS C) from (hst3.alloc _).r 0 rfl).map hpin2 ?_)
        | fail)
       exact ⟨⟨k + 1, by go_num, by go_num, by omega, hst3.alloc _⟩, by simp [intOf]; omega⟩
     · obtain rfl : k = kn := by omega
       have hnew : ∀ u, (Value.string m, u) ∉ rawR (rowsT L1) ++ rawR (rowsT L2) := by
        have hnd := cur_keys (show RowsAt wr isStr r' 384 2 (rowsT B) from (hst3.m 0 rfl).1)
        intro u hu
        rw [← rawR_append, ← rowsT_append] at hu
        obtain ⟨y, hy, hye⟩ := List.mem_map.1 hu
        obtain ⟨z, hz, rfl⟩ := List.mem_map.1 hy
        have hzm : z.1 = m := by simpa [rowT] using (Prod.mk.inj hye).1
        have h1 : ((Dn ++ (L1 ++ (m, Value.slice xa k xc, ps) :: L2)).map (·.1)).Nodup := (HL.out.map (·.1)).nodup_iff.2 hnd
        rw [List.map_append, List.nodup_append] at h1
        have h2 := h1.2.1
        rw [List.map_append, List.map_cons, List.nodup_append] at h2
        rcases Zap.1 hz with hz | hz
        · exact h2.2.2 m (List.mem_map.2 ⟨z, hz, hzm⟩) m (by simp) rfl
        · exact (List.nodup_cons.1 h2.2.1).1 (List.mem_map.2 ⟨z, hz, hzm⟩)
       have hpst := perm_step HL.out
       have HNW := Zhd (Zan hnew hpst); clear hnew hpst
       have hkc : k ≤ xc ∨ k = 0 := by
        obtain ⟨hrow3, _⟩ := cur_row (show RowsAt wr isStr r' 384 2 (rowsT B) from (hst3.m 0 rfl).1) HSP.out.2
        simp only [HKN.out] at hrow3
        obtain ⟨_, _, e1, h1⟩ := own_cap hrow3
        cases e1
        exact .inl h1
       have hkc2 : (k : Int) ≤ (xc : Int) := by omega
       have hk0 : (0 : Int) ≤ (k : Int) := by omega
       clear hkc
       go_wp2_with (first
        | (refine wl_updsame (kv := .string m) (vv := .slice xa k xc) 0 (cur_foot r' B) rfl rfl rfl rfl rfl (keyT_str Tryz.underlying9) Tryz.underlying378 hst3 rfl ⟨_, rfl⟩ hxin HNW.out.1 ?_
           intro w5 hst5)
        | fail)
       have e : rawR (rowsT L1) ++ rawR (rowsT L2) = rawR (rowsT (L1 ++ L2)) := by rw [rowsT_append, rawR_append]
       simp only [e] at hst5
       have hend : FAInv w r' it B [Rs.p2c rk C] w5 ∧ leftOf w5 it r' < leftOf wB it r' := by
        refine ⟨⟨Dn ++ [(m, .slice xa k xc, ps)], L1 ++ L2, HNW.out.2, hst5⟩, ?_⟩
        have h1 : IterAt w5 it r' (rawR (rowsT B)) (rawR (rowsT (L1 ++ L2))) := (hst5.m 0 rfl).2.1
        have h2 : IterAt wB it r' (rawR (rowsT B)) _ := (hst.m 0 rfl).2.1
        rw [h1.leftOf, h2.leftOf, HSP.out.1, ← e]
        simp
       refine ⟨?_, hend.2⟩
       (repeat apply Exists.intro)
       exact ⟨hend.1, rfl⟩
end
end Go.Proofs.YticcnlpfmekagaaGreat
