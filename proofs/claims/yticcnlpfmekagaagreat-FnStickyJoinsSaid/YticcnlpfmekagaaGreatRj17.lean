/- Part 17 of the proof of the row: Filt, SrtB, Names. -/
import Derived.Test.YticcnlpfmekagaaGreatRj00
import Derived.Test.YticcnlpfmekagaaGreatRj13
import Derived.Test.YticcnlpfmekagaaGreatRj15
import Derived.Test.YticcnlpfmekagaaGreatRj16
import Derived.Test.YticcnlpfmekagaaGreatRj11
import Derived.Sort.OwnSorted
import Derived.Lib.OwnBridge
set_option linter.unusedVariables false
set_option linter.unusedSimpArgs false
set_option maxRecDepth 100000
set_option maxHeartbeats 8000000
namespace Go.Proofs.YticcnlpfmekagaaGreat
section
open Go Go.Proofs Go.RowKit Go.Lib
open Classical
theorem setCell_same {w : World} {g o : Nat} {u : Value} (h : w.cell? ⟨g, o, none⟩ = some u) : w.setCell ⟨g, o, none⟩ u = w := by
 have hh : (w.setCell ⟨g, o, none⟩ u).heap = w.heap := by
  apply Array.ext_getElem?
  intro i
  simp only [World.setCell, Array.getElem?_modify]
  by_cases hi : g = i
  · subst hi
    rw [if_pos rfl]
    unfold World.cell? at h
    cases hg : w.heap[g]? with
    | none => rfl
    | some obj =>
      rw [hg] at h
      cases obj with
      | cells c e f =>
        simp only [Option.isSome, Bool.false_eq_true, if_false] at h
        simp only [Option.map_some, Option.some.injEq, Obj.cells.injEq, and_true, Option.isSome, Bool.false_eq_true, if_false]
        apply Array.ext_getElem?
        intro j
        rw [Array.getElem?_setIfInBounds]
        by_cases hj : o = j
        · subst hj
          obtain ⟨h1, h2⟩ := Array.getElem?_eq_some_iff.1 h
          simp [h1, h2]
        · rw [if_neg hj]
      | _ => rfl
  · rw [if_neg hi]
 have h2 : w.setCell ⟨g, o, none⟩ u = { w with heap := (w.setCell ⟨g, o, none⟩ u).heap } := rfl
 rw [h2, hh]
theorem putE_same {l : List (Value × Value)} {k v : Value} (hn : (l.map (·.1)).Nodup) (h : (k, v) ∈ l) : putE l k v = l := by
 obtain ⟨A, B, rfl⟩ := List.append_of_mem h
 exact putE_hit hn v
section
variable {P : Program} {ops : Array Oper} {o : Oper} {a : Act} {w : World} {rest : List Oper} {Q : Exit → Act → World → Prop}
variable {V : Value → Prop} {r it E sz : Nat} {L : List MRow} {left : List (Value × Value)} {T kT eT : TypeId} {m x y : Operand} {kv vv : Value}
variable {S : List Nat} {w0 : World} {M R : List Res}
theorem wl_updsame (i : Nat) (hr : r ∈ (Rs.rows V r E sz L).foot) (hgd : o.guard = none) (hop : o.op = .mapUpdate T m x y) (hm : a.eval m = .map (some r)) (hk : a.eval x = kv) (hv : a.eval y = vv) (K0 : KeyT P kT V) (hT : P.underlying T = some (.map kT eT)) (hst : St S w0 w M R)
 (hi : M[i]? = some (Rs.it (Rs.rows V r E sz L) r (rawR L) left it hr)) (hV : V kv) (hin : (kv, vv) ∈ rawR L) (hout : ∀ u, (kv, u) ∉ left)
 (hK : ∀ w', St S w0 w' M R → wpList P ops Q rest (a.put o.dst undef) w') : wpList P ops Q (o :: rest) a w := by
 obtain ⟨hrows, hiter, hni⟩ : RowsAt w V r E sz L ∧ IterAt w it r (rawR L) left ∧ it ∉ (Rs.rows V r E sz L).foot := hst.m i hi
 obtain ⟨w', hrun, h1, h2, h3, h4⟩ := map_update_iter (P := P) hrows.map K0 hT hV vv hiter (iter_ne hiter) ⟨vv, hin⟩ hout
 have hsame : putE (rawR L) kv vv = rawR L := putE_same hrows.map.nodup hin
 rw [hsame] at h1 h4
 have hd := hrows.dis
 rw [List.nodup_cons] at hd
 have hrows' : RowsAt w' V r E sz L := ⟨h1, fun y hy => by
  obtain ⟨n, hn⟩ := hrows.each y hy
  exact ⟨n, own_kept hn h2 (fun g hg e => by
   simp only [Zmc, Znn, or_false] at e
   subst e
   exact hd.1 (List.mem_flatMap.2 ⟨y, hy, by simp [hg]⟩))⟩, hrows.dis⟩
 have hst' := hst.set i hi (X' := Rs.it (Rs.rows V r E sz L) r (rawR L) left it hr) h2 (fun g hg _ => by
  simp only [Zmc, Znn, or_false] at hg; subst hg
  exact List.mem_append_left [it] (by simp [Rs.rows])) ⟨hrows', h4, hni⟩ (fun g hg => .inl hg)
 have hself : M.set i (Rs.it (Rs.rows V r E sz L) r (rawR L) left it hr) = M := by
  obtain ⟨A, B, rfl, rfl⟩ := split_at hi
  simp
 rw [hself] at hst'
 refine wl_of hgd fun _ hh => ?_
 refine wp_skip' (w' := w') ?_ (hh _ _ (hK w' hst'))
 simp only [execOp, hop, hm, hk, hv, Sem.run_bind, hrun, Result.andThen_ok]; rfl
end
abbrev itB (r' : Nat) (B : List Rw) (lf : List (Value × Value)) (it : Nat) : Res := Rs.it (Rs.cur r' B) r' (rawR (rowsT B)) lf it (cur_foot r' B)
def FAInv (w : World) (r' it : Nat) (B : List Rw) (R : List Res) (wr : World) : Prop :=
 ∃ (Dn Lf : List Rw), (Dn ++ Lf).Perm B ∧ St [] w wr [itB r' B (rawR (rowsT Lf)) it] R
def FiltPost (w : World) (A : List Rw) (e : Ending) (w' : World) : Prop :=
 ∃ (r' : Nat) (B : List Rw), e = .returned (.map (some r')) ∧ (asgT B).Perm (asgT A) ∧ Nils B ∧ St [] w w' [Rs.cur r' B] []
theorem filter_all_in (rc rk : Nat) (A : List Rw) (C : List Sw) (w : World) (how : Ow w [Rs.cur rc A, Rs.p2c rk C]) (hl : A.length ≤ 1000) (hb : ∀ x ∈ A, x.2.2.length ≤ 1000) (hnil : Nils A) (hin : ∀ x ∈ A, ∀ p ∈ x.2.2, p ∈ C.map (·.1)) :
 Calls Tryz.prog 239 #[.map (some rc), .map (some rk)] w (FiltPost w A) := by
 have hdc := deep_copy rc A w (how.sub (List.Sublist.cons_cons _ (List.nil_sublist _))) (by omega) (fun x hx => by have := hb x hx; omega) hnil
 have hst0 : St [] w w [] [Rs.p2c rk C] := St.start0 (how.sub (List.Sublist.cons _ (List.Sublist.refl _)))
 have HDC := Zhd hdc; clear hdc how hnil
 have HIN := Zhd (Zan hin (Zan hb hl)); clear hin hb hl
 go_enter Tryz.func239, Tryz.ntmps239
 go_wp2_with (first
  | (go_at_call 251
     refine (HDC.out).mono ?_
     rintro e w1 ⟨r', B, rfl, hB, hBn, hst1⟩
     have hst2 : St [] w w1 [Rs.cur r' B] [Rs.p2c rk C] := St.call (M1 := []) hst0 hst1)
  | (refine wl_rng 0 rfl rfl rfl Tryz.underlying378 hst2 rfl (cur_foot r' B) (show RowsAt _ isStr r' 384 2 (rowsT B) from hst2.m 0 rfl).map ?_
     intro it w2 hst3 hit)
  | fail)
 simp only [Zs0] at hst3
 have h0 : FAInv w r' it B [Rs.p2c rk C] w2 := ⟨[], B, List.Perm.refl _, hst3⟩
 have H0 := Zhd (Zan h0 (Zan hB hBn)); clear h0 hst3 hit hst2 hst1 hB hBn hst0
 try go_frame
 go_loopw [6] (fun _ wr => FAInv w r' it B [Rs.p2c rk C] wr) (fun _ wr => leftOf wr it r')
 case atStart => exact H0.out.1
 case round =>
  obtain ⟨Dn, Lf, hperm, hst⟩ := hrel
  have HL := Zhd hperm; clear hperm
  by_cases hlf : rawR (rowsT Lf) = []
  · have hLf := rawR_nil hlf
    subst hLf
    have hit0 : IterAt wr it r' (rawR (rowsT B)) [] := (hst.m 0 rfl).2.1
    have hst5 := (hst.weak 0 rfl (X' := Rs.cur r' B) (fun h => h.1) (fun g hg => List.mem_append_left [it] hg)).noR
    simp only [Zs0] at hst5
    have hfin : FiltPost w A (.returned (.map (some r'))) wr := ⟨r', B, rfl, H0.out.2.1, H0.out.2.2, hst5⟩
    have HF := Zhd hfin; clear hfin hst5
    go_wp2_with (first | (refine wl_nx0 rfl rfl rfl hit0 ?_) | fail)
    go_ret
    exact HF.out
  · obtain ⟨wB, rfl⟩ : ∃ wB, wB = wr := ⟨_, rfl⟩
    go_wp2_with (first
     | (refine wl_nx1 0 (cur_foot r' B) rfl rfl rfl hst rfl hlf ?_
        intro k v l1 l2 w2 hsp hst2 hent
        simp only [Zs0] at hst2
        obtain ⟨L1, x, L2, rfl, rfl, rfl, rfl, rfl⟩ := rawR_split hsp
        have hxB : x ∈ B := HL.out.mem_iff.1 (by simp)
        obtain ⟨hrow, xa, xc, hxv⟩ := cur_row (show RowsAt w2 isStr r' 384 2 (rowsT B) from (hst2.m 0 rfl).1) hxB
        have hxin := cur_in hxB
        obtain ⟨m, xv, ps⟩ := x
        simp only at hxv hrow hxin
        subst hxv
        have HSP := Zhd (Zan hsp hxB); clear hsp hxB)
     | (refine wl_entry rfl rfl rfl hent ?_)
     | fail)
    have hk0 : 0 ≤ ps.length := Nat.zero_le _
    have hbp : ps.length ≤ 1000 := by
     have h1 : ((m, ps) : ByteArray × List TP) ∈ asgT B := List.mem_map.2 ⟨_, HSP.out.2, rfl⟩
     obtain ⟨y, hy, hye⟩ := List.mem_map.1 (H0.out.2.1.mem_iff.1 h1)
     have := HIN.out.2.1 y hy
     rw [Prod.mk.injEq] at hye
     rw [← hye.2]; exact this
    have hpin : ∀ p ∈ ps, p ∈ C.map (·.1) := by
     have h1 : ((m, ps) : ByteArray × List TP) ∈ asgT B := List.mem_map.2 ⟨_, HSP.out.2, rfl⟩
     obtain ⟨y, hy, hye⟩ := List.mem_map.1 (H0.out.2.1.mem_iff.1 h1)
     rw [Prod.mk.injEq] at hye
     rw [← hye.2]; exact HIN.out.1 y hy
    have HPI := Zhd hpin; clear hpin hent
    generalize hkn : ps.length = kn at *
    have HKN := Zhd hkn; clear hkn
    go_loopw [8, 24] (fun i j wr' => ∃ k : Nat, i = .int .i64 k ∧ j = .int .i64 k ∧ k ≤ kn ∧ St [] w wr' [itB r' B (rawR (rowsT L1) ++ rawR (rowsT L2)) it] [Rs.p2c rk C]) (fun i _ _ => kn - (intOf i).toNat)
    case atStart => exact ⟨0, rfl, rfl, Nat.zero_le _, hst2⟩
    case round =>
     obtain ⟨k, rfl, rfl, hk, hst3⟩ := hrel
     by_cases hkl : k < kn
     · obtain ⟨p, hkp⟩ : ∃ p, ps[k]? = some p := ⟨_, List.getElem?_eq_getElem (by rw [HKN.out]; exact hkl)⟩
       obtain ⟨g1, g2⟩ := tp_get hkp
       obtain ⟨hrow3, _⟩ := cur_row (show RowsAt wr isStr r' 384 2 (rowsT B) from (hst3.m 0 rfl).1) HSP.out.2
       simp only [HKN.out] at hrow3
       obtain ⟨g, c, ev⟩ := own_some hrow3 (by omega)
       cases ev
       obtain ⟨c1, f1⟩ := own_cell hrow3 g1
       obtain ⟨c2, f2⟩ := own_cell hrow3 g2
       have d1 : ∀ o, (wr.alloc o).cell? ⟨g, k * 2, none⟩ = some (.string p.1) := fun o => ca c1
       have d2 : ∀ o, (wr.alloc o).cell? ⟨g, k * 2 + 1, none⟩ = some (.int .i32 p.2) := fun o => ca c2
       have s1 : ∀ o, (wr.alloc o).setCell ⟨g, k * 2, none⟩ (.string p.1) = wr.alloc o := fun o => setCell_same (d1 o)
       have s2 : ∀ o, (wr.alloc o).setCell ⟨g, k * 2 + 1, none⟩ (.int .i32 p.2) = wr.alloc o := fun o => setCell_same (d2 o)
       have fz : ∀ o, (wr.alloc o).frozen? ⟨g, k * 2, none⟩ = false ∧ (wr.alloc o).frozen? ⟨g, k * 2 + 1, none⟩ = false := fun o => by
        obtain ⟨hr', _⟩ := cur_row (show RowsAt (wr.alloc o) isStr r' 384 2 (rowsT B) from ((hst3.alloc o).m 0 rfl).1) HSP.out.2
        simp only [HKN.out] at hr'
        exact ⟨(own_cell hr' g1).2, (own_cell hr' g2).2⟩
       obtain ⟨⟨p', pv, nm⟩, hpm, hpe⟩ := List.mem_map.1 (HPI.out p (List.mem_of_getElem? hkp))
       simp only at hpe
       subst hpe
       have hpin2 := p2c_in hpm
       simp only at hpin2
       have hkc : k < xc := by
        obtain ⟨_, _, e1, h1⟩ := own_cap hrow3
        cases e1
        omega
       have hki : (k : Int) < (kn : Int) := by omega
       clear f1 f2 g1 g2 hkp hpm
       go_wp2_with (first
        | (refine wl_lk2 rfl rfl rfl rfl keyT_tp Tryz.underlying382 (show RowsAt _ isTp rk 9 1 (rowsS C) from (hst3.alloc _).r 0 rfl).map hpin2 ?_)
        | fail)
       exact ⟨⟨k + 1, by go_num, by go_num, by omega, hst3.alloc _⟩, by simp [intOf]; omega⟩
     · obtain rfl : k = kn := by omega
       have hnew : ∀ u, (Value.string m, u) ∉ rawR (rowsT L1) ++ rawR (rowsT L2) := by
        have hnd := cur_keys (show RowsAt wr isStr r' 384 2 (rowsT B) from (hst3.m 0 rfl).1)
        intro u hu
        rw [← rawR_append, ← rowsT_append] at hu
        obtain ⟨y, hy, hye⟩ := List.mem_map.1 hu
        obtain ⟨z, hz, rfl⟩ := List.mem_map.1 hy
        have hzm : z.1 = m := by simpa [rowT] using (Prod.mk.inj hye).1
        have h1 : ((Dn ++ (L1 ++ (m, Value.slice xa k xc, ps) :: L2)).map (·.1)).Nodup := (HL.out.map (·.1)).nodup_iff.2 hnd
        rw [List.map_append, List.nodup_append] at h1
        have h2 := h1.2.1
        rw [List.map_append, List.map_cons, List.nodup_append] at h2
        rcases Zap.1 hz with hz | hz
        · exact h2.2.2 m (List.mem_map.2 ⟨z, hz, hzm⟩) m (by simp) rfl
        · exact (List.nodup_cons.1 h2.2.1).1 (List.mem_map.2 ⟨z, hz, hzm⟩)
       have hpst := perm_step HL.out
       have HNW := Zhd (Zan hnew hpst); clear hnew hpst
       have hkc : k ≤ xc ∨ k = 0 := by
        obtain ⟨hrow3, _⟩ := cur_row (show RowsAt wr isStr r' 384 2 (rowsT B) from (hst3.m 0 rfl).1) HSP.out.2
        simp only [HKN.out] at hrow3
        obtain ⟨_, _, e1, h1⟩ := own_cap hrow3
        cases e1
        exact .inl h1
       have hkc2 : (k : Int) ≤ (xc : Int) := by omega
       have hk0 : (0 : Int) ≤ (k : Int) := by omega
       clear hkc
       go_wp2_with (first
        | (refine wl_updsame (kv := .string m) (vv := .slice xa k xc) 0 (cur_foot r' B) rfl rfl rfl rfl rfl (keyT_str Tryz.underlying9) Tryz.underlying378 hst3 rfl ⟨_, rfl⟩ hxin HNW.out.1 ?_
           intro w5 hst5)
        | fail)
       have e : rawR (rowsT L1) ++ rawR (rowsT L2) = rawR (rowsT (L1 ++ L2)) := by rw [rowsT_append, rawR_append]
       simp only [e] at hst5
       have hend : FAInv w r' it B [Rs.p2c rk C] w5 ∧ leftOf w5 it r' < leftOf wB it r' := by
        refine ⟨⟨Dn ++ [(m, .slice xa k xc, ps)], L1 ++ L2, HNW.out.2, hst5⟩, ?_⟩
        have h1 : IterAt w5 it r' (rawR (rowsT B)) (rawR (rowsT (L1 ++ L2))) := (hst5.m 0 rfl).2.1
        have h2 : IterAt wB it r' (rawR (rowsT B)) _ := (hst.m 0 rfl).2.1
        rw [h1.leftOf, h2.leftOf, HSP.out.1, ← e]
        simp
       refine ⟨?_, hend.2⟩
       (repeat apply Exists.intro)
       exact ⟨hend.1, rfl⟩
end
section
open Go Go.Proofs Go.RowKit Go.Lib
open Classical
theorem least_ex {P : Nat → Prop} (h : ∃ n, P n) : ∃ n, P n ∧ ∀ m, P m → n ≤ m := by
 obtain ⟨n, hn⟩ := h
 induction n using Nat.strongRecOn with
 | _ n ih =>
   by_cases h : ∃ m, m < n ∧ P m
   · obtain ⟨m, h1, h2⟩ := h
     exact ih m h1 h2
   · exact ⟨n, hn, fun m hm => Nat.le_of_not_lt fun h1 => h ⟨m, h1, hm⟩⟩
noncomputable def leastM (P : Nat → Prop) : Nat := if h : ∃ n, P n then Classical.choose (least_ex h) else 0
theorem leastM_spec {P : Nat → Prop} (h : ∃ n, P n) : P (leastM P) := by unfold leastM; rw [dif_pos h]; exact (Classical.choose_spec (least_ex h)).1
theorem leastM_le {P : Nat → Prop} {n : Nat} (h : P n) : leastM P ≤ n := by unfold leastM; rw [dif_pos ⟨n, h⟩]; exact (Classical.choose_spec (least_ex ⟨n, h⟩)).2 n h
theorem enc_snoc (L : List TP) (p : TP) : L.flatMap encTp ++ [.string p.1, .int .i32 p.2] = (L ++ [p]).flatMap encTp := by simp [encTp]
theorem perm_map_exists {α β : Type} (f : α → β) : ∀ (L : List β) (Q : List α), L.Perm (Q.map f) → ∃ Q' : List α, Q'.map f = L ∧ Q'.Perm Q := by
 intro L
 induction L with
 | nil =>
   intro Q h
   have := h.symm.eq_nil
   simp at this
   subst this
   exact ⟨[], rfl, .refl _⟩
 | cons b L ih =>
   intro Q h
   obtain ⟨a, ha, rfl⟩ := List.mem_map.1 (h.mem_iff.1 (List.mem_cons_self ..))
   obtain ⟨A, B, rfl⟩ := List.append_of_mem ha
   have h2 : L.Perm ((A ++ B).map f) := by
    have h3 : (f a :: L).Perm (f a :: ((A ++ B).map f)) := h.trans (by simp)
    exact List.Perm.cons_inv h3
   obtain ⟨Q', h4, h5⟩ := ih _ h2
   exact ⟨a :: Q', by simp [h4], (h5.cons a).trans List.perm_middle.symm⟩
def ItOf (B : List Rw) (x : It) (ts : List TP) : Prop :=
 ∃ (v : Value) (ps : List TP) (d : Nat), (x.2.1, v, ps) ∈ B ∧ ts = ps.drop d ∧ x.2.2.2.1 = ts.length ∧ x.2.2.2.1 ≤ x.2.2.2.2 ∧ (ts ≠ [] → ∃ g C, v = .slice (some ⟨g, 0, none⟩) ps.length C ∧ x.2.2.1 = some ⟨g, d * 2, none⟩)
section
variable {S : List Nat} {w0 w : World} {M R : List Res}
theorem St.join {X Y Z : Res} (h : St S w0 w (X :: Y :: M) R) (hz : X.holds w → Y.holds w → (∀ g ∈ X.foot, g ∉ Y.foot) → Z.holds w) (hf : ∀ g ∈ Z.foot, g ∈ X.foot ∨ g ∈ Y.foot) : St S w0 w (Z :: M) R := by
 have how : Ow w ([X, Y] ++ (M ++ R)) := h.ow
 have hd := List.pairwise_cons.1 how.left.dis
 have hs : ∀ g ∈ foots [Z], g ∈ foots [X, Y] := fun g hg => by
  simp only [foots_cons] at hg ⊢
  simp only [foots, List.flatMap_nil, List.append_nil] at hg ⊢
  rcases hf g hg with h1 | h1
  · exact List.mem_append_left _ h1
  · exact List.mem_append_right _ h1
 have h4 : St (foots [X, Y]) w w [Z] [] :=
  ⟨Kept.refl _ _, Ow.one (hz (h.m 0 rfl) (h.m 1 rfl) (hd.1 Y (by simp))) (fun g hg => how.left.lt g (hs g (by simpa [foots] using hg))), fun g hg => .inl (hs g hg)⟩
 exact St.call (M1 := [X, Y]) (M2 := M) h h4
theorem St.fromR {X : Res} (h : St S w0 w M R) (i : Nat) (hi : R[i]? = some X) (hx : ∀ g ∈ X.foot, g ∈ S ∨ w0.heap.size ≤ g) : St S w0 w (X :: M) (R.eraseIdx i) := by
 refine ⟨h.kept, ?_, fun g hg => ?_⟩
 · refine h.ow.perm ?_
   obtain ⟨A, B, rfl, rfl⟩ := split_at hi
   have e : (A ++ X :: B).eraseIdx A.length = A ++ B := by rw [List.eraseIdx_append_of_length_le (Nat.le_refl _)]; simp
   rw [e, List.cons_append]
   exact (List.Perm.append_left M List.perm_middle).trans List.perm_middle
 · rw [foots_cons] at hg
   rcases Zap.1 hg with hg | hg
   · exact hx g hg
   · exact h.turn g hg
theorem St.addIt {J : List It} {x : It} (h : St S w0 w (Rs.blk x.1 (.cells (itCells x) 414 (0, 0)) :: Rs.its J :: M) R) : St S w0 w (Rs.its (J ++ [x]) :: M) R := by
 refine h.join (fun h1 h2 h3 => ⟨fun y hy => ?_, ?_⟩) (fun g hg => ?_)
 · rcases Zap.1 hy with hy | hy
   · exact h2.1 y hy
   · simp at hy; subst hy; exact h1
 · rw [List.map_append, List.nodup_append]
   refine ⟨h2.2, by simp, fun a ha b hb e => ?_⟩
   simp at hb
   subst hb e
   exact h3 x.1 (by simp [Rs.blk]) ha
 · simp only [Rs.its, List.map_append, Zap, List.map_cons, List.map_nil, Zmc, Znn, or_false] at hg
   rcases hg with hg | hg
   · exact .inr hg
   · exact .inl (by simp [Rs.blk, hg])
theorem St.itsSub {J J' : List It} (i : Nat) (h : St S w0 w M R) (hi : M[i]? = some (Rs.its J)) (hs : ∃ J2, (J' ++ J2).Perm J) : St S w0 w (M.set i (Rs.its J')) R := by
 obtain ⟨J2, hp⟩ := hs
 refine h.weak i hi (fun hh => ⟨fun x hx => hh.1 x (hp.mem_iff.1 (List.mem_append_left _ hx)), ?_⟩) (fun g hg => ?_)
 · have := (hp.map Prod.fst).nodup_iff.2 hh.2
   rw [List.map_append] at this
   exact (List.nodup_append.1 this).1
 · obtain ⟨x, hx, rfl⟩ := List.mem_map.1 hg
   exact List.mem_map.2 ⟨x, hp.mem_iff.1 (List.mem_append_left _ hx), rfl⟩
theorem St.setIt {J : List It} {x : It} {a' : Option Addr} {n' c' : Nat} (i : Nat) (h : St S w0 w M R) (hi : M[i]? = some (Rs.its (x :: J))) :
 St S w0 (w.setCell ⟨x.1, 1, none⟩ (.slice a' n' c')) (M.set i (Rs.its ((x.1, x.2.1, a', n', c') :: J))) R := by
 refine h.set i hi (T := [x.1]) ((Kept.refl _ _).setCell _ (by simp)) (fun g hg _ => by simp at hg; subst hg; simp [Rs.its]) ?_ (fun g hg => .inl (by simpa [Rs.its] using hg))
 have h0 : (Rs.its (x :: J)).holds w := h.m i hi
 refine ⟨fun y hy => ?_, by simpa using h0.2⟩
 have hn : x.1 ∉ J.map Prod.fst := by have := h0.2; rw [List.map_cons, List.nodup_cons] at this; exact this.1
 rcases Zmc.1 hy with rfl | hy
 · have h1 := h0.1 x (List.mem_cons_self ..)
   simp [World.setCell, Array.getElem?_modify, h1, itCells]
 · have hne : x.1 ≠ y.1 := fun e => hn (e ▸ List.mem_map_of_mem hy)
   have h1 := h0.1 y (List.mem_cons_of_mem _ hy)
   simp [World.setCell, Array.getElem?_modify, hne, h1]
end
theorem elIt_info : (Tryz.prog.info? 412).map (fun i => (i.zero, i.size, i.bytes)) = some (some (.pointer none), 1, 8) := by kernel_rfl
theorem elIt : Elem Tryz.prog 411 412 1 8 (.pointer none) := ⟨Tryz.underlying411, info_parts elIt_info, rfl, by omega⟩
theorem ptrs_set {L : List It} {x : It} {u : Value} {rs : List Value} {k : Nat} (hk : L.length = k) : (ptrs L ++ u :: rs).set k (.pointer (some ⟨x.1, 0, none⟩)) = ptrs (L ++ [x]) ++ rs := by
 subst hk
 simp [ptrs, List.set_append]
theorem ptrs_at {L : List It} {u : Value} {rs : List Value} {k : Nat} (hk : L.length = k) : (ptrs L ++ u :: rs)[k]? = some u := by
 subst hk
 rw [List.getElem?_append_right (by simp [ptrs])]
 simp [ptrs]
theorem map_split {α β : Type} (f : α → β) : ∀ (L : List α) (l1 l2 : List β) (y : β), L.map f = l1 ++ y :: l2 → ∃ A x B, L = A ++ x :: B ∧ l1 = A.map f ∧ y = f x ∧ l2 = B.map f := by
 intro L l1 l2 y h
 obtain ⟨A, B', rfl, h1, h2⟩ := List.map_eq_append_iff.1 h
 obtain ⟨x, B, rfl, h3, h4⟩ := List.map_eq_cons_iff.1 h2
 exact ⟨A, x, B, rfl, h1.symm, h3.symm, h4.symm⟩
theorem Hq.startPop {b g n c : Nat} {J L : List It} {w : World} (h : Ow w ([qrow g n c L] ++ [Rs.its J, qbox b g n c])) (hs : ∀ x ∈ L, x ∈ J) (hn : n < 1000000000) : Hq (foots [qbox b g n c, qrow g n c L]) w b g n c J L w :=
 ⟨⟨Kept.refl _ _, h, fun x hx => .inl (by simp only [foots_cons] at hx ⊢; exact List.mem_append_right _ hx)⟩, hs, hn⟩
theorem win_cell {w : World} {r gx C d j : Nat} {B : List Rw} {m : ByteArray} {ps : List TP} {q : TP} (h : RowsAt w isStr r 384 2 (rowsT B)) (hm : (m, Value.slice (some ⟨gx, 0, none⟩) ps.length C, ps) ∈ B) (hq : (ps.drop d)[j]? = some q) :
 w.cell? ⟨gx, d * 2 + j * 2, none⟩ = some (.string q.1) ∧ w.cell? ⟨gx, d * 2 + j * 2 + 1, none⟩ = some (.int .i32 q.2) := by
 have hrow := (cur_row h hm).1
 simp only at hrow
 rw [List.getElem?_drop] at hq
 obtain ⟨g1, g2⟩ := tp_get hq
 have e : (d + j) * 2 = d * 2 + j * 2 := by omega
 rw [e] at g1 g2
 exact ⟨(own_cell hrow g1).1, (own_cell hrow g2).1⟩
theorem sub_len {α : Type} : ∀ {L K : List α}, L.Nodup → (∀ p ∈ L, p ∈ K) → L.length ≤ K.length := by
 intro L
 induction L with
 | nil => intro K _ _; simp
 | cons a L ih =>
   intro K hn hs
   obtain ⟨A, B, rfl⟩ := List.append_of_mem (hs a (List.mem_cons_self ..))
   rw [List.nodup_cons] at hn
   have := ih (K := A ++ B) hn.2 (fun p hp => by
    have h1 := hs p (List.mem_cons_of_mem _ hp)
    rcases Zap.1 h1 with h | h
    · exact List.mem_append_left _ h
    · rcases Zmc.1 h with rfl | h
      · exact absurd hp hn.1
      · exact List.mem_append_right _ h)
   simp only [List.length_cons, List.length_append] at *; omega
def Made (Dn : List Rw) (L : List It) : Prop := L.map (fun x => (x.2.1, Value.slice x.2.2.1 x.2.2.2.1 x.2.2.2.2)) = Dn.map (fun y => (y.1, y.2.1))
theorem Made.len {Dn : List Rw} {L : List It} (h : Made Dn L) : L.length = Dn.length := by simpa using congrArg List.length h
theorem Made.snoc {Dn : List Rw} {L : List It} (h : Made Dn L) (b : Nat) (m : ByteArray) (a : Option Addr) (n c : Nat) (ps : List TP) : Made (Dn ++ [(m, .slice a n c, ps)]) (L ++ [(b, m, a, n, c)]) := by
 unfold Made at *
 simp [h]
theorem made_queue {w : World} {r : Nat} {B : List Rw} (hr : RowsAt w isStr r 384 2 (rowsT B)) : ∀ (Dn : List Rw) (L : List It), Made Dn L → (∀ x ∈ Dn, x ∈ B) → ∃ Q : List (It × List TP), Q.map (·.1) = L ∧ Q.flatMap (·.2) = Dn.flatMap (·.2.2) ∧ ∀ z ∈ Q, ItOf B z.1 z.2 := by
 intro Dn
 induction Dn with
 | nil =>
   intro L h _
   have := h.len
   have h0 : L = [] := List.eq_nil_of_length_eq_zero (by simpa using this)
   subst h0
   exact ⟨[], rfl, rfl, by simp⟩
 | cons y Dn ih =>
   intro L h hB
   cases L with
   | nil => have := h.len; simp at this
   | cons x L =>
     simp only [Made, List.map_cons, List.cons.injEq, Prod.mk.injEq] at h
     obtain ⟨⟨h1, h2⟩, h3⟩ := h
     obtain ⟨Q, q1, q2, q3⟩ := ih L h3 (fun z hz => hB z (List.mem_cons_of_mem _ hz))
     have hy := hB y (List.mem_cons_self ..)
     obtain ⟨hrow, a, c, e⟩ := cur_row hr hy
     obtain ⟨b, m, xa, xn, xc⟩ := x
     simp only at h1 h2
     rw [e] at h2
     simp only [Value.slice.injEq] at h2
     obtain ⟨rfl, hn, rfl⟩ := h2
     have hn' : xn = y.2.2.length := by omega
     subst hn'
     refine ⟨((b, m, xa, y.2.2.length, xc), y.2.2) :: Q, by simp [q1], by simp [q2], fun z hz => ?_⟩
     rcases Zmc.1 hz with rfl | hz
     · obtain ⟨_, _, e2, e3⟩ := own_cap hrow
       rw [e] at e2
       simp only [Value.slice.injEq] at e2
       refine ⟨y.2.1, y.2.2, 0, ?_, by simp, rfl, by simp only; omega, fun hne => ?_⟩
       · simp only [h1]; exact hy
       · have h0 : 0 < y.2.2.length := List.length_pos_iff.2 hne
         obtain ⟨g, C, e4⟩ := own_some hrow h0
         rw [e] at e4
         simp only [Value.slice.injEq] at e4
         exact ⟨g, C, by rw [e, e4.1, e4.2.2], by simpa using e4.1⟩
     · exact q3 z hz
end
section
open Go Go.Proofs Go.RowKit Go.Sort
def sortedNames (l : List ByteArray) : List ByteArray := ((l.map (·.data.toList)).mergeSort fun x y => decide (x ≤ y)).map fun b => ⟨b.toArray⟩
theorem sortedNames_perm (l : List ByteArray) : (sortedNames l).Perm l := by
 unfold sortedNames
 have h := (List.mergeSort_perm (l.map (·.data.toList)) (fun x y => decide (x ≤ y))).map (fun b : List UInt8 => (⟨b.toArray⟩ : ByteArray))
 refine h.trans ?_
 rw [List.map_map]
 have : (fun b : List UInt8 => (⟨b.toArray⟩ : ByteArray)) ∘ (fun x : ByteArray => x.data.toList) = id := by funext x; simp
 rw [this, List.map_id]
theorem sort_names (v : Value) (N : Nat) (l : List ByteArray) (w : World) (hown : w.ownsRow 0 9 1 v N (strs l)) (hN : 1 ≤ N) (hb : N ≤ 1000) :
 ∃ g c, v = .slice (some ⟨g, 0, none⟩) N c ∧ g < w.heap.size ∧ Calls Tryz.prog 48 #[v] w fun e w' => e = .returned (.tuple #[]) ∧ w'.ownsRow 0 9 1 v N (strs (sortedNames l)) ∧ Kept [g] w w' := by
 have hl : l.length = N := by have := hown.1; simpa [strs] using this
 have hcells : strs l = (l.map (·.data.toList)).map Proofs.encStr := (Lib.map_encStr l).symm
 rw [hcells] at hown
 have hown0 := hown
 rcases hown0.2 with ⟨_, h0⟩ | ⟨g0, cap0, cur, e0, _, hg, hn1, hn2, hn3, hn4⟩
 · omega
 obtain ⟨g, c, e1, _, hgl, hnc, hcm, hlen, hH⟩ := Lib.holds_of_ownsRow (enc := Proofs.encStr) hown (by rw [e0]; simp)
 rw [e0] at e1
 cases e1
 subst e0
 have hlen' : (l.map (·.data.toList)).length = N := by simpa using hl
 refine ⟨g0, cap0, rfl, hgl, ?_⟩
 have hc := Tryz.slices_Sort_string g0 0 cap0 (l.map (·.data.toList)) w hH hgl (by omega)
 rw [hlen'] at hc
 refine hc.mono ?_
 rintro e w' ⟨rfl, n, os, rfl⟩
 refine ⟨rfl, ?_, ?_⟩
 · have h1 := ownsRow_sorted (n := n) (os := os) (base := 0) (ss := l.map (·.data.toList)) (ts := (l.map (·.data.toList)).mergeSort fun x y => decide (x ≤ y)) (List.length_mergeSort _) (Nat.zero_le _) hg (by omega) hn2 hn3
   rw [hlen'] at h1
   have h2 : strs (sortedNames l) = ((l.map (·.data.toList)).mergeSort fun x y => decide (x ≤ y)).map Proofs.encStr := by
    unfold strs sortedNames
    rw [List.map_map]
    apply List.map_congr_left
    intro x _
    simp [Proofs.encStr]
   rw [h2]; exact h1
 · have hgb := grownBy_sorted (w := w) (g := g0) (n := n) (os := os) ((l.map (·.data.toList)).mergeSort fun x y => decide (x ≤ y)).toArray
   obtain ⟨h1, h2, h3, h4, h5⟩ := hgb
   exact ⟨h1, h2, h3, h4, fun k hk hs => h5 k hk (by simp at hs; simpa [Value.ownBlock] using hs)⟩
end
end Go.Proofs.YticcnlpfmekagaaGreat
