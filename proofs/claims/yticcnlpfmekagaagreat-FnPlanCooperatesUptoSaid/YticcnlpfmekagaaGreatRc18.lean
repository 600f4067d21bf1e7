/- Part 18 of the proof of the row: SrtB, Names. -/
import Derived.Test.YticcnlpfmekagaaGreatRc00
import Derived.Test.YticcnlpfmekagaaGreatRc15
import Derived.Test.YticcnlpfmekagaaGreatRc16
import Derived.Test.YticcnlpfmekagaaGreatRc17
import Derived.Test.YticcnlpfmekagaaGreatRc11
import Derived.Sort.OwnSorted
import Derived.Lib.OwnBridge
set_option linter.unusedVariables false
set_option linter.unusedSimpArgs false
set_option maxRecDepth 100000
set_option maxHeartbeats 8000000
namespace Go.Proofs.YticcnlpfmekagaaGreat
section
open Go Go.Proofs Go.RowKit Go.Lib
open Classical
theorem least_ex {P : Nat → Prop} (h : ∃ n, P n) : ∃ n, P n ∧ ∀ m, P m → n ≤ m := by
 obtain ⟨n, hn⟩ := h
 induction n using Nat.strongRecOn with
 | _ n ih =>
   by_cases h : ∃ m, m < n ∧ P m
   · obtain ⟨m, h1, h2⟩ := h
     exact ih m h1 h2
   · exact ⟨n, hn, fun m hm => Nat.le_of_not_lt fun h1 => h ⟨m, h1, hm⟩⟩
noncomputable def leastM (P : Nat → Prop) : Nat := if h : ∃ n, P n then Classical.choose (least_ex h) else 0
theorem leastM_spec {P : Nat → Prop} (h : ∃ n, P n) : P (leastM P) := by unfold leastM; rw [dif_pos h]; exact (Classical.choose_spec (least_ex h)).1
theorem leastM_le {P : Nat → Prop} {n : Nat} (h : P n) : leastM P ≤ n := by unfold leastM; rw [dif_pos ⟨n, h⟩]; exact (Classical.choose_spec (least_ex ⟨n, h⟩)).2 n h
theorem enc_snoc (L : List TP) (p : TP) : L.flatMap encTp ++ [.string p.1, .int .i32 p.2] = (L ++ [p]).flatMap encTp := by simp [encTp]
theorem perm_map_exists {α β : Type} (f : α → β) : ∀ (L : List β) (Q : List α), L.Perm (Q.map f) → ∃ Q' : List α, Q'.map f = L ∧ Q'.Perm Q := by
 intro L
 induction L with
 | nil =>
   intro Q h
   have := h.symm.eq_nil
   simp at this
   subst this
   exact ⟨[], rfl, .refl _⟩
 | cons b L ih =>
   intro Q h
   obtain ⟨a, ha, rfl⟩ := List.mem_map.1 (h.mem_iff.1 (List.mem_cons_self ..))
   obtain ⟨A, B, rfl⟩ := List.append_of_mem ha
   have h2 : L.Perm ((A ++ B).map f) := by
    have h3 : (f a :: L).Perm (f a :: ((A ++ B).map f)) := h.trans (by simp)
    exact List.Perm.cons_inv h3
   obtain ⟨Q', h4, h5⟩ := ih _ h2
   exact ⟨a :: Q', by simp [h4], (h5.cons a).trans List.perm_middle.symm⟩
def ItOf (B : List Rw) (x : It) (ts : List TP) : Prop :=
 ∃ (v : Value) (ps : List TP) (d : Nat), (x.2.1, v, ps) ∈ B ∧ ts = ps.drop d ∧ x.2.2.2.1 = ts.length ∧ x.2.2.2.1 ≤ x.2.2.2.2 ∧ (ts ≠ [] → ∃ g C, v = .slice (some ⟨g, 0, none⟩) ps.length C ∧ x.2.2.1 = some ⟨g, d * 2, none⟩)
section
variable {S : List Nat} {w0 w : World} {M R : List Res}
theorem St.join {X Y Z : Res} (h : St S w0 w (X :: Y :: M) R) (hz : X.holds w → Y.holds w → (∀ g ∈ X.foot, g ∉ Y.foot) → Z.holds w) (hf : ∀ g ∈ Z.foot, g ∈ X.foot ∨ g ∈ Y.foot) : St S w0 w (Z :: M) R := by
 have how : Ow w ([X, Y] ++ (M ++ R)) := h.ow
 have hd := List.pairwise_cons.1 how.left.dis
 have hs : ∀ g ∈ foots [Z], g ∈ foots [X, Y] := fun g hg => by
  simp only [foots_cons] at hg ⊢
  simp only [foots, List.flatMap_nil, List.append_nil] at hg ⊢
  rcases hf g hg with h1 | h1
  · exact List.mem_append_left _ h1
  · exact List.mem_append_right _ h1
 have h4 : St (foots [X, Y]) w w [Z] [] :=
  ⟨Kept.refl _ _, Ow.one (hz (h.m 0 rfl) (h.m 1 rfl) (hd.1 Y (by simp))) (fun g hg => how.left.lt g (hs g (by simpa [foots] using hg))), fun g hg => .inl (hs g hg)⟩
 exact St.call (M1 := [X, Y]) (M2 := M) h h4
theorem St.fromR {X : Res} (h : St S w0 w M R) (i : Nat) (hi : R[i]? = some X) (hx : ∀ g ∈ X.foot, g ∈ S ∨ w0.heap.size ≤ g) : St S w0 w (X :: M) (R.eraseIdx i) := by
 refine ⟨h.kept, ?_, fun g hg => ?_⟩
 · refine h.ow.perm ?_
   obtain ⟨A, B, rfl, rfl⟩ := split_at hi
   have e : (A ++ X :: B).eraseIdx A.length = A ++ B := by rw [List.eraseIdx_append_of_length_le (Nat.le_refl _)]; simp
   rw [e, List.cons_append]
   exact (List.Perm.append_left M List.perm_middle).trans List.perm_middle
 · rw [foots_cons] at hg
   rcases Zap.1 hg with hg | hg
   · exact hx g hg
   · exact h.turn g hg
theorem St.addIt {J : List It} {x : It} (h : St S w0 w (Rs.blk x.1 (.cells (itCells x) 414 (0, 0)) :: Rs.its J :: M) R) : St S w0 w (Rs.its (J ++ [x]) :: M) R := by
 refine h.join (fun h1 h2 h3 => ⟨fun y hy => ?_, ?_⟩) (fun g hg => ?_)
 · rcases Zap.1 hy with hy | hy
   · exact h2.1 y hy
   · simp at hy; subst hy; exact h1
 · rw [List.map_append, List.nodup_append]
   refine ⟨h2.2, by simp, fun a ha b hb e => ?_⟩
   simp at hb
   subst hb e
   exact h3 x.1 (by simp [Rs.blk]) ha
 · simp only [Rs.its, List.map_append, Zap, List.map_cons, List.map_nil, Zmc, Znn, or_false] at hg
   rcases hg with hg | hg
   · exact .inr hg
   · exact .inl (by simp [Rs.blk, hg])
theorem St.itsSub {J J' : List It} (i : Nat) (h : St S w0 w M R) (hi : M[i]? = some (Rs.its J)) (hs : ∃ J2, (J' ++ J2).Perm J) : St S w0 w (M.set i (Rs.its J')) R := by
 obtain ⟨J2, hp⟩ := hs
 refine h.weak i hi (fun hh => ⟨fun x hx => hh.1 x (hp.mem_iff.1 (List.mem_append_left _ hx)), ?_⟩) (fun g hg => ?_)
 · have := (hp.map Prod.fst).nodup_iff.2 hh.2
   rw [List.map_append] at this
   exact (List.nodup_append.1 this).1
 · obtain ⟨x, hx, rfl⟩ := List.mem_map.1 hg
   exact List.mem_map.2 ⟨x, hp.mem_iff.1 (List.mem_append_left _ hx), rfl⟩
theorem St.setIt {J : List It} {x : It} {a' : Option Addr} {n' c' : Nat} (i : Nat) (h : St S w0 w M R) (hi : M[i]? = some (Rs.its (x :: J))) :
 St S w0 (w.setCell ⟨x.1, 1, none⟩ (.slice a' n' c')) (M.set i (Rs.its ((x.1, x.2.1, a', n', c') :: J))) R := by
 refine h.set i hi (T := [x.1]) ((Kept.refl _ _).setCell _ (by simp)) (fun g hg _ => by simp at hg; subst hg; simp [Rs.its]) ?_ (fun g hg => .inl (by simpa [Rs.its] using hg))
 have h0 : (Rs.its (x :: J)).holds w := h.m i hi
 refine ⟨fun y hy => ?_, by simpa using h0.2⟩
 have hn : x.1 ∉ J.map Prod.fst := by have := h0.2; rw [List.map_cons, List.nodup_cons] at this; exact this.1
 rcases Zmc.1 hy with rfl | hy
 · have h1 := h0.1 x (List.mem_cons_self ..)
   simp [World.setCell, Array.getElem?_modify, h1, itCells]
 · have hne : x.1 ≠ y.1 := fun e => hn (e ▸ List.mem_map_of_mem hy)
   have h1 := h0.1 y (List.mem_cons_of_mem _ hy)
   simp [World.setCell, Array.getElem?_modify, hne, h1]
end
theorem elIt_info : (Tryz.prog.info? 412).map (fun i => (i.zero, i.size, i.bytes)) = some (some (.pointer none), 1, 8) := by kernel_rfl
theorem elIt : Elem Tryz.prog 411 412 1 8 (.pointer none) := ⟨Tryz.underlying411, info_parts elIt_info, rfl, by omega⟩
theorem ptrs_set {L : List It} {x : It} {u : Value} {rs : List Value} {k : Nat} (hk : L.length = k) : (ptrs L ++ u :: rs).set k (.pointer (some ⟨x.1, 0, none⟩)) = ptrs (L ++ [x]) ++ rs := by
 subst hk
 simp [ptrs, List.set_append]
theorem ptrs_at {L : List It} {u : Value} {rs : List Value} {k : Nat} (hk : L.length = k) : (ptrs L ++ u :: rs)[k]? = some u := by
 subst hk
 rw [List.getElem?_append_right (by simp [ptrs])]
 simp [ptrs]
theorem map_split {α β : Type} (f : α → β) : ∀ (L : List α) (l1 l2 : List β) (y : β), L.map f = l1 ++ y :: l2 → ∃ A x B, L = A ++ x :: B ∧ l1 = A.map f ∧ y = f x ∧ l2 = B.map f := by
 intro L l1 l2 y h
 obtain ⟨A, B', rfl, h1, h2⟩ := List.map_eq_append_iff.1 h
 obtain ⟨x, B, rfl, h3, h4⟩ := List.map_eq_cons_iff.1 h2
 exact ⟨A, x, B, rfl, h1.symm, h3.symm, h4.symm⟩
theorem Hq.startPop {b g n c : Nat} {J L : List It} {w : World} (h : Ow w ([qrow g n c L] ++ [Rs.its J, qbox b g n c])) (hs : ∀ x ∈ L, x ∈ J) (hn : n < 1000000000) : Hq (foots [qbox b g n c, qrow g n c L]) w b g n c J L w :=
 ⟨⟨Kept.refl _ _, h, fun x hx => .inl (by simp only [foots_cons] at hx ⊢; exact List.mem_append_right _ hx)⟩, hs, hn⟩
theorem win_cell {w : World} {r gx C d j : Nat} {B : List Rw} {m : ByteArray} {ps : List TP} {q : TP} (h : RowsAt w isStr r 384 2 (rowsT B)) (hm : (m, Value.slice (some ⟨gx, 0, none⟩) ps.length C, ps) ∈ B) (hq : (ps.drop d)[j]? = some q) :
 w.cell? ⟨gx, d * 2 + j * 2, none⟩ = some (.string q.1) ∧ w.cell? ⟨gx, d * 2 + j * 2 + 1, none⟩ = some (.int .i32 q.2) := by
 have hrow := (cur_row h hm).1
 simp only at hrow
 rw [List.getElem?_drop] at hq
 obtain ⟨g1, g2⟩ := tp_get hq
 have e : (d + j) * 2 = d * 2 + j * 2 := by omega
 rw [e] at g1 g2
 exact ⟨(own_cell hrow g1).1, (own_cell hrow g2).1⟩
theorem sub_len {α : Type} : ∀ {L K : List α}, L.Nodup → (∀ p ∈ L, p ∈ K) → L.length ≤ K.length := by
 intro L
 induction L with
 | nil => intro K _ _; simp
 | cons a L ih =>
   intro K hn hs
   obtain ⟨A, B, rfl⟩ := List.append_of_mem (hs a (List.mem_cons_self ..))
   rw [List.nodup_cons] at hn
   have := ih (K := A ++ B) hn.2 (fun p hp => by
    have h1 := hs p (List.mem_cons_of_mem _ hp)
    rcases Zap.1 h1 with h | h
    · exact List.mem_append_left _ h
    · rcases Zmc.1 h with rfl | h
      · exact absurd hp hn.1
      · exact List.mem_append_right _ h)
   simp only [List.length_cons, List.length_append] at *; omega
def Made (Dn : List Rw) (L : List It) : Prop := L.map (fun x => (x.2.1, Value.slice x.2.2.1 x.2.2.2.1 x.2.2.2.2)) = Dn.map (fun y => (y.1, y.2.1))
theorem Made.len {Dn : List Rw} {L : List It} (h : Made Dn L) : L.length = Dn.length := by simpa using congrArg List.length h
theorem Made.snoc {Dn : List Rw} {L : List It} (h : Made Dn L) (b : Nat) (m : ByteArray) (a : Option Addr) (n c : Nat) (ps : List TP) : Made (Dn ++ [(m, .slice a n c, ps)]) (L ++ [(b, m, a, n, c)]) := by
 unfold Made at *
 simp [h]
theorem made_queue {w : World} {r : Nat} {B : List Rw} (hr : RowsAt w isStr r 384 2 (rowsT B)) : ∀ (Dn : List Rw) (L : List It), Made Dn L → (∀ x ∈ Dn, x ∈ B) → ∃ Q : List (It × List TP), Q.map (·.1) = L ∧ Q.flatMap (·.2) = Dn.flatMap (·.2.2) ∧ ∀ z ∈ Q, ItOf B z.1 z.2 := by
 intro Dn
 induction Dn with
 | nil =>
   intro L h _
   have := h.len
   have h0 : L = [] := List.eq_nil_of_length_eq_zero (by simpa using this)
   subst h0
   exact ⟨[], rfl, rfl, by simp⟩
 | cons y Dn ih =>
   intro L h hB
   cases L with
   | nil => have := h.len; simp at this
   | cons x L =>
     simp only [Made, List.map_cons, List.cons.injEq, Prod.mk.injEq] at h
     obtain ⟨⟨h1, h2⟩, h3⟩ := h
     obtain ⟨Q, q1, q2, q3⟩ := ih L h3 (fun z hz => hB z (List.mem_cons_of_mem _ hz))
     have hy := hB y (List.mem_cons_self ..)
     obtain ⟨hrow, a, c, e⟩ := cur_row hr hy
     obtain ⟨b, m, xa, xn, xc⟩ := x
     simp only at h1 h2
     rw [e] at h2
     simp only [Value.slice.injEq] at h2
     obtain ⟨rfl, hn, rfl⟩ := h2
     have hn' : xn = y.2.2.length := by omega
     subst hn'
     refine ⟨((b, m, xa, y.2.2.length, xc), y.2.2) :: Q, by simp [q1], by simp [q2], fun z hz => ?_⟩
     rcases Zmc.1 hz with rfl | hz
     · obtain ⟨_, _, e2, e3⟩ := own_cap hrow
       rw [e] at e2
       simp only [Value.slice.injEq] at e2
       refine ⟨y.2.1, y.2.2, 0, ?_, by simp, rfl, by simp only; omega, fun hne => ?_⟩
       · simp only [h1]; exact hy
       · have h0 : 0 < y.2.2.length := List.length_pos_iff.2 hne
         obtain ⟨g, C, e4⟩ := own_some hrow h0
         rw [e] at e4
         simp only [Value.slice.injEq] at e4
         exact ⟨g, C, by rw [e, e4.1, e4.2.2], by simpa using e4.1⟩
     · exact q3 z hz
end
section
open Go Go.Proofs Go.RowKit Go.Sort
def sortedNames (l : List ByteArray) : List ByteArray := ((l.map (·.data.toList)).mergeSort fun x y => decide (x ≤ y)).map fun b => ⟨b.toArray⟩
theorem sortedNames_perm (l : List ByteArray) : (sortedNames l).Perm l := by
 unfold sortedNames
 have h := (List.mergeSort_perm (l.map (·.data.toList)) (fun x y => decide (x ≤ y))).map (fun b : List UInt8 => (⟨b.toArray⟩ : ByteArray))
 refine h.trans ?_
 rw [List.map_map]
 have : (fun b : List UInt8 => (⟨b.toArray⟩ : ByteArray)) ∘ (fun x : ByteArray => x.data.toList) = id := by funext x; simp
 rw [this, List.map_id]
theorem sort_names (v : Value) (N : Nat) (l : List ByteArray) (w : World) (hown : w.ownsRow 0 9 1 v N (strs l)) (hN : 1 ≤ N) (hb : N ≤ 1000) :
 ∃ g c, v = .slice (some ⟨g, 0, none⟩) N c ∧ g < w.heap.size ∧ Calls Tryz.prog 48 #[v] w fun e w' => e = .returned (.tuple #[]) ∧ w'.ownsRow 0 9 1 v N (strs (sortedNames l)) ∧ Kept [g] w w' := by
 have hl : l.length = N := by have := hown.1; simpa [strs] using this
 have hcells : strs l = (l.map (·.data.toList)).map Proofs.encStr := (Lib.map_encStr l).symm
 rw [hcells] at hown
 have hown0 := hown
 rcases hown0.2 with ⟨_, h0⟩ | ⟨g0, cap0, cur, e0, _, hg, hn1, hn2, hn3, hn4⟩
 · omega
 obtain ⟨g, c, e1, _, hgl, hnc, hcm, hlen, hH⟩ := Lib.holds_of_ownsRow (enc := Proofs.encStr) hown (by rw [e0]; simp)
 rw [e0] at e1
 cases e1
 subst e0
 have hlen' : (l.map (·.data.toList)).length = N := by simpa using hl
 refine ⟨g0, cap0, rfl, hgl, ?_⟩
 have hc := Tryz.slices_Sort_string g0 0 cap0 (l.map (·.data.toList)) w hH hgl (by omega)
 rw [hlen'] at hc
 refine hc.mono ?_
 rintro e w' ⟨rfl, n, os, rfl⟩
 refine ⟨rfl, ?_, ?_⟩
 · have h1 := ownsRow_sorted (n := n) (os := os) (base := 0) (ss := l.map (·.data.toList)) (ts := (l.map (·.data.toList)).mergeSort fun x y => decide (x ≤ y)) (List.length_mergeSort _) (Nat.zero_le _) hg (by omega) hn2 hn3
   rw [hlen'] at h1
   have h2 : strs (sortedNames l) = ((l.map (·.data.toList)).mergeSort fun x y => decide (x ≤ y)).map Proofs.encStr := by
    unfold strs sortedNames
    rw [List.map_map]
    apply List.map_congr_left
    intro x _
    simp [Proofs.encStr]
   rw [h2]; exact h1
 · have hgb := grownBy_sorted (w := w) (g := g0) (n := n) (os := os) ((l.map (·.data.toList)).mergeSort fun x y => decide (x ≤ y)).toArray
   obtain ⟨h1, h2, h3, h4, h5⟩ := hgb
   exact ⟨h1, h2, h3, h4, fun k hk hs => h5 k hk (by simp at hs; simpa [Value.ownBlock] using hs)⟩
end
end Go.Proofs.YticcnlpfmekagaaGreat
