/- Part 12 of the proof of the row: Ids, Deal, Holds, Shows. -/
import Derived.Test.YticcnlpfmekagaaGreatRc00
import Derived.Test.YticcnlpfmekagaaGreatRc08
import Derived.Test.YticcnlpfmekagaaGreatRc09
import Derived.Test.YticcnlpfmekagaaGreatRc10
import Derived.Test.YticcnlpfmekagaaGreatRc11
import Derived.Test.YticcnlpfmekagaaGreatRc06
set_option linter.unusedVariables false
set_option linter.unusedSimpArgs false
set_option maxRecDepth 100000
set_option maxHeartbeats 8000000
namespace Go.Proofs.YticcnlpfmekagaaGreat
section
open Go Go.Proofs Go.RowKit Go.Lib
open Classical
theorem idLt_asy (a b : ByteArray × Nat) (h : idLt a b = true) : ¬ idLt b a = true := by
 unfold idLt at *
 by_cases h1 : a.2 = b.2
 · rw [if_pos h1] at h
   rw [if_pos h1.symm]
   intro h2
   have h3 := topLt_swo.trans a.1 b.1 a.1 h h2
   rw [topLt_swo.irrefl] at h3
   cases h3
 · rw [if_neg h1] at h
   rw [if_neg (Ne.symm h1)]
   simp at *; omega
theorem idLt_tra (a b c : ByteArray × Nat) (h1 : ¬ idLt b a = true) (h2 : ¬ idLt c b = true) : ¬ idLt c a = true := by
 unfold idLt at *
 by_cases e1 : b.2 = a.2
 · by_cases e2 : c.2 = b.2
   · rw [if_pos e1] at h1
     rw [if_pos e2] at h2
     rw [if_pos (e2.trans e1)]
     have := topLt_swo.ntrans c.1 b.1 a.1 (by simpa [topLt] using h2) (by simpa [topLt] using h1)
     simpa [topLt] using this
   · rw [if_neg e2] at h2
     rw [if_neg (by omega)]
     simp at *; omega
 · rw [if_neg e1] at h1
   by_cases e2 : c.2 = b.2
   · rw [if_neg (by omega)]
     simp at *; omega
   · rw [if_neg e2] at h2
     rw [if_neg (by simp at *; omega)]
     simp at *; omega
def nameOf : Value → ByteArray | .string s => s | _ => ⟨#[]⟩
def lenOf : Value → Nat | .slice _ n _ => n | _ => 0
def loadsOf (l : List (Value × Value)) : List (ByteArray × Nat) := l.map fun p => (nameOf p.1, lenOf p.2)
def SlVal (p : Value × Value) : Prop := ∃ s a n c, p = (.string s, .slice a n c) ∧ n ≤ 1000000000
def names (L : List (ByteArray × Nat)) : List Value := strs (L.map (·.1))
theorem names_len (L : List (ByteArray × Nat)) : (names L).length = L.length := by simp [names, strs]
theorem names_get {L : List (ByteArray × Nat)} {j : Nat} (hj : j < L.length) : (names L)[j]? = some (.string L[j].1) := by simp [names, strs, hj]
def IdsInv (w : World) (g n c B A r : Nat) (l : List (Value × Value)) (L : List (ByteArray × Nat)) (wr : World) : Prop :=
 L.length = n ∧ (∀ x ∈ L, ∃ a c, (.string x.1, .slice a x.2 c) ∈ l ∧ x.2 ≤ 1000000000) ∧
 St [] w wr [Rs.blk B (.cells #[.slice (some ⟨g, 0, none⟩) n c] 27 (0, 0)), Rs.row 9 1 (.slice (some ⟨g, 0, none⟩) n c) n (names L), Rs.blk A (.cells #[.map (some r)] 378 (0, 0))] [Rs.map r isStr l]
theorem names_set {L : List (ByteArray × Nat)} {i j : Nat} (hi : i < L.length) (hj : j < L.length) : ((names L).set i (.string L[j].1)) = names (L.set i L[j]) := by
 simp [names, strs, List.map_set]
theorem ids_zz (w : World) (g n c B A r : Nat) (l : List (Value × Value)) (hn : n < 1000000000) :
 ZzOk 245 246 #[.pointer (some ⟨B, 0, none⟩)] #[.pointer (some ⟨A, 0, none⟩), .pointer (some ⟨B, 0, none⟩)] n idLt (IdsInv w g n c B A r l) where
 len := fun L wr h => h.1
 swap := fun L wr j h0 hj ⟨hl, hx, hst⟩ => by
  have hc := (hst.cell1 0 rfl).1
  have hrow : wr.ownsRow 0 9 1 (.slice (some ⟨g, 0, none⟩) n c) n (names L) := hst.m 1 rfl
  have hj1 : j - 1 < L.length := by omega
  obtain ⟨c1, f1⟩ := own_cell hrow (names_get hj)
  obtain ⟨c2, f2⟩ := own_cell hrow (names_get hj1)
  have hne : B ≠ g := by
   have := hst.ow.dis
   simp only [List.cons_append, List.nil_append, List.pairwise_cons] at this
   have h1 := this.1 (Rs.row 9 1 (.slice (some ⟨g, 0, none⟩) n c) n (names L)) (by simp) B (by simp [Rs.blk])
   simpa [Rs.row, Value.ownBlock] using h1
  have h := swap_ids B g 0 n c wr L[j].1 L[j-1].1 j (j-1) (by omega) (by omega) (by omega) hc hne (by simpa using c1) (by simpa using c2) (by simpa using f1) (by simpa using f2)
  have e : ((j - 1 : Nat) : Int) = (j : Int) - 1 := by omega
  rw [e] at h
  refine h.mono ?_
  rintro e w' ⟨rfl, q, rfl⟩
  rw [Nat.zero_add, Nat.zero_add]
  refine ⟨rfl, by simpa using hl, fun x hx' => ?_, ?_⟩
  · have hp : x ∈ L := by
     have := (perm_swap h0 hj).mem_iff (a := x)
     exact this.1 hx'
    exact hx x hp
  · have r1 := own_set hrow (j := j) (by rw [names_len]; omega) (.string L[j-1].1)
    have r2 := own_set r1 (j := j - 1) (by simp [names_len]; omega) (.string L[j].1)
    rw [names_set hj hj1] at r2
    have e2 : (names (L.set j L[j-1])).set (j-1) (.string L[j].1) = names ((L.set j L[j-1]).set (j-1) L[j]) := by simp [names, strs, List.map_set]
    rw [e2] at r2
    refine (hst.set 1 rfl (T := [g]) (X' := Rs.row 9 1 (.slice (some ⟨g, 0, none⟩) n c) n (names ((L.set j L[j-1]).set (j-1) L[j]))) (((Kept.refl _ _).setCell _ (by simp)).setCell _ (by simp)) (by simp [Rs.row, Value.ownBlock]) r2 (fun g hg => .inl hg)).drewN q
 less := fun L wr j h0 hj ⟨hl, hx, hst⟩ => by
  have hB := (hst.cell1 0 rfl).1
  have hA := (hst.cell1 2 rfl).1
  have hrow : wr.ownsRow 0 9 1 (.slice (some ⟨g, 0, none⟩) n c) n (names L) := hst.m 1 rfl
  have hj1 : j - 1 < L.length := by omega
  obtain ⟨c1, f1⟩ := own_cell hrow (names_get hj)
  obtain ⟨c2, f2⟩ := own_cell hrow (names_get hj1)
  obtain ⟨a1, k1, m1, b1⟩ := hx L[j] (by simp)
  obtain ⟨a2, k2, m2, b2⟩ := hx L[j-1] (by simp)
  have h := less_ids A B g 0 n c r l wr L[j].1 L[j-1].1 a1 a2 L[j].2 L[j-1].2 k1 k2 j (j-1) (by omega) (by omega) (by omega) b1 b2 hA hB (by simpa using c1) (by simpa using c2) (hst.r 0 rfl) m1 m2
  have e : ((j - 1 : Nat) : Int) = (j : Int) - 1 := by omega
  rw [e] at h
  refine h.mono ?_
  rintro e w' ⟨rfl, q, rfl⟩
  exact ⟨rfl, hl, hx, hst.drewN q⟩
theorem body245 : HasBody 245 := by unfold HasBody; intro a w; kernel_rfl
theorem body246 : HasBody 246 := by unfold HasBody; intro a w; kernel_rfl
theorem new_str (w : World) (x : Value) (h : x.oneCell' = true) : SlAt (w.alloc (.cells #[x] 9)) 1 (.slice (some ⟨w.heap.size, 0, none⟩) 1 1) 1 [x] := new_slN w 9 1 1 [x] rfl (by decide) (by simpa using h)
theorem sort_ids (r : Nat) (l : List (Value × Value)) (w : World) (hm : MapAt w isStr r l) (hl : l.length ≤ 1000000) (hv : ∀ p ∈ l, SlVal p) :
 Calls Tryz.prog 232 #[.map (some r)] w fun e w' => ∃ g c L, e = .returned (.slice (some ⟨g, 0, none⟩) l.length c) ∧ L.Perm (loadsOf l) ∧ L.Pairwise (fun a b => ¬ idLt b a = true) ∧
  St [] w w' [Rs.row 9 1 (.slice (some ⟨g, 0, none⟩) l.length c) l.length (names L)] [] := by
 have hst0 : St [] w w [] [Rs.map r isStr l] := St.start0 (Ow.one hm (by simpa [Rs.map] using hm.lt))
 have HV := Zhd hv; clear hv
 go_enter Tryz.func232, Tryz.ntmps232
 go_wp2_with (first
  | (refine wl_len rfl rfl rfl Tryz.underlying378 ((hst0.blk _).r 0 rfl) ?_)
  | (refine wl_mkslice l.length rfl rfl rfl rfl elStr (hst0.blk _) (by omega) (by unfold maxLen; omega) ?_
     intro g w1 hst1 hg
     have cA : ∀ o, (w1.alloc o).cell? ⟨w.heap.size, 0, none⟩ = some (.map (some r)) := fun o => ca (hst1.cell1 1 rfl).1)
  | (refine wl_rngR 0 rfl rfl rfl Tryz.underlying378 (hst1.blk _) rfl (by simp [Rs.map]) ((hst1.blk _).r 0 rfl) ?_
     intro it w2 hst2 hit)
  | fail)
 simp only [Zs0] at hst2
 have hfit : w.heap.size ≤ it := by have h1 := hst1.size; simp at hit; omega
 have HFIT := Zhd hfit; clear hfit
 clear cA hg hit hst1 hst0 hm
 generalize w1.heap.size = B at hst2 ⊢
 generalize w.heap.size = A at hst2 ⊢
 go_frame
 go_loopw [4] (fun _ wr => ∃ (dn lf : List (Value × Value)) (g c : Nat), (dn ++ lf).Perm l ∧
  St [] w wr [Rs.blk B (.cells #[.slice (some ⟨g, 0, none⟩) dn.length c] 27 (0, 0)), Rs.row 9 1 (.slice (some ⟨g, 0, none⟩) dn.length c) dn.length (strs (dn.map fun p => nameOf p.1)), Rs.blk A (.cells #[.map (some r)] 378 (0, 0))] [Rs.it (Rs.map r isStr l) r l lf it (by simp [Rs.map])]) (fun _ wr => leftOf wr it r)
 case atStart => exact ⟨[], l, g, l.length, List.Perm.refl _, hst2⟩
 case round =>
  obtain ⟨dn, lf, g', c', hperm, hst⟩ := hrel
  have hlen := hperm.length_eq
  simp only [List.length_append] at hlen
  by_cases hlf : lf = []
  · subst hlf
    have hB : ∀ w', Kept [] wr w' → w'.cell? ⟨B, 0, none⟩ = some (.slice (some ⟨g', 0, none⟩) dn.length c') := fun w' k => k.cell (hst.cell1 0 rfl).1 (by simp)
    have hB0 := hB wr (Kept.refl _ _)
    have hit0 := (hst.r 0 rfl).2.1
    go_wp2_with (first | (refine wl_nx0 rfl rfl rfl hit0 ?_) | fail)
    have hst5 := hst.weakR 0 rfl (X' := Rs.map r isStr l) (fun h => h.1) (fun g hg => by simp [Rs.it, hg])
    simp only [Zs0] at hst5
    simp only [List.append_nil] at hperm
    have hdl : dn.length = l.length := hperm.length_eq
    have hI : IdsInv w g' dn.length c' B A r l (loadsOf dn) wr := by
     refine ⟨by simp [loadsOf], fun x hx => ?_, ?_⟩
     · obtain ⟨p, hp, rfl⟩ := List.mem_map.1 hx
       have hp' := hperm.mem_iff.1 hp
       obtain ⟨s, a, n, c, rfl, hn⟩ := HV.out p hp'
       exact ⟨a, c, hp', hn⟩
     · have e : names (loadsOf dn) = strs (dn.map fun p => nameOf p.1) := by simp [names, loadsOf, Function.comp_def]
       rw [e]; exact hst5
    have hz := zz_sort 245 246 _ _ dn.length idLt _ (ids_zz w g' dn.length c' B A r l (by omega)) body245 body246 (by omega) idLt_asy idLt_tra (loadsOf dn) wr hI
    refine hz.mono ?_
    rintro e w3 ⟨rfl, L, hp, ⟨hL1, hL2, hst6⟩, hsorted⟩
    obtain ⟨cB, fB⟩ := hst6.cell1 0 rfl
    have hfin : ∃ g c L, Ending.returned (Value.slice (some ⟨g', 0, none⟩) dn.length c') = .returned (.slice (some ⟨g, 0, none⟩) l.length c) ∧ L.Perm (loadsOf l) ∧ L.Pairwise (fun a b => ¬ idLt b a = true) ∧
     St [] w w3 [Rs.row 9 1 (.slice (some ⟨g, 0, none⟩) l.length c) l.length (names L)] [] := by
     refine ⟨g', c', L, by rw [hdl], hp.trans (hperm.map _), hsorted, ?_⟩
     rw [← hdl]
     exact ((hst6.drop 2).drop 0).dropR 0
    have HF := Zhd hfin; clear hfin hst6 hst5 hst hz hI hp hsorted hL1 hL2 hdl
    go_wp2_with fail
    go_ret
    exact HF.out
  · have hB : ∀ w', Kept [] wr w' → w'.cell? ⟨B, 0, none⟩ = some (.slice (some ⟨g', 0, none⟩) dn.length c') := fun w' k => k.cell (hst.cell1 0 rfl).1 (by simp)
    have HL := Zhd hperm; clear hperm
    go_wp2_with (first
     | (refine wl_nx1R 0 (by simp [Rs.map]) rfl rfl rfl hst rfl hlf HFIT.out ?_
        intro k v l1 l2 w2 hsp hst2 hent
        simp only [Zs0] at hst2
        obtain ⟨s, a, n, c, hkv, hn⟩ := HV.out (k, v) (HL.out.mem_iff.1 (by rw [hsp]; simp))
        obtain ⟨rfl, rfl⟩ := Prod.mk.inj hkv
        obtain ⟨cB, fB⟩ := hst2.cell1 0 rfl
        have HSP := Zhd hsp; clear hsp hkv)
     | (refine wl_entry rfl rfl rfl hent ?_)
     | (refine wl_build1 (x := .string s) rfl rfl rfl (build_str s _) ?_)
     | (refine wl_push 1 rfl rfl elStr rfl rfl (hst2.alloc _) rfl ((new_str _ _ rfl).src Tryz.underlying27) (by omega) (by omega) ?_
        intro v' w3 hst3
        simp only [Zs1, Zs0] at hst3
        obtain ⟨g3, c3, rfl⟩ := own_some (hst3.m 1 rfl) (by omega)
        obtain ⟨cB3, fB3⟩ := hst3.cell1 0 rfl)
     | fail)
    have hst4 := hst3.store1 0 rfl (.slice (some ⟨g3, 0, none⟩) (dn.length + 1) c3)
    simp only [Zs0] at hst4
    refine ⟨⟨dn ++ [(.string s, .slice a n c)], l1 ++ l2, g3, c3, ?_, ?_⟩, ?_⟩
    · refine List.Perm.trans ?_ HL.out
      rw [HSP.out, List.append_assoc]
      refine List.Perm.append_left _ ?_
      exact (List.perm_middle (a := ((.string s, .slice a n c) : Value × Value)) (l₁ := l1) (l₂ := l2)).symm
    · simpa [strs, nameOf] using hst4
    · rw [(hst4.r 0 rfl).2.1.leftOf, (hst.r 0 rfl).2.1.leftOf, HSP.out]
      simp
end
section
open Go Go.RowKit
def Near (l : List Nat) : Prop := ∀ x ∈ l, ∀ y ∈ l, x ≤ y + 1
theorem Near.perm {l m : List Nat} (h : Near l) (p : m.Perm l) : Near m := fun x hx y hy => h x (p.mem_iff.1 hx) y (p.mem_iff.1 hy)
section
variable {κ α : Type}
structure Dealt (A0 : List (κ × List α)) (ps : List α) (A : List (κ × List α)) : Prop where
 keys : A.map (·.1) = A0.map (·.1)
 sub : ∀ k xs, (k, xs) ∈ A0 → ∃ ys, (k, xs ++ ys) ∈ A
 perm : (A.flatMap (·.2)).Perm (A0.flatMap (·.2) ++ ps)
 near : Near (A0.map (·.2.length)) → Near (A.map (·.2.length))
theorem Dealt.refl (A0 : List (κ × List α)) : Dealt A0 [] A0 := ⟨rfl, fun k xs h => ⟨[], by simpa using h⟩, by simp, fun h => h⟩
theorem Dealt.step {A0 : List (κ × List α)} {ps : List α} {A B : List (κ × List α)} {k : κ} {xs : List α} (p : α) (h : Dealt A0 ps (A ++ (k, xs) :: B)) (hmin : ∀ r ∈ A ++ (k, xs) :: B, xs.length ≤ r.2.length) :
 Dealt A0 (ps ++ [p]) (A ++ (k, xs ++ [p]) :: B) := by
 refine ⟨by rw [← h.keys]; simp, fun k' ys hk => ?_, ?_, fun h0 => ?_⟩
 · obtain ⟨zs, hz⟩ := h.sub k' ys hk
   rcases Zap.1 hz with hz | hz
   · exact ⟨zs, by simp [hz]⟩
   · rcases Zmc.1 hz with hz | hz
     · obtain ⟨rfl, rfl⟩ := Prod.mk.inj hz
       exact ⟨zs ++ [p], by simp⟩
     · exact ⟨zs, by simp [hz]⟩
 · have h1 := h.perm
   simp only [List.flatMap_append, List.flatMap_cons] at h1 ⊢
   have h2 : (A.flatMap (·.2) ++ ((xs ++ [p]) ++ B.flatMap (·.2))).Perm ((A.flatMap (·.2) ++ (xs ++ B.flatMap (·.2))) ++ [p]) := by
    simp only [List.append_assoc]
    refine (List.Perm.append_left _ (List.Perm.append_left _ ?_))
    exact List.perm_append_comm
   refine h2.trans ?_
   have h3 := h1.append_right [p]
   simpa only [List.append_assoc] using h3
 · have h1 := h.near h0
   have hm : ∀ y ∈ (A ++ (k, xs) :: B).map (·.2.length), xs.length ≤ y ∧ y ≤ xs.length + 1 := by
    intro y hy
    refine ⟨?_, h1 y hy xs.length (by simp)⟩
    obtain ⟨r, hr, rfl⟩ := List.mem_map.1 hy
    exact hmin r hr
   have hall : ∀ y ∈ (A ++ (k, xs ++ [p]) :: B).map (·.2.length), xs.length ≤ y ∧ y ≤ xs.length + 1 := by
    intro y hy
    simp only [List.map_append, List.map_cons, Zap, Zmc] at hy
    rcases hy with hy | rfl | hy
    · exact hm y (by simp only [List.map_append, List.map_cons, Zap, Zmc]; exact .inl hy)
    · simp
    · exact hm y (by simp only [List.map_append, List.map_cons, Zap, Zmc]; exact .inr (.inr hy))
   intro x hx y hy
   have := hall x hx
   have := hall y hy
   omega
end
end
section
open Go Go.RowKit
open Classical
abbrev Tr := ByteArray × ByteArray × List Int
def Holds (S : List Tr) (m t : ByteArray) (p : Int) : Prop := ∃ ps, (m, t, ps) ∈ S ∧ p ∈ ps
noncomputable def holderT : List Tr → ByteArray → Int → Option ByteArray
 | [], _, _ => none
 | x :: S, t, p => if x.2.1 = t ∧ p ∈ x.2.2 then some x.1 else holderT S t p
theorem holderT_holds {S : List Tr} {m t : ByteArray} {p : Int} (h : holderT S t p = some m) : Holds S m t p := by
 induction S with
 | nil => cases h
 | cons x S ih =>
   obtain ⟨xm, xt, xp⟩ := x
   unfold holderT at h
   split at h
   · rename_i hc
     simp only [Option.some.injEq] at h hc
     obtain ⟨rfl, hp⟩ := hc
     subst h
     exact ⟨xp, by simp, hp⟩
   · obtain ⟨ps, h1, h2⟩ := ih h
     exact ⟨ps, by simp [h1], h2⟩
theorem holderT_some {S : List Tr} {m t : ByteArray} {p : Int} (h : Holds S m t p) : ∃ m', holderT S t p = some m' := by
 induction S with
 | nil => obtain ⟨ps, h1, _⟩ := h; cases h1
 | cons x S ih =>
   unfold holderT
   split
   · exact ⟨_, rfl⟩
   · rename_i hc
     obtain ⟨ps, h1, h2⟩ := h
     rcases Zmc.1 h1 with h1 | h1
     · subst h1; exact absurd ⟨rfl, h2⟩ hc
     · exact ih ⟨ps, h1, h2⟩
def OneT (S : List Tr) : Prop := ∀ m m' t p, Holds S m t p → Holds S m' t p → m = m'
theorem holderT_eq {S : List Tr} {m t : ByteArray} {p : Int} (h1 : OneT S) (h : Holds S m t p) : holderT S t p = some m := by
 obtain ⟨m', h2⟩ := holderT_some h
 rw [h2, h1 m' m t p (holderT_holds h2) h]
noncomputable def keptT (m : ByteArray) (a b : List Tr) : Bool := a.all fun x => decide (x.1 ≠ m) || x.2.2.all fun p => decide (holderT b x.2.1 p = some m)
theorem keptT_of {m : ByteArray} {a b : List Tr} (h1 : OneT b) (h : ∀ t p, Holds a m t p → Holds b m t p) : keptT m a b = true := by
 unfold keptT
 refine List.all_eq_true.2 fun x hx => ?_
 obtain ⟨xm, xt, xp⟩ := x
 by_cases e : xm = m
 · subst e
   simp only [ne_eq, not_true_eq_false, decide_false, Bool.false_or]
   refine List.all_eq_true.2 fun p hp => ?_
   simpa using holderT_eq h1 (h xt p ⟨xp, hx, hp⟩)
 · simp [e]
def flatT (S : List Tr) : List (ByteArray × Int) := S.flatMap fun x => x.2.2.map fun p => (x.2.1, p)
theorem flatT_mem {S : List Tr} {t : ByteArray} {p : Int} : (t, p) ∈ flatT S ↔ ∃ m, Holds S m t p := by
 unfold flatT Holds
 simp only [List.mem_flatMap, List.mem_map, Prod.mk.injEq]
 constructor
 · rintro ⟨⟨m, t', ps⟩, hx, p', hp, rfl, rfl⟩; exact ⟨m, ps, hx, hp⟩
 · rintro ⟨m, ps, hx, hp⟩; exact ⟨_, hx, p, hp, rfl, rfl⟩
theorem oneT_of {S : List Tr} (h : (flatT S).Nodup) : OneT S := by
 induction S with
 | nil => rintro m m' t p ⟨ps, h1, _⟩; cases h1
 | cons x S ih =>
   unfold flatT at h
   rw [List.flatMap_cons, List.nodup_append] at h
   obtain ⟨h1, h2, h3⟩ := h
   have ih' := ih h2
   intro m m' t p ha hb
   obtain ⟨ps, ha, hp⟩ := ha
   obtain ⟨qs, hb, hq⟩ := hb
   rcases Zmc.1 ha with ha' | ha' <;> rcases Zmc.1 hb with hb' | hb' <;> clear ha hb
   · subst ha'; exact (Prod.mk.inj hb').1.symm
   · subst ha'
     exact absurd rfl (h3 (t, p) (List.mem_map.2 ⟨p, hp, rfl⟩) (t, p) (flatT_mem.2 ⟨m', qs, hb', hq⟩))
   · subst hb'
     exact absurd rfl (h3 (t, p) (List.mem_map.2 ⟨p, hq, rfl⟩) (t, p) (flatT_mem.2 ⟨m, ps, ha', hp⟩))
   · exact ih' m m' t p ⟨ps, ha', hp⟩ ⟨qs, hb', hq⟩
abbrev Asg := List (ByteArray × List (ByteArray × Int))
def Has (A : Asg) (m : ByteArray) (x : ByteArray × Int) : Prop := ∃ xs, (m, xs) ∈ A ∧ x ∈ xs
def loads (A : Asg) : List Nat := A.map (·.2.length)
def allOf (A : Asg) : List (ByteArray × Int) := A.flatMap (·.2)
theorem allOf_mem {A : Asg} {x : ByteArray × Int} : x ∈ allOf A ↔ ∃ m, Has A m x := by
 unfold allOf Has
 simp only [List.mem_flatMap]
 constructor
 · rintro ⟨⟨m, xs⟩, h1, h2⟩; exact ⟨m, xs, h1, h2⟩
 · rintro ⟨m, xs, h1, h2⟩; exact ⟨_, h1, h2⟩
theorem has_one {A : Asg} (h : (allOf A).Nodup) {m m' : ByteArray} {x : ByteArray × Int} (h1 : Has A m x) (h2 : Has A m' x) : m = m' := by
 induction A with
 | nil => obtain ⟨xs, h1, _⟩ := h1; cases h1
 | cons r A ih =>
   unfold allOf at h
   rw [List.flatMap_cons, List.nodup_append] at h
   obtain ⟨g1, g2, g3⟩ := h
   obtain ⟨xs, h1, hx⟩ := h1
   obtain ⟨ys, h2, hy⟩ := h2
   rcases Zmc.1 h1 with h1' | h1' <;> rcases Zmc.1 h2 with h2' | h2' <;> clear h1 h2
   · subst h1'; exact (Prod.mk.inj h2').1.symm
   · subst h1'; exact absurd rfl (g3 x hx x (allOf_mem.2 ⟨m', ys, h2', hy⟩))
   · subst h2'; exact absurd rfl (g3 x hy x (allOf_mem.2 ⟨m, xs, h1', hx⟩))
   · exact ih g2 ⟨xs, h1', hx⟩ ⟨ys, h2', hy⟩
structure Shows (S : List Tr) (A : Asg) : Prop where
 iff : ∀ m t p, Holds S m t p ↔ Has A m (t, p)
 perm : (flatT S).Perm (allOf A)
 count : ∀ m xs, (m, xs) ∈ A → ((S.filter fun x => decide (x.1 = m)).map (·.2.2.length)).sum = xs.length
 mems : ∀ x ∈ S, ∃ xs, (x.1, xs) ∈ A
end
section
open Go Go.RowKit
open Classical
theorem perm_flatMap {β γ : Type} {f g : β → List γ} : ∀ (l : List β), (∀ a ∈ l, (f a).Perm (g a)) → (l.flatMap f).Perm (l.flatMap g)
 | [], _ => List.Perm.refl _
 | a :: l, h => by
   rw [List.flatMap_cons, List.flatMap_cons]
   exact (h a (by simp)).append (perm_flatMap l fun b hb => h b (by simp [hb]))
theorem flatT_append (S T : List Tr) : flatT (S ++ T) = flatT S ++ flatT T := by simp [flatT]
theorem flatT_length (S : List Tr) : (flatT S).length = (S.map (·.2.2.length)).sum := by
 induction S with
 | nil => rfl
 | cons x S ih => rw [show x :: S = [x] ++ S from rfl, flatT_append, List.length_append, ih]; simp [flatT]
theorem flatT_flatMap {β : Type} (Z : List β) (f : β → List Tr) : flatT (Z.flatMap f) = Z.flatMap fun z => flatT (f z) := by
 induction Z with
 | nil => rfl
 | cons z Z ih => rw [List.flatMap_cons, flatT_append, ih]; rfl
noncomputable def rowOf (A : Asg) (m : ByteArray) : List (ByteArray × Int) := ((A.find? fun r => decide (r.1 = m)).map (·.2)).getD []
theorem rowOf_mem {A : Asg} {m : ByteArray} {xs : List (ByteArray × Int)} (hn : (A.map (·.1)).Nodup) (h : (m, xs) ∈ A) : rowOf A m = xs := by
 induction A with
 | nil => cases h
 | cons r A ih =>
   simp only [List.map_cons, List.nodup_cons] at hn
   unfold rowOf
   rw [List.find?_cons]
   rcases Zmc.1 h with h | h
   · subst h; simp
   · have hne : r.1 ≠ m := fun e => hn.1 (e ▸ List.mem_map_of_mem (f := (·.1)) h)
     simp only [hne, decide_false]
     exact ih hn.2 h
theorem rowOf_self {A : Asg} (hn : (A.map (·.1)).Nodup) : A.map (fun r => rowOf A r.1) = A.map (·.2) := by
 refine List.map_congr_left fun r hr => ?_
 exact rowOf_mem hn (show (r.1, r.2) ∈ A from hr)
theorem shows_zip (Z : List (ByteArray × List Tr)) (A : Asg) (hA : (A.map (·.1)).Nodup) (hk : (Z.map (·.1)).Perm (A.map (·.1)))
 (h : ∀ z ∈ Z, (∀ x ∈ z.2, x.1 = z.1) ∧ ∃ xs, (z.1, xs) ∈ A ∧ (flatT z.2).Perm xs) : Shows (Z.flatMap (·.2)) A := by
 have hZ : (Z.map (·.1)).Nodup := hk.nodup_iff.2 hA
 have hg : ∀ z ∈ Z, (flatT z.2).Perm (rowOf A z.1) := fun z hz => by
  obtain ⟨_, xs, h1, h2⟩ := h z hz
  rw [rowOf_mem hA h1]; exact h2
 refine ⟨fun m t p => ⟨?_, ?_⟩, ?_, ?_, ?_⟩
 · rintro ⟨ps, hm, hp⟩
   obtain ⟨z, hz, hx⟩ := List.mem_flatMap.1 hm
   obtain ⟨h1, xs, h2, h3⟩ := h z hz
   have e := h1 _ hx
   simp only at e
   refine ⟨xs, by rw [e]; exact h2, h3.mem_iff.1 (flatT_mem.2 ⟨m, ps, hx, hp⟩)⟩
 · rintro ⟨xs, hm, hp⟩
   have hmem : m ∈ Z.map (·.1) := hk.mem_iff.2 (List.mem_map.2 ⟨_, hm, rfl⟩)
   obtain ⟨z, hz, rfl⟩ := List.mem_map.1 hmem
   have h3 := hg z hz
   rw [rowOf_mem hA hm] at h3
   obtain ⟨m', ps, hx, hp⟩ := flatT_mem.1 (h3.mem_iff.2 hp)
   have e := (h z hz).1 _ hx
   simp only at e
   subst e
   exact ⟨ps, List.mem_flatMap.2 ⟨z, hz, hx⟩, hp⟩
 · rw [flatT_flatMap]
   have h1 : (Z.flatMap fun z => flatT z.2).Perm (Z.flatMap fun z => rowOf A z.1) := perm_flatMap _ hg
   have h2 : (Z.flatMap fun z => rowOf A z.1) = (Z.map (·.1)).flatMap (rowOf A) := by rw [List.flatMap_map]
   have h3 : ((Z.map (·.1)).flatMap (rowOf A)).Perm ((A.map (·.1)).flatMap (rowOf A)) := hk.flatMap_right _
   have h4 : (A.map (·.1)).flatMap (rowOf A) = allOf A := by
    rw [List.flatMap_map]
    unfold allOf
    rw [List.flatMap_def, rowOf_self hA, List.flatMap_def]
   rw [h2] at h1
   rw [h4] at h3
   exact h1.trans h3
 · intro m xs hm
   have hmem : m ∈ Z.map (·.1) := hk.mem_iff.2 (List.mem_map.2 ⟨_, hm, rfl⟩)
   have key : ∀ Z : List (ByteArray × List Tr), (Z.map (·.1)).Nodup → (∀ z ∈ Z, ∀ x ∈ z.2, x.1 = z.1) → ∀ z ∈ Z, (Z.flatMap (·.2)).filter (fun x => decide (x.1 = z.1)) = z.2 := by
    intro Z
    induction Z with
    | nil => intro _ _ z hz; cases hz
    | cons y Z ih =>
      intro hn hs z hz
      simp only [List.map_cons, List.nodup_cons] at hn
      rw [List.flatMap_cons, List.filter_append]
      rcases Zmc.1 hz with e | hz'
      · subst e
        rw [List.filter_eq_self.2 (fun x hx => by simpa using hs z (by simp) x hx), List.filter_eq_nil_iff.2 (fun x hx => ?_), List.append_nil]
        obtain ⟨y, hy, hx⟩ := List.mem_flatMap.1 hx
        have := hs y (by simp [hy]) x hx
        simp only [decide_eq_true_eq]
        intro e
        exact hn.1 (List.mem_map.2 ⟨y, hy, by rw [← this, e]⟩)
      · rw [ih hn.2 (fun z hz => hs z (by simp [hz])) z hz', List.filter_eq_nil_iff.2 (fun x hx => ?_), List.nil_append]
        have := hs y (by simp) x hx
        simp only [decide_eq_true_eq]
        intro e
        exact hn.1 (List.mem_map.2 ⟨z, hz', by rw [← this, e]⟩)
   obtain ⟨z, hz, rfl⟩ := List.mem_map.1 hmem
   rw [key Z hZ (fun z hz => (h z hz).1) z hz, ← flatT_length]
   have h3 := hg z hz
   rw [rowOf_mem hA hm] at h3
   exact h3.length_eq
 · intro x hx
   obtain ⟨z, hz, hx⟩ := List.mem_flatMap.1 hx
   obtain ⟨h1, xs, h2, h3⟩ := h z hz
   exact ⟨xs, by rw [h1 x hx]; exact h2⟩
end
end Go.Proofs.YticcnlpfmekagaaGreat
