/- Part 12 of the proof of the row: Deal, Holds, Shows, Asg, StRow. -/
import Derived.Test.YticcnlpfmekagaaGreatRj00
import Derived.Test.YticcnlpfmekagaaGreatRj06
import Derived.Test.YticcnlpfmekagaaGreatRj11
import Derived.Test.YticcnlpfmekagaaGreatRj08
import Derived.Test.YticcnlpfmekagaaGreatRj07
set_option linter.unusedVariables false
set_option linter.unusedSimpArgs false
set_option maxRecDepth 100000
set_option maxHeartbeats 8000000
namespace Go.Proofs.YticcnlpfmekagaaGreat
section
open Go Go.RowKit
def Near (l : List Nat) : Prop := ∀ x ∈ l, ∀ y ∈ l, x ≤ y + 1
section
variable {κ α : Type}
structure Dealt (A0 : List (κ × List α)) (ps : List α) (A : List (κ × List α)) : Prop where
 keys : A.map (·.1) = A0.map (·.1)
 sub : ∀ k xs, (k, xs) ∈ A0 → ∃ ys, (k, xs ++ ys) ∈ A
 perm : (A.flatMap (·.2)).Perm (A0.flatMap (·.2) ++ ps)
 near : Near (A0.map (·.2.length)) → Near (A.map (·.2.length))
theorem Dealt.refl (A0 : List (κ × List α)) : Dealt A0 [] A0 := ⟨rfl, fun k xs h => ⟨[], by simpa using h⟩, by simp, fun h => h⟩
theorem Dealt.step {A0 : List (κ × List α)} {ps : List α} {A B : List (κ × List α)} {k : κ} {xs : List α} (p : α) (h : Dealt A0 ps (A ++ (k, xs) :: B)) (hmin : ∀ r ∈ A ++ (k, xs) :: B, xs.length ≤ r.2.length) :
 Dealt A0 (ps ++ [p]) (A ++ (k, xs ++ [p]) :: B) := by
 refine ⟨by rw [← h.keys]; simp, fun k' ys hk => ?_, ?_, fun h0 => ?_⟩
 · obtain ⟨zs, hz⟩ := h.sub k' ys hk
   rcases Zap.1 hz with hz | hz
   · exact ⟨zs, by simp [hz]⟩
   · rcases Zmc.1 hz with hz | hz
     · obtain ⟨rfl, rfl⟩ := Prod.mk.inj hz
       exact ⟨zs ++ [p], by simp⟩
     · exact ⟨zs, by simp [hz]⟩
 · have h1 := h.perm
   simp only [List.flatMap_append, List.flatMap_cons] at h1 ⊢
   have h2 : (A.flatMap (·.2) ++ ((xs ++ [p]) ++ B.flatMap (·.2))).Perm ((A.flatMap (·.2) ++ (xs ++ B.flatMap (·.2))) ++ [p]) := by
    simp only [List.append_assoc]
    refine (List.Perm.append_left _ (List.Perm.append_left _ ?_))
    exact List.perm_append_comm
   refine h2.trans ?_
   have h3 := h1.append_right [p]
   simpa only [List.append_assoc] using h3
 · have h1 := h.near h0
   have hm : ∀ y ∈ (A ++ (k, xs) :: B).map (·.2.length), xs.length ≤ y ∧ y ≤ xs.length + 1 := by
    intro y hy
    refine ⟨?_, h1 y hy xs.length (by simp)⟩
    obtain ⟨r, hr, rfl⟩ := List.mem_map.1 hy
    exact hmin r hr
   have hall : ∀ y ∈ (A ++ (k, xs ++ [p]) :: B).map (·.2.length), xs.length ≤ y ∧ y ≤ xs.length + 1 := by
    intro y hy
    simp only [List.map_append, List.map_cons, Zap, Zmc] at hy
    rcases hy with hy | rfl | hy
    · exact hm y (by simp only [List.map_append, List.map_cons, Zap, Zmc]; exact .inl hy)
    · simp
    · exact hm y (by simp only [List.map_append, List.map_cons, Zap, Zmc]; exact .inr (.inr hy))
   intro x hx y hy
   have := hall x hx
   have := hall y hy
   omega
end
end
section
open Go Go.RowKit
open Classical
abbrev Tr := ByteArray × ByteArray × List Int
def Holds (S : List Tr) (m t : ByteArray) (p : Int) : Prop := ∃ ps, (m, t, ps) ∈ S ∧ p ∈ ps
noncomputable def holderT : List Tr → ByteArray → Int → Option ByteArray
 | [], _, _ => none
 | x :: S, t, p => if x.2.1 = t ∧ p ∈ x.2.2 then some x.1 else holderT S t p
theorem holderT_holds {S : List Tr} {m t : ByteArray} {p : Int} (h : holderT S t p = some m) : Holds S m t p := by
 induction S with
 | nil => cases h
 | cons x S ih =>
   obtain ⟨xm, xt, xp⟩ := x
   unfold holderT at h
   split at h
   · rename_i hc
     simp only [Option.some.injEq] at h hc
     obtain ⟨rfl, hp⟩ := hc
     subst h
     exact ⟨xp, by simp, hp⟩
   · obtain ⟨ps, h1, h2⟩ := ih h
     exact ⟨ps, by simp [h1], h2⟩
theorem holderT_some {S : List Tr} {m t : ByteArray} {p : Int} (h : Holds S m t p) : ∃ m', holderT S t p = some m' := by
 induction S with
 | nil => obtain ⟨ps, h1, _⟩ := h; cases h1
 | cons x S ih =>
   unfold holderT
   split
   · exact ⟨_, rfl⟩
   · rename_i hc
     obtain ⟨ps, h1, h2⟩ := h
     rcases Zmc.1 h1 with h1 | h1
     · subst h1; exact absurd ⟨rfl, h2⟩ hc
     · exact ih ⟨ps, h1, h2⟩
def OneT (S : List Tr) : Prop := ∀ m m' t p, Holds S m t p → Holds S m' t p → m = m'
theorem holderT_eq {S : List Tr} {m t : ByteArray} {p : Int} (h1 : OneT S) (h : Holds S m t p) : holderT S t p = some m := by
 obtain ⟨m', h2⟩ := holderT_some h
 rw [h2, h1 m' m t p (holderT_holds h2) h]
noncomputable def keptT (m : ByteArray) (a b : List Tr) : Bool := a.all fun x => decide (x.1 ≠ m) || x.2.2.all fun p => decide (holderT b x.2.1 p = some m)
theorem keptT_of {m : ByteArray} {a b : List Tr} (h1 : OneT b) (h : ∀ t p, Holds a m t p → Holds b m t p) : keptT m a b = true := by
 unfold keptT
 refine List.all_eq_true.2 fun x hx => ?_
 obtain ⟨xm, xt, xp⟩ := x
 by_cases e : xm = m
 · subst e
   simp only [ne_eq, not_true_eq_false, decide_false, Bool.false_or]
   refine List.all_eq_true.2 fun p hp => ?_
   simpa using holderT_eq h1 (h xt p ⟨xp, hx, hp⟩)
 · simp [e]
def flatT (S : List Tr) : List (ByteArray × Int) := S.flatMap fun x => x.2.2.map fun p => (x.2.1, p)
theorem flatT_mem {S : List Tr} {t : ByteArray} {p : Int} : (t, p) ∈ flatT S ↔ ∃ m, Holds S m t p := by
 unfold flatT Holds
 simp only [List.mem_flatMap, List.mem_map, Prod.mk.injEq]
 constructor
 · rintro ⟨⟨m, t', ps⟩, hx, p', hp, rfl, rfl⟩; exact ⟨m, ps, hx, hp⟩
 · rintro ⟨m, ps, hx, hp⟩; exact ⟨_, hx, p, hp, rfl, rfl⟩
theorem oneT_of {S : List Tr} (h : (flatT S).Nodup) : OneT S := by
 induction S with
 | nil => rintro m m' t p ⟨ps, h1, _⟩; cases h1
 | cons x S ih =>
   unfold flatT at h
   rw [List.flatMap_cons, List.nodup_append] at h
   obtain ⟨h1, h2, h3⟩ := h
   have ih' := ih h2
   intro m m' t p ha hb
   obtain ⟨ps, ha, hp⟩ := ha
   obtain ⟨qs, hb, hq⟩ := hb
   rcases Zmc.1 ha with ha' | ha' <;> rcases Zmc.1 hb with hb' | hb' <;> clear ha hb
   · subst ha'; exact (Prod.mk.inj hb').1.symm
   · subst ha'
     exact absurd rfl (h3 (t, p) (List.mem_map.2 ⟨p, hp, rfl⟩) (t, p) (flatT_mem.2 ⟨m', qs, hb', hq⟩))
   · subst hb'
     exact absurd rfl (h3 (t, p) (List.mem_map.2 ⟨p, hq, rfl⟩) (t, p) (flatT_mem.2 ⟨m, ps, ha', hp⟩))
   · exact ih' m m' t p ⟨ps, ha', hp⟩ ⟨qs, hb', hq⟩
abbrev Asg := List (ByteArray × List (ByteArray × Int))
def Has (A : Asg) (m : ByteArray) (x : ByteArray × Int) : Prop := ∃ xs, (m, xs) ∈ A ∧ x ∈ xs
def loads (A : Asg) : List Nat := A.map (·.2.length)
def allOf (A : Asg) : List (ByteArray × Int) := A.flatMap (·.2)
theorem allOf_mem {A : Asg} {x : ByteArray × Int} : x ∈ allOf A ↔ ∃ m, Has A m x := by
 unfold allOf Has
 simp only [List.mem_flatMap]
 constructor
 · rintro ⟨⟨m, xs⟩, h1, h2⟩; exact ⟨m, xs, h1, h2⟩
 · rintro ⟨m, xs, h1, h2⟩; exact ⟨_, h1, h2⟩
theorem has_one {A : Asg} (h : (allOf A).Nodup) {m m' : ByteArray} {x : ByteArray × Int} (h1 : Has A m x) (h2 : Has A m' x) : m = m' := by
 induction A with
 | nil => obtain ⟨xs, h1, _⟩ := h1; cases h1
 | cons r A ih =>
   unfold allOf at h
   rw [List.flatMap_cons, List.nodup_append] at h
   obtain ⟨g1, g2, g3⟩ := h
   obtain ⟨xs, h1, hx⟩ := h1
   obtain ⟨ys, h2, hy⟩ := h2
   rcases Zmc.1 h1 with h1' | h1' <;> rcases Zmc.1 h2 with h2' | h2' <;> clear h1 h2
   · subst h1'; exact (Prod.mk.inj h2').1.symm
   · subst h1'; exact absurd rfl (g3 x hx x (allOf_mem.2 ⟨m', ys, h2', hy⟩))
   · subst h2'; exact absurd rfl (g3 x hy x (allOf_mem.2 ⟨m, xs, h1', hx⟩))
   · exact ih g2 ⟨xs, h1', hx⟩ ⟨ys, h2', hy⟩
structure Shows (S : List Tr) (A : Asg) : Prop where
 iff : ∀ m t p, Holds S m t p ↔ Has A m (t, p)
 perm : (flatT S).Perm (allOf A)
 count : ∀ m xs, (m, xs) ∈ A → ((S.filter fun x => decide (x.1 = m)).map (·.2.2.length)).sum = xs.length
 mems : ∀ x ∈ S, ∃ xs, (x.1, xs) ∈ A
end
section
open Go Go.RowKit
open Classical
theorem perm_flatMap {β γ : Type} {f g : β → List γ} : ∀ (l : List β), (∀ a ∈ l, (f a).Perm (g a)) → (l.flatMap f).Perm (l.flatMap g)
 | [], _ => List.Perm.refl _
 | a :: l, h => by
   rw [List.flatMap_cons, List.flatMap_cons]
   exact (h a (by simp)).append (perm_flatMap l fun b hb => h b (by simp [hb]))
theorem flatT_append (S T : List Tr) : flatT (S ++ T) = flatT S ++ flatT T := by simp [flatT]
theorem flatT_length (S : List Tr) : (flatT S).length = (S.map (·.2.2.length)).sum := by
 induction S with
 | nil => rfl
 | cons x S ih => rw [show x :: S = [x] ++ S from rfl, flatT_append, List.length_append, ih]; simp [flatT]
theorem flatT_flatMap {β : Type} (Z : List β) (f : β → List Tr) : flatT (Z.flatMap f) = Z.flatMap fun z => flatT (f z) := by
 induction Z with
 | nil => rfl
 | cons z Z ih => rw [List.flatMap_cons, flatT_append, ih]; rfl
noncomputable def rowOf (A : Asg) (m : ByteArray) : List (ByteArray × Int) := ((A.find? fun r => decide (r.1 = m)).map (·.2)).getD []
theorem rowOf_mem {A : Asg} {m : ByteArray} {xs : List (ByteArray × Int)} (hn : (A.map (·.1)).Nodup) (h : (m, xs) ∈ A) : rowOf A m = xs := by
 induction A with
 | nil => cases h
 | cons r A ih =>
   simp only [List.map_cons, List.nodup_cons] at hn
   unfold rowOf
   rw [List.find?_cons]
   rcases Zmc.1 h with h | h
   · subst h; simp
   · have hne : r.1 ≠ m := fun e => hn.1 (e ▸ List.mem_map_of_mem (f := (·.1)) h)
     simp only [hne, decide_false]
     exact ih hn.2 h
theorem rowOf_self {A : Asg} (hn : (A.map (·.1)).Nodup) : A.map (fun r => rowOf A r.1) = A.map (·.2) := by
 refine List.map_congr_left fun r hr => ?_
 exact rowOf_mem hn (show (r.1, r.2) ∈ A from hr)
theorem shows_zip (Z : List (ByteArray × List Tr)) (A : Asg) (hA : (A.map (·.1)).Nodup) (hk : (Z.map (·.1)).Perm (A.map (·.1)))
 (h : ∀ z ∈ Z, (∀ x ∈ z.2, x.1 = z.1) ∧ ∃ xs, (z.1, xs) ∈ A ∧ (flatT z.2).Perm xs) : Shows (Z.flatMap (·.2)) A := by
 have hZ : (Z.map (·.1)).Nodup := hk.nodup_iff.2 hA
 have hg : ∀ z ∈ Z, (flatT z.2).Perm (rowOf A z.1) := fun z hz => by
  obtain ⟨_, xs, h1, h2⟩ := h z hz
  rw [rowOf_mem hA h1]; exact h2
 refine ⟨fun m t p => ⟨?_, ?_⟩, ?_, ?_, ?_⟩
 · rintro ⟨ps, hm, hp⟩
   obtain ⟨z, hz, hx⟩ := List.mem_flatMap.1 hm
   obtain ⟨h1, xs, h2, h3⟩ := h z hz
   have e := h1 _ hx
   simp only at e
   refine ⟨xs, by rw [e]; exact h2, h3.mem_iff.1 (flatT_mem.2 ⟨m, ps, hx, hp⟩)⟩
 · rintro ⟨xs, hm, hp⟩
   have hmem : m ∈ Z.map (·.1) := hk.mem_iff.2 (List.mem_map.2 ⟨_, hm, rfl⟩)
   obtain ⟨z, hz, rfl⟩ := List.mem_map.1 hmem
   have h3 := hg z hz
   rw [rowOf_mem hA hm] at h3
   obtain ⟨m', ps, hx, hp⟩ := flatT_mem.1 (h3.mem_iff.2 hp)
   have e := (h z hz).1 _ hx
   simp only at e
   subst e
   exact ⟨ps, List.mem_flatMap.2 ⟨z, hz, hx⟩, hp⟩
 · rw [flatT_flatMap]
   have h1 : (Z.flatMap fun z => flatT z.2).Perm (Z.flatMap fun z => rowOf A z.1) := perm_flatMap _ hg
   have h2 : (Z.flatMap fun z => rowOf A z.1) = (Z.map (·.1)).flatMap (rowOf A) := by rw [List.flatMap_map]
   have h3 : ((Z.map (·.1)).flatMap (rowOf A)).Perm ((A.map (·.1)).flatMap (rowOf A)) := hk.flatMap_right _
   have h4 : (A.map (·.1)).flatMap (rowOf A) = allOf A := by
    rw [List.flatMap_map]
    unfold allOf
    rw [List.flatMap_def, rowOf_self hA, List.flatMap_def]
   rw [h2] at h1
   rw [h4] at h3
   exact h1.trans h3
 · intro m xs hm
   have hmem : m ∈ Z.map (·.1) := hk.mem_iff.2 (List.mem_map.2 ⟨_, hm, rfl⟩)
   have key : ∀ Z : List (ByteArray × List Tr), (Z.map (·.1)).Nodup → (∀ z ∈ Z, ∀ x ∈ z.2, x.1 = z.1) → ∀ z ∈ Z, (Z.flatMap (·.2)).filter (fun x => decide (x.1 = z.1)) = z.2 := by
    intro Z
    induction Z with
    | nil => intro _ _ z hz; cases hz
    | cons y Z ih =>
      intro hn hs z hz
      simp only [List.map_cons, List.nodup_cons] at hn
      rw [List.flatMap_cons, List.filter_append]
      rcases Zmc.1 hz with e | hz'
      · subst e
        rw [List.filter_eq_self.2 (fun x hx => by simpa using hs z (by simp) x hx), List.filter_eq_nil_iff.2 (fun x hx => ?_), List.append_nil]
        obtain ⟨y, hy, hx⟩ := List.mem_flatMap.1 hx
        have := hs y (by simp [hy]) x hx
        simp only [decide_eq_true_eq]
        intro e
        exact hn.1 (List.mem_map.2 ⟨y, hy, by rw [← this, e]⟩)
      · rw [ih hn.2 (fun z hz => hs z (by simp [hz])) z hz', List.filter_eq_nil_iff.2 (fun x hx => ?_), List.nil_append]
        have := hs y (by simp) x hx
        simp only [decide_eq_true_eq]
        intro e
        exact hn.1 (List.mem_map.2 ⟨z, hz', by rw [← this, e]⟩)
   obtain ⟨z, hz, rfl⟩ := List.mem_map.1 hmem
   rw [key Z hZ (fun z hz => (h z hz).1) z hz, ← flatT_length]
   have h3 := hg z hz
   rw [rowOf_mem hA hm] at h3
   exact h3.length_eq
 · intro x hx
   obtain ⟨z, hz, hx⟩ := List.mem_flatMap.1 hx
   obtain ⟨h1, xs, h2, h3⟩ := h z hz
   exact ⟨xs, by rw [h1 x hx]; exact h2⟩
end
section
open Go Go.Proofs Go.RowKit Go.Lib
open Classical
theorem infoTp : (Tryz.prog.info? 384).map (fun i => (i.zero, i.size, i.bytes)) = some (some (.agg #[.string ⟨#[]⟩, .int .i32 0]), 2, 24) := by kernel_rfl
theorem elTp : Elem Tryz.prog 375 384 2 24 (.agg #[.string ⟨#[]⟩, .int .i32 0]) := ⟨Tryz.underlying375, info_parts infoTp, rfl, by omega⟩
abbrev Rw := ByteArray × Value × List TP
def rowT (x : Rw) : MRow := (.string x.1, x.2.1, x.2.2.flatMap encTp)
def rowsT (A : List Rw) : List MRow := A.map rowT
abbrev Rs.cur (r : Nat) (A : List Rw) : Res := Rs.rows isStr r 384 2 (rowsT A)
def asgT (A : List Rw) : Asg := A.map fun x => (x.1, x.2.2)
def loadT (A : List Rw) : List (ByteArray × Nat) := A.map fun x => (x.1, x.2.2.length)
theorem rowsT_append (A B : List Rw) : rowsT (A ++ B) = rowsT A ++ rowsT B := by simp [rowsT]
theorem rowsT_cons (x : Rw) (B : List Rw) : rowsT (x :: B) = rowT x :: rowsT B := rfl
theorem encs_len (l : List TP) : (l.flatMap encTp).length = l.length * 2 := by
 induction l with
 | nil => rfl
 | cons x l ih => simp only [List.flatMap_cons, List.length_append, ih, List.length_cons]; simp [encTp]; omega
theorem encs_one (l : List TP) : ∀ u ∈ l.flatMap encTp, u.oneCell' = true := by
 intro u hu
 obtain ⟨x, _, hx⟩ := List.mem_flatMap.1 hu
 simp [encTp] at hx
 rcases hx with rfl | rfl <;> rfl
section
variable {w : World} {r : Nat} {A : List Rw}
theorem cur_row (h : RowsAt w isStr r 384 2 (rowsT A)) {x : Rw} (hx : x ∈ A) : w.ownsRow 0 384 2 x.2.1 x.2.2.length (x.2.2.flatMap encTp) ∧ ∃ a c, x.2.1 = .slice a x.2.2.length c := by
 obtain ⟨n, hn⟩ := h.each (rowT x) (List.mem_map_of_mem hx)
 have h1 : n = x.2.2.length := by
  have := hn.1
  simp only [rowT, encs_len] at this
  omega
 subst h1
 have hn' : w.ownsRow 0 384 2 x.2.1 x.2.2.length (x.2.2.flatMap encTp) := hn
 obtain ⟨a, c, e, _⟩ := own_cap hn'
 exact ⟨hn', a, c, e⟩
theorem cur_sl (h : RowsAt w isStr r 384 2 (rowsT A)) {x : Rw} (hx : x ∈ A) : SlAt w 2 x.2.1 x.2.2.length (x.2.2.flatMap encTp) := own_sl (cur_row h hx).1 (encs_one _)
theorem cur_in {x : Rw} (hx : x ∈ A) : (Value.string x.1, x.2.1) ∈ rawR (rowsT A) := List.mem_map_of_mem (f := fun x : MRow => (x.1, x.2.1)) (List.mem_map_of_mem (f := rowT) hx)
theorem cur_loads (h : RowsAt w isStr r 384 2 (rowsT A)) : loadsOf (rawR (rowsT A)) = loadT A := by
 unfold loadsOf rawR rowsT loadT
 rw [List.map_map, List.map_map]
 refine List.map_congr_left fun x hx => ?_
 obtain ⟨_, a, c, e⟩ := cur_row h hx
 simp [rowT, e, nameOf, lenOf]
theorem cur_slval (h : RowsAt w isStr r 384 2 (rowsT A)) (hb : ∀ x ∈ A, x.2.2.length ≤ 1000000000) : ∀ p ∈ rawR (rowsT A), SlVal p := by
 intro p hp
 obtain ⟨q, hq, rfl⟩ := List.mem_map.1 hp
 obtain ⟨x, hx, rfl⟩ := List.mem_map.1 hq
 obtain ⟨_, a, c, e⟩ := cur_row h hx
 exact ⟨x.1, a, _, c, by simp [rowT, e], hb x hx⟩
theorem raw_len : (rawR (rowsT A)).length = A.length := by simp [rawR, rowsT]
theorem cur_keys (h : RowsAt w isStr r 384 2 (rowsT A)) : (A.map (·.1)).Nodup := by
 have h1 := h.keys
 have e : (rowsT A).map (·.1) = (A.map (·.1)).map Value.string := by simp [rowsT, rowT, Function.comp_def]
 rw [e] at h1
 exact (List.pairwise_map.1 h1).imp fun h e => h (by rw [e])
end
structure IdsOf (A : List Rw) (L : List (ByteArray × Nat)) : Prop where
 perm : L.Perm (loadT A)
 sorted : L.Pairwise (fun a b => ¬ idLt b a = true)
abbrev Rs.ids (v : Value) (n : Nat) (L : List (ByteArray × Nat)) : Res := Rs.row 9 1 v n (names L)
theorem idLt_len {a b : ByteArray × Nat} (h : ¬ idLt b a = true) : a.2 ≤ b.2 := by
 unfold idLt at h
 by_cases h1 : b.2 = a.2
 · omega
 · rw [if_neg h1] at h
   simp at h; omega
theorem IdsOf.first {A : List Rw} {x : ByteArray × Nat} {L : List (ByteArray × Nat)} (h : IdsOf A (x :: L)) : ∃ A1 v ps A2, A = A1 ++ (x.1, v, ps) :: A2 ∧ ps.length = x.2 ∧ ∀ y ∈ A, ps.length ≤ y.2.2.length := by
 have hx : x ∈ loadT A := h.perm.mem_iff.1 (by simp)
 obtain ⟨⟨m, v, ps⟩, hm, rfl⟩ := List.mem_map.1 hx
 obtain ⟨A1, A2, rfl⟩ := List.append_of_mem hm
 refine ⟨A1, v, ps, A2, rfl, rfl, fun y hy => ?_⟩
 have hy' : (y.1, y.2.2.length) ∈ (m, ps.length) :: L := h.perm.mem_iff.2 (List.mem_map_of_mem (f := fun x : Rw => (x.1, x.2.2.length)) hy)
 rcases Zmc.1 hy' with e | hy'
 · rw [Prod.mk.injEq] at e; omega
 · exact idLt_len ((List.pairwise_cons.1 h.sorted).1 _ hy')
theorem sort_cur (r : Nat) (A : List Rw) (w : World) (hc : RowsAt w isStr r 384 2 (rowsT A)) (hl : A.length ≤ 1000000) (hb : ∀ x ∈ A, x.2.2.length ≤ 1000000000) :
 Calls Tryz.prog 232 #[.map (some r)] w fun e w' => ∃ g c L, e = .returned (.slice (some ⟨g, 0, none⟩) A.length c) ∧ IdsOf A L ∧ St [] w w' [Rs.ids (.slice (some ⟨g, 0, none⟩) A.length c) A.length L] [] := by
 refine (sort_ids r _ w hc.map (by rw [raw_len]; exact hl) (cur_slval hc hb)).mono ?_
 rintro e w' ⟨g, c, L, rfl, hp, hs, hst⟩
 rw [raw_len] at *
 rw [cur_loads hc] at hp
 exact ⟨g, c, L, rfl, ⟨hp, hs⟩, hst⟩
theorem build_tp (p : TP) (w : World) : (Instr.buildSlice 375 1 #[(0, tpV p)]).run Tryz.prog w = .ok (.slice (some ⟨w.heap.size, 0, none⟩) 1 1) (w.alloc (.cells #[.string p.1, .int .i32 p.2] 384)) := by
 simp [Instr.buildSlice, go_sem]
theorem new_tp (w : World) (p : TP) : SlAt (w.alloc (.cells #[.string p.1, .int .i32 p.2] 384)) 2 (.slice (some ⟨w.heap.size, 0, none⟩) 1 1) 1 [.string p.1, .int .i32 p.2] := new_slN w 384 2 1 _ rfl (by decide) (by intro u hu; simp at hu; rcases hu with rfl | rfl <;> rfl)
theorem eqTp_self (p : TP) : eqTp p p = true := by simp [eqTp]
theorem assign_any (p : TP) (rc rp rq g n c : Nat) (A Pp : List Rw) (lq : List (Value × Value)) (L : List (ByteArray × Nat)) (w : World)
 (how : Ow w ([Rs.cur rc A, Rs.map rq isTp lq] ++ [Rs.ids (.slice (some ⟨g, 0, none⟩) n c) n L, Rs.cur rp Pp])) (hL : IdsOf A L) (hn : A.length = n) (hn0 : 0 < n) (hn1 : n ≤ 1000000) (hb : ∀ x ∈ A, x.2.2.length ≤ 1000000)
 (hP : ∀ x ∈ A, ∃ v qs, (x.1, v, qs) ∈ Pp ∧ p ∈ qs ∧ qs.length ≤ 1000000) :
 Calls Tryz.prog 247 #[tpV p, .slice (some ⟨g, 0, none⟩) n c, .map (some rc), .map (some rp), .map (some rq)] w fun e w' =>
  ∃ A1 m v ps A2 v' g' c' L', A = A1 ++ (m, v, ps) :: A2 ∧ (∀ y ∈ A, ps.length ≤ y.2.2.length) ∧ e = .returned (.slice (some ⟨g', 0, none⟩) n c') ∧ IdsOf (A1 ++ (m, v', ps ++ [p]) :: A2) L' ∧
   St (foots [Rs.cur rc A, Rs.map rq isTp lq]) w w' [Rs.ids (.slice (some ⟨g', 0, none⟩) n c') n L', Rs.cur rc (A1 ++ (m, v', ps ++ [p]) :: A2), Rs.map rq isTp (putE lq (tpV p) (.string m))] [] := by
 obtain ⟨x, L0, rfl⟩ : ∃ x L0, L = x :: L0 := by
  cases L with
  | nil => exfalso; have := hL.perm.length_eq; simp [loadT] at this; omega
  | cons x L0 => exact ⟨x, L0, rfl⟩
 obtain ⟨A1, v, ps, A2, rfl, hps, hmin⟩ := hL.first
 obtain ⟨m, ld⟩ := x
 simp only at *
 have hst0 := St.start how
 obtain ⟨pv, qs, hpin, hpq, hql⟩ := hP (m, v, ps) (by simp)
 have hcu := hst0.m 0 rfl
 obtain ⟨hrow, va, vc, hv⟩ := cur_row hcu (x := (m, v, ps)) (by simp)
 simp only at hv hrow
 subst hv
 have hcell : w.cell? ⟨g, 0, none⟩ = some (.string m) := (own_cell (hst0.r 0 rfl) (j := 0) (by simp [names, strs])).1
 have hinc : ∀ o, Calls Tryz.prog 266 #[pv, tpV p] (w.alloc o) fun e w' => e = .returned (.bool true) ∧ Kept [] (w.alloc o) w' := fun o => by
  have h1 := inclTp_at (cur_sl ((hst0.alloc o).r 1 rfl) hpin) p (by simp only; omega)
  have h2 : (qs.any fun y => eqTp p y) = true := List.any_eq_true.2 ⟨p, hpq, eqTp_self p⟩
  simp only [h2] at h1
  exact h1
 have HI := Zhd hinc; clear hinc
 have HX := Zhd (Zan hcu (Zan hmin (Zan hb (Zan hn hpin)))); clear hcu hmin hb hn hpin hP hpq hrow hps hL how
 have e1 : rowsT (A1 ++ (m, .slice va ps.length vc, ps) :: A2) = rowsT A1 ++ (.string m, .slice va ps.length vc, ps.flatMap encTp) :: rowsT A2 := by rw [rowsT_append, rowsT_cons]; rfl
 have e2 : ∀ v', rowsT A1 ++ (.string m, v', ps.flatMap encTp ++ [.string p.1, .int .i32 p.2]) :: rowsT A2 = rowsT (A1 ++ (m, v', ps ++ [p]) :: A2) := fun v' => by
  rw [rowsT_append, rowsT_cons]; simp [rowT, encTp]
 have hnn : A1.length + A2.length + 1 ≤ 1000000 := by have := HX.out.2.2.2.1; simp at this; omega
 have E2 := Zhd e2; clear e2
 have hc0 : ∀ o, (w.alloc o).cell? ⟨g, 0, none⟩ = some (.string m) := fun o => ca hcell
 have hn2 : (0 : Int) < (n : Int) := by omega
 clear hcell
 go_enter Tryz.func247, Tryz.ntmps247
 go_wp2_with fail
 go_loopw [15] (fun i wr => i = .int .i64 0 ∧ wr = w.alloc (.cells #[.string p.1, .int .i32 p.2] 384)) (fun _ _ => 0)
 case atStart => exact ⟨rfl, rfl⟩
 case round =>
  obtain ⟨rfl, rfl⟩ := hrel
  go_wp2_with (first
   | (refine wl_lk rfl rfl rfl rfl (keyT_str Tryz.underlying9) Tryz.underlying378 ((hst0.alloc _).r 1 rfl).map (cur_in HX.out.2.2.2.2) ?_)
   | fail)
  refine (HI.out _).mono ?_
  rintro e w1 ⟨rfl, hk1⟩
  have hst1 := (hst0.blk (.cells #[.string p.1, .int .i32 p.2] 384)).kept0 hk1
  rw [Rs.cur, e1] at hst1
  have cp := hst1.cell2a 0 rfl
  have cp0 := hst1.cell2 0 rfl
  have hpl := HX.out.2.2.1 (m, .slice va ps.length vc, ps) (by simp)
  simp only at hpl
  generalize w.heap.size = bp at hst1 cp cp0 ⊢
  have hin1 : (Value.string m, Value.slice va ps.length vc) ∈ rawR (rowsT A1 ++ (.string m, .slice va ps.length vc, ps.flatMap encTp) :: rowsT A2) := by rw [rawR_append, rawR_cons]; simp
  go_wp2_with (first
   | (refine wl_lk rfl rfl rfl rfl (keyT_str Tryz.underlying9) Tryz.underlying378 (hst1.m 1 rfl).map hin1 ?_)
   | (refine wl_build1 (x := tpV p) rfl rfl rfl (build_tp p _) ?_)
   | (refine wl_rowapp 1 rfl rfl rfl rfl elTp rfl rfl (fun _ => rfl) (fun _ => rfl) (fun _ => rfl) (keyT_str Tryz.underlying9) Tryz.underlying378 (hst1.alloc _) rfl ((new_tp _ p).src Tryz.underlying375) (fun n hn => by rw [encs_len] at hn; omega) ?_
      intro v' w2 hst2
      simp only [Zs1, Zs0, E2.out] at hst2
      have cp2 := hst2.cell2 0 rfl)
   | (refine wl_upd (kv := tpV p) (vv := .string m) 2 rfl rfl rfl rfl rfl keyT_tp Tryz.underlying387 hst2 rfl ⟨_, _, rfl⟩ ?_
      intro w3 hst3
      simp only [Zs1, Zs0] at hst3
      have hsc := sort_cur rc _ w3 (hst3.m 1 rfl) (by simp at hnn ⊢; omega) (fun x hx => by
       rcases Zap.1 hx with hx | hx
       · have := HX.out.2.2.1 x (by simp [hx]); omega
       · rcases Zmc.1 hx with rfl | hx
         · simp; omega
         · have := HX.out.2.2.1 x (by simp [hx]); omega)
      rw [show (A1 ++ (m, v', ps ++ [p]) :: A2).length = n from by have hn' := HX.out.2.2.2.1; simp at hn' ⊢; omega] at hsc
      have HSC := Zhd hsc; clear hsc)
   | (go_at_call 232
      refine (HSC.out).mono ?_
      rintro e w4 ⟨g4, c4, L4, rfl, hL4, hst4⟩)
   | fail)
  have hend : ∃ B1 m' u ps' B2 v' g' c' L', A1 ++ (m, Value.slice va ps.length vc, ps) :: A2 = B1 ++ (m', u, ps') :: B2 ∧ (∀ y ∈ A1 ++ (m, Value.slice va ps.length vc, ps) :: A2, ps'.length ≤ y.2.2.length) ∧
   Ending.returned (Value.slice (some ⟨g4, 0, none⟩) n c4) = .returned (.slice (some ⟨g', 0, none⟩) n c') ∧ IdsOf (B1 ++ (m', v', ps' ++ [p]) :: B2) L' ∧
   St (foots [Rs.cur rc (A1 ++ (m, Value.slice va ps.length vc, ps) :: A2), Rs.map rq isTp lq]) w w4 [Rs.ids (.slice (some ⟨g', 0, none⟩) n c') n L', Rs.cur rc (B1 ++ (m', v', ps' ++ [p]) :: B2), Rs.map rq isTp (putE lq (tpV p) (.string m'))] [] := by
   refine ⟨A1, m, _, ps, A2, v', g4, c4, L4, rfl, HX.out.2.1, rfl, hL4, ?_⟩
   rw [Rs.cur, e1]
   exact ((St.call (M1 := []) hst3 hst4).drop 1).noR
  have HE := Zhd hend; clear hend
  go_ret
  exact HE.out
end
section
open Go Go.RowKit
open Classical
def Rs.rw (E sz : Nat) (x : MRow) : Res := ⟨x.2.1.ownBlock.toList, fun w => ∃ n, w.ownsRow 0 E sz x.2.1 n x.2.2, fun w w' S k hs h => by
 obtain ⟨n, hn⟩ := h
 exact ⟨n, own_kept hn k (fun g hg => hs g (by simp [hg]))⟩⟩
def rowRes (E sz : Nat) (L : List MRow) : List Res := L.map (Rs.rw E sz)
theorem foots_rowRes (E sz : Nat) (L : List MRow) : foots (rowRes E sz L) = footR L := by
 unfold foots rowRes footR
 rw [List.flatMap_map]; rfl
section
variable {S : List Nat} {w0 w w' : World} {M R : List Res} {V : Value → Prop} {r E sz : Nat} {L : List MRow}
theorem pairwise_rows {L : List MRow} (h : (footR L).Nodup) : (rowRes E sz L).Pairwise (fun X Y => ∀ g ∈ X.foot, g ∉ Y.foot) := by
 induction L with
 | nil => exact List.Pairwise.nil
 | cons x L ih =>
   rw [footR_cons, List.nodup_append] at h
   refine List.pairwise_cons.2 ⟨fun Y hY g hg hx => ?_, ih h.2.1⟩
   obtain ⟨y, hy, rfl⟩ := List.mem_map.1 hY
   exact h.2.2 g hg g (List.mem_flatMap.2 ⟨y, hy, hx⟩) rfl
theorem St.unrow (h : St S w0 w (Rs.rows V r E sz L :: M) R) : St S w0 w (Rs.map r V (rawR L) :: (rowRes E sz L ++ M)) R := by
 have hrows : RowsAt w V r E sz L := h.m 0 rfl
 have hlt := h.lt 0 (X := Rs.rows V r E sz L) rfl
 have hd := hrows.dis
 rw [List.nodup_cons] at hd
 have h4 : St (foots [Rs.rows V r E sz L]) w w (Rs.map r V (rawR L) :: rowRes E sz L) [] := by
  refine ⟨Kept.refl _ _, ⟨fun X hX => ?_, fun g hg => ?_, ?_⟩, fun g hg => .inl ?_⟩
  · simp only [List.append_nil, Zmc] at hX
    rcases hX with rfl | hX
    · exact hrows.map
    · obtain ⟨x, hx, rfl⟩ := List.mem_map.1 hX
      exact hrows.each x hx
  · simp only [List.append_nil, foots_cons, foots_rowRes, Rs.map] at hg
    exact hlt g (by simpa [Rs.rows] using hg)
  · simp only [List.append_nil]
    refine List.pairwise_cons.2 ⟨fun Y hY g hg hx => ?_, pairwise_rows hd.2⟩
    obtain ⟨y, hy, rfl⟩ := List.mem_map.1 hY
    simp only [Rs.map, Zmc, Znn, or_false] at hg
    subst hg
    exact hd.1 (List.mem_flatMap.2 ⟨y, hy, hx⟩)
  · simp only [foots_cons, foots_rowRes, Rs.map] at hg
    simpa [foots, Rs.rows] using hg
 exact St.call (M1 := [Rs.rows V r E sz L]) (M2 := M) h h4
end
section
variable {P : Program} {ops : Array Oper} {o : Oper} {a : Act} {w : World} {rest : List Oper} {Q : Exit → Act → World → Prop}
variable {T : TypeId} {x s : Operand} {S : List Nat} {w0 : World} {M R : List Res} {E sz bytes k : Nat} {z xv : Value} {ys : List Value} {tx : TypeId}
theorem run_app0 (el : Elem P T E sz bytes z) {ty : TypeId} {p : Option Addr} {xv : Value} {m : Nat} (hm0 : 0 < m) (hsrc : Src P sz tx xv m ys w) (hb : (4 * m + 1024) * bytes ≤ 281474976710656) (hm : m ≤ 281474976710656) :
 ∃ v' w', (Builtin.append_ #[T, tx] ty #[.slice p 0 0, xv]).run P w = .ok v' w' ∧ w'.ownsRow 0 E sz v' m ys ∧ Kept [] w w' ∧ v'.ownBlock = some w.heap.size ∧ w'.heap.size = w.heap.size + 1 := by
 obtain ⟨ht, ⟨i, hi, hz, hsz, hby⟩, hzs, hpos⟩ := el
 subst hsz
 subst hby
 have hb' : m * i.bytes ≤ 281474976710656 := Nat.le_trans (Nat.mul_le_mul_right _ (by omega)) hb
 have hfit : ∀ old, old < m → Builtin.nextslicecap m old * i.bytes ≤ 281474976710656 := fun old ho => Nat.le_trans (Nat.mul_le_mul_right _ (nextcap_le _ _ ho)) hb
 have hold : (Builtin.firstCells i.size 0 (.slice p 0 0)).run P w.drew = .ok #[] w.drew := by
  cases p with
  | none => simp [Builtin.firstCells]
  | some b =>
    have := run_firstCells_some (P := P) w.drew i.size 0 b 0 0 [] (by simp) (fun j u hj => by simp at hj)
    simpa using this
 have hr := run_append_grow_src (P := P) w T tx ty E i z ht hi hz p 0 0 [] hold xv m ys hsrc (by omega) (by omega) (by simpa using hfit 0 hm0)
 simp only [Nat.zero_add, List.nil_append] at hr
 refine ⟨_, _, hr, ?_, (Kept.refl _ w).drew.alloc _, rfl, by simp⟩
 have hge := grownCap_ge w m 0 E
 have hcm : grownCap w m 0 E ≤ maxLen := grownCap_le_maxLen w m 0 E (by unfold maxLen; omega)
 refine ⟨hsrc.newsLen, .inr ⟨w.heap.size, _, _, rfl, Nat.zero_le _, heap_alloc_new w.drew _, hge, hcm, ?_, ?_⟩⟩
 · simp only [Array.size_append, List.size_toArray, size_zeroCells, hzs, hsrc.newsLen, ← Nat.add_mul]
   congr 1
   omega
 · rw [Array.toList_append, ← hsrc.newsLen]
   exact List.take_left
theorem wl_app0 {p : Option Addr} {T : TypeId} (hgd : o.guard = none) (ho : o.op = .call { callee := .builtin .append, args := #[s, x], argTypes := #[T, tx] }) (el : Elem P T E sz bytes z) (hs : a.eval s = .slice p 0 0) (hx : a.eval x = xv)
 (hst : St S w0 w M R) (hk0 : 0 < k) (hsrc : Src P sz tx xv k ys w) (hb : (4 * k + 1024) * bytes ≤ 281474976710656) (hm : k ≤ 281474976710656)
 (h : ∀ v' w', St S w0 w' (Rs.row E sz v' k ys :: M) R → wpList P ops Q rest (a.put o.dst v') w') : wpList P ops Q (o :: rest) a w := by
 obtain ⟨v', w', hrun, h1, h2, h3, h4⟩ := run_app0 (ty := o.type) (p := p) el hk0 hsrc hb hm
 refine wl_val (w' := w') (v := v') hgd ?_ (h _ _ (hst.push h2 h1 (fun g hg => ?_)))
 · simp [execOp, ho, resolve, invoke, builtin, hs, hx, hrun, Result.andThen]
 · simp only [Rs.row, h3, Option.toList, Zmc, Znn, or_false] at hg
   subst hg
   omega
end
end
end Go.Proofs.YticcnlpfmekagaaGreat
