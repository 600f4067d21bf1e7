/- Part 29 of the proof of the row: StMaps, MvP. -/
import Derived.Test.YticcnlpfmekagaaGreatRc00
import Derived.Test.YticcnlpfmekagaaGreatRc24
import Derived.Test.YticcnlpfmekagaaGreatRc22
set_option linter.unusedVariables false
set_option linter.unusedSimpArgs false
set_option maxRecDepth 100000
set_option maxHeartbeats 8000000
namespace Go.Proofs.YticcnlpfmekagaaGreat
section
open Go Go.RowKit
open Classical
abbrev MpR := Nat × (Value → Prop) × List (Value × Value)
def Rs.maps (J : List MpR) : Res where
 foot := J.map Prod.fst
 holds := fun w => (∀ x ∈ J, MapAt w x.2.1 x.1 x.2.2) ∧ (J.map Prod.fst).Nodup
 stable := fun w w' S k hs h => ⟨fun x hx => (h.1 x hx).kept k (hs x.1 (List.mem_map.2 ⟨x, hx, rfl⟩)), h.2⟩
section
variable {P : Program} {ops : Array Oper} {o : Oper} {a : Act} {w : World} {rest : List Oper} {Q : Exit → Act → World → Prop}
variable {V : Value → Prop} {r : Nat} {l : List (Value × Value)} {T kT eT : TypeId} {m x y : Operand} {kv vv : Value}
variable {S : List Nat} {w0 : World} {M R : List Res} {J J1 J2 : List MpR}
theorem St.mapOf (h : St S w0 w M R) (i : Nat) (hi : M[i]? = some (Rs.maps J)) (hj : (r, V, l) ∈ J) : MapAt w V r l := (h.m i hi : (Rs.maps J).holds w).1 _ hj
theorem St.mapsAdd (h : St S w0 w (Rs.map r V l :: Rs.maps J :: M) R) : St S w0 w (Rs.maps (J ++ [(r, V, l)]) :: M) R := by
 have how : Ow w ([Rs.map r V l, Rs.maps J] ++ (M ++ R)) := h.ow
 have hd := List.pairwise_cons.1 how.left.dis
 have hs : ∀ g ∈ foots [Rs.maps (J ++ [(r, V, l)])], g ∈ foots [Rs.map r V l, Rs.maps J] := fun g hg => by
  simp only [foots_cons] at hg ⊢
  simp only [foots, List.flatMap_nil, List.append_nil, Rs.maps, Rs.map, List.map_append, Zap, List.map_cons, List.map_nil, Zmc, Znn, or_false] at hg ⊢
  exact hg.symm
 have hholds : (Rs.maps (J ++ [(r, V, l)])).holds w := by
  have h1 : MapAt w V r l := h.m 0 rfl
  have h2 : (Rs.maps J).holds w := h.m 1 rfl
  refine ⟨fun x hx => ?_, ?_⟩
  · rcases Zap.1 hx with hx | hx
    · exact h2.1 x hx
    · simp only [Zmc, Znn, or_false] at hx
      subst hx; exact h1
  · rw [List.map_append, List.nodup_append]
    refine ⟨h2.2, by simp, fun a ha b hb e => ?_⟩
    simp only [List.map_cons, List.map_nil, Zmc, Znn, or_false] at hb
    subst hb e
    exact hd.1 (Rs.maps J) (by simp) a (by simp [Rs.map]) ha
 have h4 : St (foots [Rs.map r V l, Rs.maps J]) w w [Rs.maps (J ++ [(r, V, l)])] [] :=
  ⟨Kept.refl _ _, Ow.one hholds (fun g hg => how.left.lt g (hs g (by simpa [foots] using hg))), fun g hg => .inl (hs g hg)⟩
 exact St.call (M1 := [Rs.map r V l, Rs.maps J]) (M2 := M) h h4
theorem maps_put {w' : World} (hh : (Rs.maps (J1 ++ (r, V, l) :: J2)).holds w) (h1 : MapAt w' V r (putE l kv vv)) (h2 : Kept [r] w w') : (Rs.maps (J1 ++ (r, V, putE l kv vv) :: J2)).holds w' := by
 have hn := hh.2
 have hne : ∀ x ∈ J1 ++ J2, x.1 ≠ r := by
  rw [List.map_append, List.map_cons] at hn
  have h4 := List.perm_middle.nodup_iff.1 hn
  rw [List.nodup_cons] at h4
  intro x hx e
  have h5 : x.1 ∈ (J1 ++ J2).map Prod.fst := List.mem_map_of_mem hx
  rw [e, List.map_append] at h5
  exact h4.1 h5
 refine ⟨fun x hx => ?_, by simpa using hn⟩
 have hor : x = (r, V, putE l kv vv) ∨ x ∈ J1 ++ J2 := by
  rcases Zap.1 hx with hx | hx
  · exact .inr (List.mem_append_left _ hx)
  · rcases Zmc.1 hx with hx | hx
    · exact .inl hx
    · exact .inr (List.mem_append_right _ hx)
 rcases hor with rfl | hx
 · exact h1
 · refine (hh.1 x ?_).kept h2 (by simpa using hne x hx)
   rcases Zap.1 hx with hx | hx
   · exact List.mem_append_left _ hx
   · exact List.mem_append_right _ (List.mem_cons_of_mem _ hx)
theorem wl_updJ (i : Nat) (hgd : o.guard = none) (hop : o.op = .mapUpdate T m x y) (hm : a.eval m = .map (some r)) (hk : a.eval x = kv) (hv : a.eval y = vv) (K0 : KeyT P kT V) (hT : P.underlying T = some (.map kT eT)) (hst : St S w0 w M R) (hi : M[i]? = some (Rs.maps (J1 ++ (r, V, l) :: J2))) (hV : V kv)
 (hK : ∀ w', St S w0 w' (M.set i (Rs.maps (J1 ++ (r, V, putE l kv vv) :: J2))) R → wpList P ops Q rest (a.put o.dst undef) w') : wpList P ops Q (o :: rest) a w := by
 have hh : (Rs.maps (J1 ++ (r, V, l) :: J2)).holds w := hst.m i hi
 exact wl_update hgd hop hm hk hv K0 hT (hh.1 (r, V, l) (by simp)) hV fun w' h1 h2 h3 => hK w' (hst.set i hi h2 (by simp [Rs.maps]) (maps_put hh h1 h2) (fun g hg => .inl (by simpa [Rs.maps] using hg)))
end
end
section
open Go Go.RowKit
open Classical
def ks (A : Asg) : List ByteArray := A.map (·.1)
noncomputable def ld (A : Asg) (m : ByteArray) : Nat := (rowOf A m).length
def NearK (A : Asg) : Prop := ∀ m ∈ ks A, ∀ m' ∈ ks A, ld A m ≤ ld A m' + 1
theorem all_rows {A : Asg} (hn : (ks A).Nodup) : allOf A = (ks A).flatMap (rowOf A) := by
 unfold allOf ks
 rw [List.flatMap_map, List.flatMap_def, List.flatMap_def, rowOf_self hn]
theorem ld_mem {A : Asg} (hn : (ks A).Nodup) {m : ByteArray} {xs : List (ByteArray × Int)} (h : (m, xs) ∈ A) : ld A m = xs.length := by unfold ld; rw [rowOf_mem hn h]
theorem ks_mem {A : Asg} {m : ByteArray} (hn : (ks A).Nodup) (h : m ∈ ks A) : (m, rowOf A m) ∈ A := by
 obtain ⟨r, hr, rfl⟩ := List.mem_map.1 h
 rw [rowOf_mem hn hr]; exact hr
theorem nearK_iff {A : Asg} (hn : (ks A).Nodup) : NearK A ↔ Near (loads A) := by
 constructor
 · intro h x hx y hy
   obtain ⟨r, hr, rfl⟩ := List.mem_map.1 hx
   obtain ⟨s, hs, rfl⟩ := List.mem_map.1 hy
   have := h r.1 (List.mem_map_of_mem hr) s.1 (List.mem_map_of_mem hs)
   rw [ld_mem hn hr, ld_mem hn hs] at this; exact this
 · intro h m hm m' hm'
   exact h _ (List.mem_map_of_mem (f := fun r : ByteArray × List (ByteArray × Int) => r.2.length) (ks_mem hn hm)) _ (List.mem_map_of_mem (f := fun r : ByteArray × List (ByteArray × Int) => r.2.length) (ks_mem hn hm'))
structure Moved (A A' : Asg) (c d : ByteArray) (p : ByteArray × Int) : Prop where
 keys : ks A' = ks A
 src : (rowOf A c).Perm (p :: rowOf A' c)
 dst : (rowOf A' d).Perm (p :: rowOf A d)
 oth : ∀ m, m ≠ c → m ≠ d → rowOf A' m = rowOf A m
section
variable {A A' : Asg} {c d : ByteArray} {p : ByteArray × Int}
theorem Moved.ldc (h : Moved A A' c d p) : ld A c = ld A' c + 1 := by unfold ld; rw [h.src.length_eq]; rfl
theorem Moved.ldd (h : Moved A A' c d p) : ld A' d = ld A d + 1 := by unfold ld; rw [h.dst.length_eq]; rfl
theorem Moved.ldo (h : Moved A A' c d p) {m : ByteArray} (h1 : m ≠ c) (h2 : m ≠ d) : ld A' m = ld A m := by unfold ld; rw [h.oth m h1 h2]
theorem perm_two {K : List ByteArray} (hK : K.Nodup) (hc : c ∈ K) (hd : d ∈ K) (hcd : c ≠ d) : ∃ L, K.Perm (c :: d :: L) ∧ c ∉ L ∧ d ∉ L := by
 obtain ⟨X, Y, rfl⟩ := List.append_of_mem hc
 have h1 : (X ++ c :: Y).Perm (c :: (X ++ Y)) := List.perm_middle
 have hn1 := h1.nodup_iff.1 hK
 have hd1 : d ∈ X ++ Y := by
  rcases Zmc.1 (h1.mem_iff.1 hd) with h | h
  · exact absurd h.symm hcd
  · exact h
 obtain ⟨X2, Y2, e⟩ := List.append_of_mem hd1
 rw [e] at h1 hn1
 have h2 : (X2 ++ d :: Y2).Perm (d :: (X2 ++ Y2)) := List.perm_middle
 have hn2 := (h2.cons c).nodup_iff.1 hn1
 refine ⟨X2 ++ Y2, h1.trans (h2.cons c), ?_, ?_⟩
 · rw [List.nodup_cons] at hn2
   exact fun h => hn2.1 (by simp [Zmc, h])
 · rw [List.nodup_cons, List.nodup_cons] at hn2
   exact hn2.2.1
theorem Moved.all (h : Moved A A' c d p) (hn : (ks A).Nodup) (hc : c ∈ ks A) (hd : d ∈ ks A) (hcd : c ≠ d) : (allOf A').Perm (allOf A) := by
 rw [all_rows hn, all_rows (by rw [h.keys]; exact hn), h.keys]
 obtain ⟨L, hp, h1, h2⟩ := perm_two hn hc hd hcd
 refine (hp.flatMap_right _).trans (List.Perm.trans ?_ (hp.flatMap_right _).symm)
 rw [List.flatMap_cons, List.flatMap_cons, List.flatMap_cons, List.flatMap_cons]
 have e : L.flatMap (rowOf A') = L.flatMap (rowOf A) := by
  rw [List.flatMap_def, List.flatMap_def]
  congr 1
  exact List.map_congr_left fun m hm => h.oth m (fun e => h1 (e ▸ hm)) (fun e => h2 (e ▸ hm))
 rw [e]
 have h3 : (rowOf A' c ++ (rowOf A' d ++ L.flatMap (rowOf A))).Perm (rowOf A' c ++ (p :: rowOf A d ++ L.flatMap (rowOf A))) := List.Perm.append_left _ (h.dst.append_right _)
 have h4 : (rowOf A c ++ (rowOf A d ++ L.flatMap (rowOf A))).Perm (p :: rowOf A' c ++ (rowOf A d ++ L.flatMap (rowOf A))) := h.src.append_right _
 refine h3.trans (List.Perm.trans ?_ h4.symm)
 simp
noncomputable def sqs (A : Asg) : Nat := ((ks A).map fun m => ld A m * ld A m).sum
theorem Moved.sq (h : Moved A A' c d p) (hn : (ks A).Nodup) (hc : c ∈ ks A) (hd : d ∈ ks A) (h2 : ld A d + 2 ≤ ld A c) : sqs A' < sqs A := by
 have hcd : c ≠ d := fun e => by subst e; omega
 unfold sqs
 rw [h.keys]
 obtain ⟨L, hp, h3, h4⟩ := perm_two hn hc hd hcd
 rw [(hp.map _).sum_nat, (hp.map _).sum_nat]
 have e : L.map (fun m => ld A' m * ld A' m) = L.map (fun m => ld A m * ld A m) := List.map_congr_left fun m hm => by rw [h.ldo (fun e => h3 (e ▸ hm)) (fun e => h4 (e ▸ hm))]
 simp only [List.map_cons, List.sum_cons]
 rw [e]
 have e1 := h.ldc
 have e2 := h.ldd
 rw [e2]
 generalize ld A' c = x at *
 generalize ld A d = y at *
 rw [e1] at h2 ⊢
 have e3 : (x + 1) * (x + 1) = x * x + 2 * x + 1 := by rw [Nat.mul_add, Nat.add_mul]; omega
 have e4 : (y + 1) * (y + 1) = y * y + 2 * y + 1 := by rw [Nat.mul_add, Nat.add_mul]; omega
 omega
end
structure MInv (S : List (ByteArray × Int)) (Inv : Nat → Asg → Prop) : Prop where
 move : ∀ i A A' p c d, Inv i A → S[i]? = some p → ¬ NearK A → c ∈ ks A → d ∈ ks A → p ∈ rowOf A c → (∀ m ∈ ks A, ld A d ≤ ld A m) → ld A d + 2 ≤ ld A c → Moved A A' c d p → Inv (i + 1) A'
 skip : ∀ i A p c, Inv i A → S[i]? = some p → ¬ NearK A → c ∈ ks A → p ∈ rowOf A c → (∀ m ∈ ks A, ld A c ≤ ld A m + 1) → Inv (i + 1) A
 again : ∀ A, Inv S.length A → Inv 0 A
 bal : ∀ i A, Inv i A → NearK A → Inv 0 A
theorem minv_true (S : List (ByteArray × Int)) : MInv S (fun _ _ => True) := ⟨fun _ _ _ _ _ _ _ _ _ _ _ _ _ _ _ => trivial, fun _ _ _ _ _ _ _ _ _ _ => trivial, fun _ _ => trivial, fun _ _ _ _ => trivial⟩
structure JI (A0 : Asg) (nw : ByteArray) (S : List (ByteArray × Int)) (i : Nat) (A : Asg) : Prop where
 keys : ks A = ks A0
 new : (rowOf A nw).Perm (S.take i)
 old : ∀ m ∈ ks A0, m ≠ nw → (rowOf A m).Perm ((rowOf A0 m).filter fun x => decide (x ∉ S.take i))
 near : ∀ m ∈ ks A0, ∀ m' ∈ ks A0, m ≠ nw → m' ≠ nw → ld A m ≤ ld A m' + 1
 le : ∀ m ∈ ks A0, m ≠ nw → ld A nw ≤ ld A m
structure Most (A0 : Asg) (nw : ByteArray) (S : List (ByteArray × Int)) : Prop where
 nd : S.Nodup
 all : S.Perm (allOf A0)
 top : ∀ (i : Nat) p c, S[i]? = some p → c ∈ ks A0 → p ∈ rowOf A0 c → ∀ m ∈ ks A0, m ≠ nw → ((rowOf A0 m).filter fun x => decide (x ∉ S.take i)).length ≤ ((rowOf A0 c).filter fun x => decide (x ∉ S.take i)).length
theorem filter_next {L S : List (ByteArray × Int)} {i : Nat} {p : ByteArray × Int} (hS : S[i]? = some p) (hp : p ∉ S.take i) (hL : L.Nodup) :
 (p ∈ L → (L.filter fun x => decide (x ∉ S.take i)).Perm (p :: L.filter fun x => decide (x ∉ S.take (i + 1)))) ∧ (p ∉ L → (L.filter fun x => decide (x ∉ S.take (i + 1))) = L.filter fun x => decide (x ∉ S.take i)) := by
 have ht : ∀ x, x ∉ S.take (i + 1) ↔ x ∉ S.take i ∧ x ≠ p := fun x => by
  obtain ⟨h1, h2⟩ := List.getElem?_eq_some_iff.1 hS
  rw [List.take_succ_eq_append_getElem h1, h2]
  simp
 constructor
 · intro h
   refine perm_of_nodup (hL.filter _) ?_ fun x => ?_
   · rw [List.nodup_cons]
     exact ⟨fun h1 => by
      have := (List.mem_filter.1 h1).2
      simp only [decide_eq_true_eq] at this
      exact ((ht p).1 this).2 rfl, hL.filter _⟩
   · rw [Zmc, List.mem_filter, List.mem_filter]
     simp only [decide_eq_true_eq]
     rw [ht]
     by_cases e : x = p
     · subst e; simp [h, hp]
     · simp [e]
 · intro h
   refine List.filter_congr fun x hx => ?_
   have : x ≠ p := fun e => h (e ▸ hx)
   rw [decide_eq_decide, ht]
   simp [this]
section
variable {A0 A A' : Asg} {nw c d : ByteArray} {S : List (ByteArray × Int)} {i : Nat} {p : ByteArray × Int}
theorem rows_nodup (hn : (ks A).Nodup) (ha : (allOf A).Nodup) {m : ByteArray} (hm : m ∈ ks A) : (rowOf A m).Nodup := by
 have h := ks_mem hn hm
 obtain ⟨B, C, e⟩ := List.append_of_mem h
 unfold allOf at ha
 rw [e, List.flatMap_append, List.flatMap_cons, List.nodup_append, List.nodup_append] at ha
 exact ha.2.1.1
theorem rows_one (hn : (ks A).Nodup) (ha : (allOf A).Nodup) {m m' : ByteArray} (hm : m ∈ ks A) (hm' : m' ∈ ks A) (h1 : p ∈ rowOf A m) (h2 : p ∈ rowOf A m') : m = m' :=
 has_one ha ⟨_, ks_mem hn hm, h1⟩ ⟨_, ks_mem hn hm', h2⟩
theorem JI.most (h : JI A0 nw S i A) (hM : Most A0 nw S) (hS : S[i]? = some p) (hn : (ks A0).Nodup) (hc : c ∈ ks A0) (hcw : c ≠ nw) (hp : p ∈ rowOf A c) {m : ByteArray} (hm : m ∈ ks A0) (hmw : m ≠ nw) : ld A m ≤ ld A c := by
 have h1 := (List.mem_filter.1 ((h.old c hc hcw).mem_iff.1 hp)).1
 have := hM.top i p c hS hc h1 m hm hmw
 unfold ld
 rw [(h.old m hm hmw).length_eq, (h.old c hc hcw).length_eq]
 exact this
theorem notTake (hd : S.Nodup) (hS : S[i]? = some p) : p ∉ S.take i := fun h => by
 obtain ⟨j, hj⟩ := List.mem_iff_getElem?.1 h
 have hji : j < i := by
  have := (List.getElem?_eq_some_iff.1 hj).1
  rw [List.length_take] at this; omega
 rw [List.getElem?_take_of_lt hji] at hj
 have := (List.getElem?_inj (List.getElem?_eq_some_iff.1 hj).1 hd).1 (hj.trans hS.symm)
 omega
theorem JI.owner (h : JI A0 nw S i A) (hM : Most A0 nw S) (hS : S[i]? = some p) (hp : p ∈ rowOf A c) : c ≠ nw := fun e => by
 subst e
 exact notTake hM.nd hS (h.new.mem_iff.1 hp)
theorem JI.step (h : JI A0 nw S i A) (hM : Most A0 nw S) (hn : (ks A0).Nodup) (ha : (allOf A0).Nodup) (hw : nw ∈ ks A0) (hS : S[i]? = some p) (hc : c ∈ ks A0) (hd : d ∈ ks A0) (hp : p ∈ rowOf A c) (hmin : ∀ m ∈ ks A0, ld A d ≤ ld A m) (h2 : ld A d + 2 ≤ ld A c) (hmv : Moved A A' c d p) : JI A0 nw S (i + 1) A' := by
 have hcw := h.owner hM hS hp
 have hdw : d = nw := Classical.byContradiction fun hdw => by
  have := h.near c hc d hd hcw hdw; omega
 subst hdw
 have hnt := notTake hM.nd hS
 have hp0 := (List.mem_filter.1 ((h.old c hc hcw).mem_iff.1 hp)).1
 have e1 := hmv.ldc
 have e2 := hmv.ldd
 have hld : ∀ m ∈ ks A0, m ≠ d → m ≠ c → ld A' m = ld A m := fun m _ h3 h4 => hmv.ldo h4 h3
 have hmx : ∀ m ∈ ks A0, m ≠ d → ld A m ≤ ld A c := fun m hm hmw => h.most hM hS hn hc hcw hp hm hmw
 have htk : (S.take (i + 1)).Perm (p :: S.take i) := by
  obtain ⟨h5, h6⟩ := List.getElem?_eq_some_iff.1 hS
  rw [List.take_succ_eq_append_getElem h5, h6]
  exact List.perm_append_singleton _ _
 refine ⟨hmv.keys.trans h.keys, (hmv.dst.trans (h.new.cons p)).trans htk.symm, fun m hm hmw => ?_, fun m hm m' hm' h3 h4 => ?_, fun m hm h3 => ?_⟩
 · by_cases e : m = c
   · subst e
     have h5 := (filter_next hS hnt (rows_nodup hn ha hm)).1 hp0
     exact (List.perm_cons p).1 ((hmv.src.symm.trans (h.old m hm hmw)).trans h5)
   · rw [hmv.oth m e hmw, (filter_next hS hnt (rows_nodup hn ha hm)).2 (fun h5 => e (rows_one hn ha hm hc h5 hp0))]
     exact h.old m hm hmw
 · have a1 := hmx m hm h3
   have a2 := hmx m' hm' h4
   have a3 := h.near c hc m' hm' hcw h4
   have a4 := h.near m hm m' hm' h3 h4
   by_cases q1 : m = c
   · by_cases q2 : m' = c
     · rw [q1, q2]; omega
     · rw [q1, hld m' hm' h4 q2]; omega
   · by_cases q2 : m' = c
     · rw [q2, hld m hm h3 q1]; omega
     · rw [hld m hm h3 q1, hld m' hm' h4 q2]; exact a4
 · have a3 := h.near c hc m hm hcw h3
   by_cases q : m = c
   · rw [q]; omega
   · rw [hld m hm h3 q]; omega
theorem JI.full (h : JI A0 nw S S.length A) (hM : Most A0 nw S) (hn : (ks A0).Nodup) : NearK A := by
 have h0 : ∀ m ∈ ks A0, m ≠ nw → ld A m = 0 := fun m hm hmw => by
  unfold ld
  rw [(h.old m hm hmw).length_eq, List.take_length, List.length_eq_zero_iff, List.filter_eq_nil_iff]
  intro x hx
  have : x ∈ S := hM.all.mem_iff.2 (allOf_mem.2 ⟨m, _, ks_mem hn hm, hx⟩)
  simp [this]
 intro m hm m' hm'
 rw [h.keys] at hm hm'
 by_cases e : m = nw
 · by_cases e2 : m' = nw
   · rw [e, e2]; omega
   · have := h.le m' hm' e2
     rw [e]; omega
 · rw [h0 m hm e]; omega
theorem JI.sub (h : JI A0 nw S i A) {m : ByteArray} (hm : m ∈ ks A0) (hmw : m ≠ nw) : ∀ x ∈ rowOf A m, x ∈ rowOf A0 m := fun x hx => (List.mem_filter.1 ((h.old m hm hmw).mem_iff.1 hx)).1
end
structure Gain (A : Asg) (Gs : List ByteArray) : Prop where
 inn : ∀ g ∈ Gs, g ∈ ks A
 low : ∀ g ∈ Gs, ∀ m ∈ ks A, ld A g ≤ ld A m + 1
theorem gain_nil (A : Asg) : Gain A [] := ⟨by simp, by simp⟩
section
variable {A A' : Asg} {c d : ByteArray} {p : ByteArray × Int} {Gs : List ByteArray}
theorem Gain.not (h : Gain A Gs) (hd : d ∈ ks A) (h2 : ld A d + 2 ≤ ld A c) : c ∉ Gs := fun hc => by
 have := h.low c hc d hd; omega
theorem Gain.fresh (h : Gain A Gs) (hn : (ks A).Nodup) (ha : (allOf A).Nodup) (hc : c ∈ ks A) (hd : d ∈ ks A) (hp : p ∈ rowOf A c) (h2 : ld A d + 2 ≤ ld A c) : ¬ ∃ g ∈ Gs, p ∈ rowOf A g := by
 rintro ⟨g, hg, hpg⟩
 have := rows_one hn ha (h.inn g hg) hc hpg hp
 subst this
 exact h.not hd h2 hg
theorem Gain.step (h : Gain A Gs) (hc : c ∈ ks A) (hd : d ∈ ks A) (hmin : ∀ m ∈ ks A, ld A d ≤ ld A m) (h2 : ld A d + 2 ≤ ld A c) (hmv : Moved A A' c d p) :
 Gain A' (d :: Gs) ∧ (∀ q, (∃ g ∈ Gs, q ∈ rowOf A g) → ∃ g ∈ d :: Gs, q ∈ rowOf A' g) ∧ ∃ g ∈ d :: Gs, p ∈ rowOf A' g := by
 have hcn := h.not hd h2
 have hcd : c ≠ d := fun e => by subst e; omega
 have e1 := hmv.ldc
 have e2 := hmv.ldd
 refine ⟨⟨fun g hg => ?_, fun g hg m hm => ?_⟩, fun q hq => ?_, d, by simp, hmv.dst.mem_iff.2 (by simp)⟩
 · rw [hmv.keys]
   rcases Zmc.1 hg with rfl | hg
   · exact hd
   · exact h.inn g hg
 · rw [hmv.keys] at hm
   have a1 := hmin m hm
   have a2 : ld A' m ≥ ld A d := by
    by_cases q1 : m = c
    · subst q1; omega
    · by_cases q2 : m = d
      · subst q2; omega
      · rw [hmv.ldo q1 q2]; exact a1
   by_cases e : g = d
   · subst e; omega
   · rcases Zmc.1 hg with hg | hg
     · exact absurd hg e
     · have hgc : g ≠ c := fun e => hcn (e ▸ hg)
       rw [hmv.ldo hgc e]
       have := h.low g hg d hd
       omega
 · obtain ⟨g, hg, hqg⟩ := hq
   refine ⟨g, List.mem_cons_of_mem _ hg, ?_⟩
   have hgc : g ≠ c := fun e => hcn (e ▸ hg)
   by_cases e : g = d
   · subst e; exact hmv.dst.mem_iff.2 (List.mem_cons_of_mem _ hqg)
   · rw [hmv.oth g hgc e]; exact hqg
end
end
end Go.Proofs.YticcnlpfmekagaaGreat
