/- Part 24 of the proof of the row: StLaw, PlanP, SrtA, MvP, HeapP. -/
import Derived.Test.YticcnlpfmekagaaGreatRj00
import Derived.Test.YticcnlpfmekagaaGreatRj12
import Derived.Test.YticcnlpfmekagaaGreatRj23
import Derived.Test.YticcnlpfmekagaaGreatRj17
import Derived.Test.YticcnlpfmekagaaGreatRj18
set_option linter.unusedVariables false
set_option linter.unusedSimpArgs false
set_option maxRecDepth 100000
set_option maxHeartbeats 8000000
namespace Go.Proofs.YticcnlpfmekagaaGreat
section
open Go Go.RowKit
open Classical
structure PlanOk (Ns : List ByteArray) (Old : ByteArray → List (ByteArray × Int)) (T : List (ByteArray × Int)) (A : Asg) : Prop where
 keys : (A.map (·.1)).Perm Ns
 all : (allOf A).Perm T
 near : Near (loads A)
 keep : ∀ m xs, (m, xs) ∈ A → ∀ p ∈ Old m, p ∈ xs
section
variable {Ns Ns2 : List ByteArray} {Old Old2 : ByteArray → List (ByteArray × Int)} {T T2 : List (ByteArray × Int)} {A A2 : Asg} {S S2 : List Tr}
theorem PlanOk.nodup (h : PlanOk Ns Old T A) (hT : T.Nodup) : (allOf A).Nodup := h.all.nodup_iff.2 hT
theorem Shows.oneT (h : Shows S A) (hA : (allOf A).Nodup) : OneT S := oneT_of (h.perm.nodup_iff.2 hA)
theorem PlanOk.keyIn (h : PlanOk Ns Old T A) {m : ByteArray} {p : ByteArray × Int} (hp : Has A m p) : m ∈ Ns := by
 obtain ⟨xs, hx, _⟩ := hp
 exact h.keys.mem_iff.1 (List.mem_map.2 ⟨_, hx, rfl⟩)
end
structure Canon (lt : ByteArray × ByteArray → ByteArray × ByteArray → Prop) (S : List Tr) : Prop where
 sorted : (S.map fun x => (x.1, x.2.1)).Pairwise lt
 full : ∀ x ∈ S, x.2.2 ≠ []
theorem flatT_part {S : List Tr} (h : (flatT S).Nodup) {x : Tr} (hx : x ∈ S) : x.2.2.Nodup := by
 obtain ⟨A, B, rfl⟩ := List.append_of_mem hx
 unfold flatT at h
 rw [List.flatMap_append, List.flatMap_cons, List.nodup_append] at h
 have h1 := (List.nodup_append.1 h.2.1).1
 exact (List.pairwise_map.1 h1).imp fun h e => h (by rw [e])
theorem perm_of_nodup {α : Type} {L K : List α} (hL : L.Nodup) (hK : K.Nodup) (h : ∀ x, x ∈ L ↔ x ∈ K) : L.Perm K := (List.perm_ext_iff_of_nodup hL hK).2 (by simpa using h)
end
section
open Go Go.Proofs Go.RowKit Go.Lib
open Classical
theorem pairs_filter {κ α : Type} : ∀ {L : List (κ × List α)} {k : κ} {ps : List α}, (L.map (·.1)).Nodup → (k, ps) ∈ L → ((L.flatMap fun y => y.2.map fun p => (y.1, p)).filter fun z => decide (z.1 = k)).map (·.2) = ps
 | [], _, _, _, h => by cases h
 | y :: L, k, ps, hn, h => by
   simp only [List.map_cons, List.nodup_cons] at hn
   rw [List.flatMap_cons, List.filter_append, List.map_append]
   rcases Zmc.1 h with e | h
   · subst e
     have h1 : (List.map (fun p => (k, p)) ps).filter (fun z => decide (z.1 = k)) = List.map (fun p => (k, p)) ps := List.filter_eq_self.2 (fun z hz => by
      obtain ⟨p, _, rfl⟩ := List.mem_map.1 hz; simp)
     have h2 : (L.flatMap fun y => y.2.map fun p => (y.1, p)).filter (fun z => decide (z.1 = k)) = [] := List.filter_eq_nil_iff.2 (fun z hz => by
      obtain ⟨y, hy, hz⟩ := List.mem_flatMap.1 hz
      obtain ⟨p, _, rfl⟩ := List.mem_map.1 hz
      simp only [decide_eq_true_eq]
      rintro rfl
      exact hn.1 (List.mem_map.2 ⟨_, hy, rfl⟩))
     simp only
     rw [h1, h2]
     simp [Function.comp_def]
   · have hne : y.1 ≠ k := fun e => hn.1 (e ▸ List.mem_map_of_mem (f := fun x : κ × List α => x.1) h)
     have h1 : (List.map (fun p => (y.1, p)) y.2).filter (fun z => decide (z.1 = k)) = [] := List.filter_eq_nil_iff.2 (fun z hz => by
      obtain ⟨p, _, rfl⟩ := List.mem_map.1 hz; simpa using hne)
     rw [h1, pairs_filter hn.2 h]
     rfl
structure PreOk (Xs : List Md) (A1 : List Rw) : Prop where
 keys : (A1.map (·.1)).Perm (Xs.map (·.name))
 row : ∀ x ∈ Xs, ∀ v ps, (x.name, v, ps) ∈ A1 → ps.Perm x.parts
 tot : (A1.flatMap (·.2.2)).Perm (Xs.flatMap (·.parts))
theorem pre_ok {Xs Dn : List Md} {A E : List Rw} (hX : (Xs.map (·.name)).Nodup) (hA : ((A ++ E).map (·.1)).Nodup)
 (hp : (A.flatMap fun y => y.2.2.map fun p => (y.1, p)).Perm (Xs.flatMap fun x => x.parts.map fun p => (x.name, p))) (hne : ∀ y ∈ A, y.2.2 ≠ []) (hD : Dn.Perm Xs)
 (hE : ∀ y ∈ E, y.2.2 = [] ∧ y.1 ∈ Dn.map (·.name)) (hin : ∀ m ∈ Dn.map (·.name), m ∈ (A ++ E).map (·.1)) : PreOk Xs (A ++ E) := by
 have e0 : ((A ++ E).flatMap fun y => y.2.2.map fun p => (y.1, p)) = A.flatMap fun y => y.2.2.map fun p => (y.1, p) := by
  rw [List.flatMap_append]
  have : (E.flatMap fun y => y.2.2.map fun p => (y.1, p)) = [] := List.flatMap_eq_nil_iff.2 fun y hy => by rw [(hE y hy).1]; rfl
  rw [this, List.append_nil]
 rw [← e0] at hp
 have hDn := hD.map (·.name)
 refine ⟨?_, ?_, ?_⟩
 · refine perm_of_nodup hA hX fun m => ⟨fun hm => ?_, fun hm => hin m (hDn.mem_iff.2 hm)⟩
   rw [List.map_append] at hm
   rcases Zap.1 hm with hm | hm
   · obtain ⟨y, hy, rfl⟩ := List.mem_map.1 hm
     cases hps : y.2.2 with
     | nil => exact absurd hps (hne y hy)
     | cons p ps =>
       have h1 : (y.1, p) ∈ (A ++ E).flatMap fun y => y.2.2.map fun p => (y.1, p) := List.mem_flatMap.2 ⟨y, by simp [hy], List.mem_map.2 ⟨p, by rw [hps]; simp, rfl⟩⟩
       obtain ⟨x, hx, h2⟩ := List.mem_flatMap.1 (hp.mem_iff.1 h1)
       obtain ⟨q, _, e⟩ := List.mem_map.1 h2
       exact List.mem_map.2 ⟨x, hx, (Prod.mk.inj e).1⟩
   · obtain ⟨y, hy, rfl⟩ := List.mem_map.1 hm
     exact hDn.mem_iff.1 (hE y hy).2
 · intro x hx v ps hr
   have e1 : ((A ++ E).flatMap fun y => y.2.2.map fun p => (y.1, p)) = ((A ++ E).map fun y => (y.1, y.2.2)).flatMap fun y => y.2.map fun p => (y.1, p) := by rw [List.flatMap_map]
   have e2 : (Xs.flatMap fun x => x.parts.map fun p => (x.name, p)) = (Xs.map fun x => (x.name, x.parts)).flatMap fun y => y.2.map fun p => (y.1, p) := by rw [List.flatMap_map]
   have h1 := pairs_filter (L := (A ++ E).map fun y => (y.1, y.2.2)) (k := x.name) (ps := ps) (by simpa [Function.comp_def] using hA) (List.mem_map.2 ⟨_, hr, rfl⟩)
   have h2 := pairs_filter (L := Xs.map fun x => (x.name, x.parts)) (k := x.name) (ps := x.parts) (by simpa [Function.comp_def] using hX) (List.mem_map.2 ⟨_, hx, rfl⟩)
   rw [e1, e2] at hp
   rw [← h1, ← h2]
   exact (hp.filter _).map _
 · have h1 := hp.map (·.2)
   simpa [List.map_flatMap, Function.comp_def] using h1
theorem PreOk.near {Xs : List Md} {A1 : List Rw} (h : PreOk Xs A1) (hn : Near (Xs.map (·.parts.length))) : Near (A1.map (·.2.2.length)) := by
 have h1 : ∀ y ∈ A1, ∃ x ∈ Xs, y.2.2.length = x.parts.length := fun y hy => by
  obtain ⟨x, hx, e⟩ := List.mem_map.1 (h.keys.mem_iff.1 (List.mem_map_of_mem hy))
  exact ⟨x, hx, (h.row x hx y.2.1 y.2.2 (by rw [e]; exact hy)).length_eq⟩
 intro a ha b hb
 obtain ⟨y, hy, rfl⟩ := List.mem_map.1 ha
 obtain ⟨z, hz, rfl⟩ := List.mem_map.1 hb
 obtain ⟨x, hx, e1⟩ := h1 y hy
 obtain ⟨x', hx', e2⟩ := h1 z hz
 rw [e1, e2]
 exact hn _ (List.mem_map_of_mem hx) _ (List.mem_map_of_mem hx')
end
section
open Go Go.Proofs Go.RowKit Go.Lib
open Classical
def UnT (L : List TP) : List (Value × Value) := L.map fun p => (tpV p, .bool true)
theorem unT_snoc (L : List TP) (s : TP) : UnT L ++ [(tpV s, .bool true)] = UnT (L ++ [s]) := by simp [UnT]
theorem unT_split {L : List TP} {l1 l2 : List (Value × Value)} {k v : Value} (h : UnT L = l1 ++ (k, v) :: l2) : ∃ A p B, L = A ++ p :: B ∧ l1 = UnT A ∧ k = tpV p ∧ v = .bool true ∧ l2 = UnT B := by
 obtain ⟨A, p, B, rfl, h1, h2, h3⟩ := map_split _ L l1 l2 _ h
 rw [Prod.mk.injEq] at h2
 exact ⟨A, p, B, rfl, h1, h2.1, h2.2, h3⟩
theorem unT_append (A B : List TP) : UnT (A ++ B) = UnT A ++ UnT B := by simp [UnT]
theorem unT_nodup {L : List TP} (h : L.Nodup) : ((UnT L).map (·.1)).Nodup := by
 have e : (UnT L).map (·.1) = L.map (fun p : TP => (tpV p : Value)) := by simp [UnT]
 rw [e]
 exact List.nodup_iff_pairwise_ne.2 ((List.nodup_iff_pairwise_ne.1 h).map _ (fun a b h1 h2 => h1 (tpV_inj h2)))
theorem unT_miss {L : List TP} {s : TP} (h : s ∉ L) : ∀ u, (tpV s, u) ∉ UnT L := by
 intro u hu
 obtain ⟨t, ht, e⟩ := List.mem_map.1 hu
 rw [Prod.mk.injEq] at e
 exact h (tpV_inj e.1 ▸ ht)
theorem p2c_keys {w : World} {r : Nat} {B : List Sw} (h : RowsAt w isTp r 9 1 (rowsS B)) : (B.map (·.1)).Nodup := by
 have h1 := h.keys
 have e : (rowsS B).map (·.1) = (B.map (·.1)).map (fun p : TP => (tpV p : Value)) := by simp [rowsS, rowS, Function.comp_def]
 rw [e] at h1
 exact (List.pairwise_map.1 h1).imp fun h e => h (by rw [e])
structure SrtOk (n np N : Nat) (A : List Rw) (B : List Sw) (Pp : List Rw) (Ks : List ByteArray) (Ps : List TP) : Prop where
 id : IdOk n B Ks
 pp : ∀ x ∈ Pp, x.2.2.Perm Ps
 nd : Ps.Nodup
 nl : Ps.length = np
 pos : 0 < np
 small : np ≤ 1000
 bn : B.length = N
 bs : N ≤ 1000
 al : A.length ≤ 1000
 ab : ∀ x ∈ A, x.2.2.length ≤ 1000
 an : Nils A
 ain : ∀ x ∈ A, ∀ p ∈ x.2.2, p ∈ B.map (·.1)
 adis : (A.flatMap (·.2.2)).Nodup
def SrtPost (w : World) (N : Nat) (B : List Sw) (e : Ending) (w' : World) : Prop :=
 ∃ (v : Value) (zs : List TP), e = .returned v ∧ zs.Perm (B.map (·.1)) ∧ St [] w w' [Rs.row 384 2 v N (zs.flatMap encTp)] []
def SPQ (w : World) (r' it g b nq c gs cs rm : Nat) (B' : List Rw) (keys : List TP) (R : List Res) (i : Value) (wr : World) : Prop :=
 ∃ (k : Nat) (Dn Lf : List Rw) (L : List It) (rs : List Value), i = .int .i64 k ∧ Dn.length = k ∧ (Dn ++ Lf).Perm B' ∧ Made Dn L ∧ rs.length = Lf.length ∧
  St [] w wr [Rs.its L, qbox b g nq c, Rs.row 412 1 (.slice (some ⟨g, 0, none⟩) nq c) nq (ptrs L ++ rs), itB r' B' (rawR (rowsT Lf)) it, Rs.row 384 2 (.slice (some ⟨gs, 0, none⟩) 0 cs) 0 [], Rs.map rm isTp (UnT keys)] R
abbrev MQ (r' b g n cq rm : Nat) (B' : List Rw) (Q : List (It × List TP)) (v : Value) (na : Nat) (acc Un : List TP) : List Res :=
 [qrow g n cq (Q.map (·.1)), Rs.its (Q.map (·.1)), qbox b g n cq, Rs.cur r' B', Rs.row 384 2 v na (acc.flatMap encTp), Rs.map rm isTp (UnT Un)]
def SPA (w : World) (rk it rm : Nat) (B : List Sw) (R : List Res) (wr : World) : Prop :=
 ∃ (Dn Lf : List Sw), (Dn ++ Lf).Perm B ∧ St [] w wr [Rs.map rm isTp (UnT (Dn.map (·.1)))] (itQ rk B (rawR (rowsS Lf)) it :: R)
end
section
open Go Go.RowKit
open Classical
def ks (A : Asg) : List ByteArray := A.map (·.1)
noncomputable def ld (A : Asg) (m : ByteArray) : Nat := (rowOf A m).length
def NearK (A : Asg) : Prop := ∀ m ∈ ks A, ∀ m' ∈ ks A, ld A m ≤ ld A m' + 1
theorem all_rows {A : Asg} (hn : (ks A).Nodup) : allOf A = (ks A).flatMap (rowOf A) := by
 unfold allOf ks
 rw [List.flatMap_map, List.flatMap_def, List.flatMap_def, rowOf_self hn]
theorem ld_mem {A : Asg} (hn : (ks A).Nodup) {m : ByteArray} {xs : List (ByteArray × Int)} (h : (m, xs) ∈ A) : ld A m = xs.length := by unfold ld; rw [rowOf_mem hn h]
theorem ks_mem {A : Asg} {m : ByteArray} (hn : (ks A).Nodup) (h : m ∈ ks A) : (m, rowOf A m) ∈ A := by
 obtain ⟨r, hr, rfl⟩ := List.mem_map.1 h
 rw [rowOf_mem hn hr]; exact hr
theorem nearK_iff {A : Asg} (hn : (ks A).Nodup) : NearK A ↔ Near (loads A) := by
 constructor
 · intro h x hx y hy
   obtain ⟨r, hr, rfl⟩ := List.mem_map.1 hx
   obtain ⟨s, hs, rfl⟩ := List.mem_map.1 hy
   have := h r.1 (List.mem_map_of_mem hr) s.1 (List.mem_map_of_mem hs)
   rw [ld_mem hn hr, ld_mem hn hs] at this; exact this
 · intro h m hm m' hm'
   exact h _ (List.mem_map_of_mem (f := fun r : ByteArray × List (ByteArray × Int) => r.2.length) (ks_mem hn hm)) _ (List.mem_map_of_mem (f := fun r : ByteArray × List (ByteArray × Int) => r.2.length) (ks_mem hn hm'))
structure Moved (A A' : Asg) (c d : ByteArray) (p : ByteArray × Int) : Prop where
 keys : ks A' = ks A
 src : (rowOf A c).Perm (p :: rowOf A' c)
 dst : (rowOf A' d).Perm (p :: rowOf A d)
 oth : ∀ m, m ≠ c → m ≠ d → rowOf A' m = rowOf A m
section
variable {A A' : Asg} {c d : ByteArray} {p : ByteArray × Int}
theorem Moved.ldc (h : Moved A A' c d p) : ld A c = ld A' c + 1 := by unfold ld; rw [h.src.length_eq]; rfl
theorem Moved.ldd (h : Moved A A' c d p) : ld A' d = ld A d + 1 := by unfold ld; rw [h.dst.length_eq]; rfl
theorem Moved.ldo (h : Moved A A' c d p) {m : ByteArray} (h1 : m ≠ c) (h2 : m ≠ d) : ld A' m = ld A m := by unfold ld; rw [h.oth m h1 h2]
theorem perm_two {K : List ByteArray} (hK : K.Nodup) (hc : c ∈ K) (hd : d ∈ K) (hcd : c ≠ d) : ∃ L, K.Perm (c :: d :: L) ∧ c ∉ L ∧ d ∉ L := by
 obtain ⟨X, Y, rfl⟩ := List.append_of_mem hc
 have h1 : (X ++ c :: Y).Perm (c :: (X ++ Y)) := List.perm_middle
 have hn1 := h1.nodup_iff.1 hK
 have hd1 : d ∈ X ++ Y := by
  rcases Zmc.1 (h1.mem_iff.1 hd) with h | h
  · exact absurd h.symm hcd
  · exact h
 obtain ⟨X2, Y2, e⟩ := List.append_of_mem hd1
 rw [e] at h1 hn1
 have h2 : (X2 ++ d :: Y2).Perm (d :: (X2 ++ Y2)) := List.perm_middle
 have hn2 := (h2.cons c).nodup_iff.1 hn1
 refine ⟨X2 ++ Y2, h1.trans (h2.cons c), ?_, ?_⟩
 · rw [List.nodup_cons] at hn2
   exact fun h => hn2.1 (by simp [Zmc, h])
 · rw [List.nodup_cons, List.nodup_cons] at hn2
   exact hn2.2.1
theorem Moved.all (h : Moved A A' c d p) (hn : (ks A).Nodup) (hc : c ∈ ks A) (hd : d ∈ ks A) (hcd : c ≠ d) : (allOf A').Perm (allOf A) := by
 rw [all_rows hn, all_rows (by rw [h.keys]; exact hn), h.keys]
 obtain ⟨L, hp, h1, h2⟩ := perm_two hn hc hd hcd
 refine (hp.flatMap_right _).trans (List.Perm.trans ?_ (hp.flatMap_right _).symm)
 rw [List.flatMap_cons, List.flatMap_cons, List.flatMap_cons, List.flatMap_cons]
 have e : L.flatMap (rowOf A') = L.flatMap (rowOf A) := by
  rw [List.flatMap_def, List.flatMap_def]
  congr 1
  exact List.map_congr_left fun m hm => h.oth m (fun e => h1 (e ▸ hm)) (fun e => h2 (e ▸ hm))
 rw [e]
 have h3 : (rowOf A' c ++ (rowOf A' d ++ L.flatMap (rowOf A))).Perm (rowOf A' c ++ (p :: rowOf A d ++ L.flatMap (rowOf A))) := List.Perm.append_left _ (h.dst.append_right _)
 have h4 : (rowOf A c ++ (rowOf A d ++ L.flatMap (rowOf A))).Perm (p :: rowOf A' c ++ (rowOf A d ++ L.flatMap (rowOf A))) := h.src.append_right _
 refine h3.trans (List.Perm.trans ?_ h4.symm)
 simp
noncomputable def sqs (A : Asg) : Nat := ((ks A).map fun m => ld A m * ld A m).sum
theorem Moved.sq (h : Moved A A' c d p) (hn : (ks A).Nodup) (hc : c ∈ ks A) (hd : d ∈ ks A) (h2 : ld A d + 2 ≤ ld A c) : sqs A' < sqs A := by
 have hcd : c ≠ d := fun e => by subst e; omega
 unfold sqs
 rw [h.keys]
 obtain ⟨L, hp, h3, h4⟩ := perm_two hn hc hd hcd
 rw [(hp.map _).sum_nat, (hp.map _).sum_nat]
 have e : L.map (fun m => ld A' m * ld A' m) = L.map (fun m => ld A m * ld A m) := List.map_congr_left fun m hm => by rw [h.ldo (fun e => h3 (e ▸ hm)) (fun e => h4 (e ▸ hm))]
 simp only [List.map_cons, List.sum_cons]
 rw [e]
 have e1 := h.ldc
 have e2 := h.ldd
 rw [e2]
 generalize ld A' c = x at *
 generalize ld A d = y at *
 rw [e1] at h2 ⊢
 have e3 : (x + 1) * (x + 1) = x * x + 2 * x + 1 := by rw [Nat.mul_add, Nat.add_mul]; omega
 have e4 : (y + 1) * (y + 1) = y * y + 2 * y + 1 := by rw [Nat.mul_add, Nat.add_mul]; omega
 omega
end
structure MInv (S : List (ByteArray × Int)) (Inv : Nat → Asg → Prop) : Prop where
 move : ∀ i A A' p c d, Inv i A → S[i]? = some p → ¬ NearK A → c ∈ ks A → d ∈ ks A → p ∈ rowOf A c → (∀ m ∈ ks A, ld A d ≤ ld A m) → ld A d + 2 ≤ ld A c → Moved A A' c d p → Inv (i + 1) A'
 skip : ∀ i A p c, Inv i A → S[i]? = some p → ¬ NearK A → c ∈ ks A → p ∈ rowOf A c → (∀ m ∈ ks A, ld A c ≤ ld A m + 1) → Inv (i + 1) A
 again : ∀ A, Inv S.length A → Inv 0 A
 bal : ∀ i A, Inv i A → NearK A → Inv 0 A
structure JI (A0 : Asg) (nw : ByteArray) (S : List (ByteArray × Int)) (i : Nat) (A : Asg) : Prop where
 keys : ks A = ks A0
 new : (rowOf A nw).Perm (S.take i)
 old : ∀ m ∈ ks A0, m ≠ nw → (rowOf A m).Perm ((rowOf A0 m).filter fun x => decide (x ∉ S.take i))
 near : ∀ m ∈ ks A0, ∀ m' ∈ ks A0, m ≠ nw → m' ≠ nw → ld A m ≤ ld A m' + 1
 le : ∀ m ∈ ks A0, m ≠ nw → ld A nw ≤ ld A m
structure Most (A0 : Asg) (nw : ByteArray) (S : List (ByteArray × Int)) : Prop where
 nd : S.Nodup
 all : S.Perm (allOf A0)
 top : ∀ (i : Nat) p c, S[i]? = some p → c ∈ ks A0 → p ∈ rowOf A0 c → ∀ m ∈ ks A0, m ≠ nw → ((rowOf A0 m).filter fun x => decide (x ∉ S.take i)).length ≤ ((rowOf A0 c).filter fun x => decide (x ∉ S.take i)).length
theorem filter_next {L S : List (ByteArray × Int)} {i : Nat} {p : ByteArray × Int} (hS : S[i]? = some p) (hp : p ∉ S.take i) (hL : L.Nodup) :
 (p ∈ L → (L.filter fun x => decide (x ∉ S.take i)).Perm (p :: L.filter fun x => decide (x ∉ S.take (i + 1)))) ∧ (p ∉ L → (L.filter fun x => decide (x ∉ S.take (i + 1))) = L.filter fun x => decide (x ∉ S.take i)) := by
 have ht : ∀ x, x ∉ S.take (i + 1) ↔ x ∉ S.take i ∧ x ≠ p := fun x => by
  obtain ⟨h1, h2⟩ := List.getElem?_eq_some_iff.1 hS
  rw [List.take_succ_eq_append_getElem h1, h2]
  simp
 constructor
 · intro h
   refine perm_of_nodup (hL.filter _) ?_ fun x => ?_
   · rw [List.nodup_cons]
     exact ⟨fun h1 => by
      have := (List.mem_filter.1 h1).2
      simp only [decide_eq_true_eq] at this
      exact ((ht p).1 this).2 rfl, hL.filter _⟩
   · rw [Zmc, List.mem_filter, List.mem_filter]
     simp only [decide_eq_true_eq]
     rw [ht]
     by_cases e : x = p
     · subst e; simp [h, hp]
     · simp [e]
 · intro h
   refine List.filter_congr fun x hx => ?_
   have : x ≠ p := fun e => h (e ▸ hx)
   rw [decide_eq_decide, ht]
   simp [this]
section
variable {A0 A A' : Asg} {nw c d : ByteArray} {S : List (ByteArray × Int)} {i : Nat} {p : ByteArray × Int}
theorem rows_nodup (hn : (ks A).Nodup) (ha : (allOf A).Nodup) {m : ByteArray} (hm : m ∈ ks A) : (rowOf A m).Nodup := by
 have h := ks_mem hn hm
 obtain ⟨B, C, e⟩ := List.append_of_mem h
 unfold allOf at ha
 rw [e, List.flatMap_append, List.flatMap_cons, List.nodup_append, List.nodup_append] at ha
 exact ha.2.1.1
theorem rows_one (hn : (ks A).Nodup) (ha : (allOf A).Nodup) {m m' : ByteArray} (hm : m ∈ ks A) (hm' : m' ∈ ks A) (h1 : p ∈ rowOf A m) (h2 : p ∈ rowOf A m') : m = m' :=
 has_one ha ⟨_, ks_mem hn hm, h1⟩ ⟨_, ks_mem hn hm', h2⟩
theorem JI.gap (h : JI A0 nw S i A) (hw : nw ∈ ks A0) (hnn : ¬ NearK A) : ∃ x ∈ ks A0, x ≠ nw ∧ ld A nw + 2 ≤ ld A x := by
 unfold NearK at hnn
 rw [h.keys] at hnn
 refine Classical.byContradiction fun hno => hnn fun m hm m' hm' => ?_
 by_cases e : m = nw
 · subst e
   by_cases e2 : m' = m
   · subst e2; omega
   · have := h.le m' hm' e2; omega
 · by_cases e2 : m' = nw
   · subst e2
     refine Classical.byContradiction fun h3 => hno ⟨m, hm, e, by omega⟩
   · exact h.near m hm m' hm' e e2
theorem JI.most (h : JI A0 nw S i A) (hM : Most A0 nw S) (hS : S[i]? = some p) (hn : (ks A0).Nodup) (hc : c ∈ ks A0) (hcw : c ≠ nw) (hp : p ∈ rowOf A c) {m : ByteArray} (hm : m ∈ ks A0) (hmw : m ≠ nw) : ld A m ≤ ld A c := by
 have h1 := (List.mem_filter.1 ((h.old c hc hcw).mem_iff.1 hp)).1
 have := hM.top i p c hS hc h1 m hm hmw
 unfold ld
 rw [(h.old m hm hmw).length_eq, (h.old c hc hcw).length_eq]
 exact this
theorem notTake (hd : S.Nodup) (hS : S[i]? = some p) : p ∉ S.take i := fun h => by
 obtain ⟨j, hj⟩ := List.mem_iff_getElem?.1 h
 have hji : j < i := by
  have := (List.getElem?_eq_some_iff.1 hj).1
  rw [List.length_take] at this; omega
 rw [List.getElem?_take_of_lt hji] at hj
 have := (List.getElem?_inj (List.getElem?_eq_some_iff.1 hj).1 hd).1 (hj.trans hS.symm)
 omega
theorem JI.owner (h : JI A0 nw S i A) (hM : Most A0 nw S) (hS : S[i]? = some p) (hp : p ∈ rowOf A c) : c ≠ nw := fun e => by
 subst e
 exact notTake hM.nd hS (h.new.mem_iff.1 hp)
theorem JI.step (h : JI A0 nw S i A) (hM : Most A0 nw S) (hn : (ks A0).Nodup) (ha : (allOf A0).Nodup) (hw : nw ∈ ks A0) (hS : S[i]? = some p) (hc : c ∈ ks A0) (hd : d ∈ ks A0) (hp : p ∈ rowOf A c) (hmin : ∀ m ∈ ks A0, ld A d ≤ ld A m) (h2 : ld A d + 2 ≤ ld A c) (hmv : Moved A A' c d p) : JI A0 nw S (i + 1) A' := by
 have hcw := h.owner hM hS hp
 have hdw : d = nw := Classical.byContradiction fun hdw => by
  have := h.near c hc d hd hcw hdw; omega
 subst hdw
 have hnt := notTake hM.nd hS
 have hp0 := (List.mem_filter.1 ((h.old c hc hcw).mem_iff.1 hp)).1
 have e1 := hmv.ldc
 have e2 := hmv.ldd
 have hld : ∀ m ∈ ks A0, m ≠ d → m ≠ c → ld A' m = ld A m := fun m _ h3 h4 => hmv.ldo h4 h3
 have hmx : ∀ m ∈ ks A0, m ≠ d → ld A m ≤ ld A c := fun m hm hmw => h.most hM hS hn hc hcw hp hm hmw
 have htk : (S.take (i + 1)).Perm (p :: S.take i) := by
  obtain ⟨h5, h6⟩ := List.getElem?_eq_some_iff.1 hS
  rw [List.take_succ_eq_append_getElem h5, h6]
  exact List.perm_append_singleton _ _
 refine ⟨hmv.keys.trans h.keys, (hmv.dst.trans (h.new.cons p)).trans htk.symm, fun m hm hmw => ?_, fun m hm m' hm' h3 h4 => ?_, fun m hm h3 => ?_⟩
 · by_cases e : m = c
   · subst e
     have h5 := (filter_next hS hnt (rows_nodup hn ha hm)).1 hp0
     exact (List.perm_cons p).1 ((hmv.src.symm.trans (h.old m hm hmw)).trans h5)
   · rw [hmv.oth m e hmw, (filter_next hS hnt (rows_nodup hn ha hm)).2 (fun h5 => e (rows_one hn ha hm hc h5 hp0))]
     exact h.old m hm hmw
 · have a1 := hmx m hm h3
   have a2 := hmx m' hm' h4
   have a3 := h.near c hc m' hm' hcw h4
   have a4 := h.near m hm m' hm' h3 h4
   by_cases q1 : m = c
   · by_cases q2 : m' = c
     · rw [q1, q2]; omega
     · rw [q1, hld m' hm' h4 q2]; omega
   · by_cases q2 : m' = c
     · rw [q2, hld m hm h3 q1]; omega
     · rw [hld m hm h3 q1, hld m' hm' h4 q2]; exact a4
 · have a3 := h.near c hc m hm hcw h3
   by_cases q : m = c
   · rw [q]; omega
   · rw [hld m hm h3 q]; omega
theorem JI.full (h : JI A0 nw S S.length A) (hM : Most A0 nw S) (hn : (ks A0).Nodup) : NearK A := by
 have h0 : ∀ m ∈ ks A0, m ≠ nw → ld A m = 0 := fun m hm hmw => by
  unfold ld
  rw [(h.old m hm hmw).length_eq, List.take_length, List.length_eq_zero_iff, List.filter_eq_nil_iff]
  intro x hx
  have : x ∈ S := hM.all.mem_iff.2 (allOf_mem.2 ⟨m, _, ks_mem hn hm, hx⟩)
  simp [this]
 intro m hm m' hm'
 rw [h.keys] at hm hm'
 by_cases e : m = nw
 · by_cases e2 : m' = nw
   · rw [e, e2]; omega
   · have := h.le m' hm' e2
     rw [e]; omega
 · rw [h0 m hm e]; omega
def JInv (A0 : Asg) (nw : ByteArray) (S : List (ByteArray × Int)) (i : Nat) (A : Asg) : Prop := ∃ k, JI A0 nw S k A ∧ (k = i ∨ NearK A)
theorem minv_join (hM : Most A0 nw S) (hn : (ks A0).Nodup) (ha : (allOf A0).Nodup) (hw : nw ∈ ks A0) : MInv S (JInv A0 nw S) := by
 refine ⟨?_, ?_, ?_, ?_⟩
 · rintro i A A' p c d ⟨k, hJ, rfl | hb⟩ hS hnn hc hd hp hmin h2 hmv
   · rw [hJ.keys] at hc hd hmin
     exact ⟨k + 1, hJ.step hM hn ha hw hS hc hd hp hmin h2 hmv, .inl rfl⟩
   · exact absurd hb hnn
 · rintro i A p c ⟨k, hJ, rfl | hb⟩ hS hnn hc hp hle
   · exfalso
     rw [hJ.keys] at hc hle
     obtain ⟨x, hx, hxw, hx2⟩ := hJ.gap hw hnn
     have h1 := hJ.most hM hS hn hc (hJ.owner hM hS hp) hp hx hxw
     have h2 := hle nw hw
     omega
   · exact absurd hb hnn
 · rintro A ⟨k, hJ, rfl | hb⟩
   · exact ⟨_, hJ, .inr (hJ.full hM hn)⟩
   · exact ⟨k, hJ, .inr hb⟩
 · rintro i A ⟨k, hJ, _⟩ hb
   exact ⟨k, hJ, .inr hb⟩
theorem JI.sub (h : JI A0 nw S i A) {m : ByteArray} (hm : m ∈ ks A0) (hmw : m ≠ nw) : ∀ x ∈ rowOf A m, x ∈ rowOf A0 m := fun x hx => (List.mem_filter.1 ((h.old m hm hmw).mem_iff.1 hx)).1
end
structure Gain (A : Asg) (Gs : List ByteArray) : Prop where
 inn : ∀ g ∈ Gs, g ∈ ks A
 low : ∀ g ∈ Gs, ∀ m ∈ ks A, ld A g ≤ ld A m + 1
theorem gain_nil (A : Asg) : Gain A [] := ⟨by simp, by simp⟩
section
variable {A A' : Asg} {c d : ByteArray} {p : ByteArray × Int} {Gs : List ByteArray}
theorem Gain.not (h : Gain A Gs) (hd : d ∈ ks A) (h2 : ld A d + 2 ≤ ld A c) : c ∉ Gs := fun hc => by
 have := h.low c hc d hd; omega
theorem Gain.fresh (h : Gain A Gs) (hn : (ks A).Nodup) (ha : (allOf A).Nodup) (hc : c ∈ ks A) (hd : d ∈ ks A) (hp : p ∈ rowOf A c) (h2 : ld A d + 2 ≤ ld A c) : ¬ ∃ g ∈ Gs, p ∈ rowOf A g := by
 rintro ⟨g, hg, hpg⟩
 have := rows_one hn ha (h.inn g hg) hc hpg hp
 subst this
 exact h.not hd h2 hg
theorem Gain.step (h : Gain A Gs) (hc : c ∈ ks A) (hd : d ∈ ks A) (hmin : ∀ m ∈ ks A, ld A d ≤ ld A m) (h2 : ld A d + 2 ≤ ld A c) (hmv : Moved A A' c d p) :
 Gain A' (d :: Gs) ∧ (∀ q, (∃ g ∈ Gs, q ∈ rowOf A g) → ∃ g ∈ d :: Gs, q ∈ rowOf A' g) ∧ ∃ g ∈ d :: Gs, p ∈ rowOf A' g := by
 have hcn := h.not hd h2
 have hcd : c ≠ d := fun e => by subst e; omega
 have e1 := hmv.ldc
 have e2 := hmv.ldd
 refine ⟨⟨fun g hg => ?_, fun g hg m hm => ?_⟩, fun q hq => ?_, d, by simp, hmv.dst.mem_iff.2 (by simp)⟩
 · rw [hmv.keys]
   rcases Zmc.1 hg with rfl | hg
   · exact hd
   · exact h.inn g hg
 · rw [hmv.keys] at hm
   have a1 := hmin m hm
   have a2 : ld A' m ≥ ld A d := by
    by_cases q1 : m = c
    · subst q1; omega
    · by_cases q2 : m = d
      · subst q2; omega
      · rw [hmv.ldo q1 q2]; exact a1
   by_cases e : g = d
   · subst e; omega
   · rcases Zmc.1 hg with hg | hg
     · exact absurd hg e
     · have hgc : g ≠ c := fun e => hcn (e ▸ hg)
       rw [hmv.ldo hgc e]
       have := h.low g hg d hd
       omega
 · obtain ⟨g, hg, hqg⟩ := hq
   refine ⟨g, List.mem_cons_of_mem _ hg, ?_⟩
   have hgc : g ≠ c := fun e => hcn (e ▸ hg)
   by_cases e : g = d
   · subst e; exact hmv.dst.mem_iff.2 (List.mem_cons_of_mem _ hqg)
   · rw [hmv.oth g hgc e]; exact hqg
end
end
section
open Go Go.RowKit
open Classical
def Ge {α : Type} (more : α → α → Bool) (L : List α) (i j : Nat) : Prop := ∀ x y, L[i]? = some x → L[j]? = some y → more y x = false
structure MoreOk {α : Type} (more : α → α → Bool) : Prop where
 asym : ∀ x y, more x y = true → more y x = false
 trans : ∀ x y z, more y x = false → more z y = false → more z x = false
def HeapFrom {α : Type} (more : α → α → Bool) (L : List α) (n i : Nat) : Prop := ∀ p, i ≤ p → ∀ j, (j = 2 * p + 1 ∨ j = 2 * p + 2) → j < n → Ge more L p j
structure HeapBut {α : Type} (more : α → α → Bool) (L : List α) (n i k : Nat) : Prop where
 ok : ∀ p, i ≤ p → p ≠ k → ∀ j, (j = 2 * p + 1 ∨ j = 2 * p + 2) → j < n → Ge more L p j
 up : ∀ p, i ≤ p → (k = 2 * p + 1 ∨ k = 2 * p + 2) → ∀ j, (j = 2 * k + 1 ∨ j = 2 * k + 2) → j < n → Ge more L p j
section
variable {α : Type} {more : α → α → Bool} {L : List α} {n i k : Nat}
theorem HeapFrom.but (h : HeapFrom more L n (i + 1)) : HeapBut more L n i i :=
 ⟨fun p hp hne j hj hjn => h p (by omega) j hj hjn, fun p hp hk => by omega⟩
theorem HeapBut.done (h : HeapBut more L n i k) (hk : ∀ j, (j = 2 * k + 1 ∨ j = 2 * k + 2) → j < n → Ge more L k j) : HeapFrom more L n i := fun p hp j hj hjn => by
 by_cases e : p = k
 · subst e; exact hk j hj hjn
 · exact h.ok p hp e j hj hjn
theorem HeapFrom.start (h : n / 2 ≤ i) : HeapFrom more L n i := fun p hp j hj hjn => by omega
theorem Ge.trans (hm : MoreOk more) {a b c : Nat} (hb : b < L.length) (h1 : Ge more L a b) (h2 : Ge more L b c) : Ge more L a c := fun x z hx hz =>
 hm.trans x L[b] z (h1 x _ hx (List.getElem?_eq_getElem hb)) (h2 _ z (List.getElem?_eq_getElem hb) hz)
theorem HeapFrom.top (hm : MoreOk more) (h : HeapFrom more L n 0) (hl : L.length = n) : ∀ j, j < n → 0 < j → Ge more L 0 j := by
 intro j
 induction j using Nat.strongRecOn with
 | _ j ih =>
   intro hj h0
   have hpj : Ge more L ((j - 1) / 2) j := h _ (Nat.zero_le _) j (by omega) hj
   by_cases e : (j - 1) / 2 = 0
   · rw [e] at hpj; exact hpj
   · exact Ge.trans hm (by omega) (ih _ (by omega) (by omega) (by omega)) hpj
theorem swap_get {x y : α} {k j a : Nat} (hk : L[k]? = some x) (hj : L[j]? = some y) (hkj : k ≠ j) : ((L.set k y).set j x)[a]? = if a = j then some x else if a = k then some y else L[a]? := by
 have hkl := (List.getElem?_eq_some_iff.1 hk).1
 have hjl := (List.getElem?_eq_some_iff.1 hj).1
 rw [List.getElem?_set, List.getElem?_set]
 by_cases e : a = j
 · subst e; simp [hjl]
 · rw [if_neg (fun h => e h.symm), if_neg e]
   by_cases e2 : a = k
   · subst e2; simp [hkl]
   · rw [if_neg (fun h => e2 h.symm), if_neg e2]
theorem HeapBut.swap (hm : MoreOk more) (h : HeapBut more L n i k) (hik : i ≤ k) {j : Nat} {x y : α} (hj : j = 2 * k + 1 ∨ j = 2 * k + 2) (hjn : j < n) (hx : L[k]? = some x) (hy : L[j]? = some y) (hmr : more y x = true) (hbig : ∀ j', (j' = 2 * k + 1 ∨ j' = 2 * k + 2) → j' < n → Ge more L j j') :
 HeapBut more ((L.set k y).set j x) n i j := by
 have hkj : k ≠ j := by omega
 have hg := fun a => swap_get (a := a) hx hy hkj
 have hxy := hm.asym y x hmr
 refine ⟨fun p hp hpj q hq hqn => ?_, fun p hp hjp q hq hqn => ?_⟩
 · intro u v hu hv
   rw [hg] at hu hv
   rw [if_neg hpj] at hu
   by_cases e : p = k
   · subst e
     rw [if_pos rfl] at hu
     cases hu
     by_cases e2 : q = j
     · rw [if_pos e2] at hv
       cases hv; exact hxy
     · rw [if_neg e2, if_neg (by omega)] at hv
       exact hbig q hq hqn y v hy hv
   · rw [if_neg e] at hu
     have hqj : q ≠ j := by omega
     rw [if_neg hqj] at hv
     by_cases e2 : q = k
     · rw [if_pos e2] at hv
       cases hv
       exact h.up p hp (by omega) j hj hjn u y hu hy
     · rw [if_neg e2] at hv
       exact h.ok p hp e q hq hqn u v hu hv
 · have hpk : p = k := by omega
   subst hpk
   intro u v hu hv
   rw [hg] at hu hv
   rw [if_neg hkj, if_pos rfl] at hu
   rw [if_neg (by omega), if_neg (by omega)] at hv
   cases hu
   exact h.ok j (by omega) (fun e => hkj e.symm) q hq hqn y v hy hv
theorem HeapFrom.below {L' : List α} (h : HeapFrom more L n 0) (he : ∀ a, 0 < a → a < n → L'[a]? = L[a]?) : HeapFrom more L' n 1 := fun p hp j hj hjn u v hu hv => by
 rw [he p (by omega) (by omega)] at hu
 rw [he j (by omega) hjn] at hv
 exact h p (by omega) j hj hjn u v hu hv
theorem HeapFrom.shrink {n' : Nat} (h : HeapFrom more L n i) (hn : n' ≤ n) : HeapFrom more L n' i := fun p hp j hj hjn => h p hp j hj (by omega)
theorem HeapFrom.same {L' : List α} (h : HeapFrom more L n i) (he : ∀ a, a < n → L'[a]? = L[a]?) : HeapFrom more L' n i := fun p hp j hj hjn u v hu hv => by
 rw [he p (by omega)] at hu
 rw [he j hjn] at hv
 exact h p hp j hj hjn u v hu hv
end
def LessIs {α : Type} (more : α → α → Bool) (L : List α) (i j : Nat) (bb : Bool) : Prop := ∀ x y, L[i]? = some x → L[j]? = some y → more x y = bb
section
variable {α : Type} {more : α → α → Bool} {L : List α} {n i k j o : Nat}
theorem LessIs.ge0 (h : LessIs more L i j false) : Ge more L j i := fun x y hx hy => h y x hy hx
theorem LessIs.ge1 (hm : MoreOk more) (h : LessIs more L i j true) : Ge more L i j := fun x y hx hy => hm.asym x y (h x y hx hy)
theorem Ge.refl (hm : MoreOk more) (i : Nat) : Ge more L i i := fun x y hx hy => by
 rw [hx] at hy; cases hy
 cases h : more x x with
 | false => rfl
 | true => exact (hm.asym x x h).symm.trans h ▸ rfl
theorem hbig2 (hm : MoreOk more) (hjo : (j = 2 * k + 1 ∧ o = 2 * k + 2) ∨ (j = 2 * k + 2 ∧ o = 2 * k + 1)) (h : Ge more L j o) : ∀ j', (j' = 2 * k + 1 ∨ j' = 2 * k + 2) → j' < n → Ge more L j j' := fun j' hj' _ => by
 by_cases e : j' = j
 · subst e; exact Ge.refl hm _
 · have : j' = o := by omega
   subst this; exact h
theorem hbig1 (hm : MoreOk more) (hn : n ≤ 2 * k + 2) : ∀ j', (j' = 2 * k + 1 ∨ j' = 2 * k + 2) → j' < n → Ge more L (2 * k + 1) j' := fun j' hj' hn' => by
 have : j' = 2 * k + 1 := by omega
 subst this; exact Ge.refl hm _
theorem heap_stop (hm : MoreOk more) (h : HeapBut more L n i k) (hjl : j < L.length) (hbig : ∀ j', (j' = 2 * k + 1 ∨ j' = 2 * k + 2) → j' < n → Ge more L j j') (hl : LessIs more L j k false) : HeapFrom more L n i :=
 h.done fun j' hj' hn' => Ge.trans hm hjl hl.ge0 (hbig j' hj' hn')
theorem heap_go (hm : MoreOk more) (h : HeapBut more L n i k) (hik : i ≤ k) (hj : j = 2 * k + 1 ∨ j = 2 * k + 2) (hjn : j < n) {x y : α} (hx : L[k]? = some x) (hy : L[j]? = some y) (hl : LessIs more L j k true) (hbig : ∀ j', (j' = 2 * k + 1 ∨ j' = 2 * k + 2) → j' < n → Ge more L j j') :
 HeapBut more ((L.set k y).set j x) n i j := h.swap hm hik hj hjn hx hy (hl y x hy hx) hbig
theorem heap_leaf (h : HeapBut more L n i k) (hk : n ≤ 2 * k + 1) : HeapFrom more L n i := h.done fun j hj hjn => by omega
end
end
end Go.Proofs.YticcnlpfmekagaaGreat
