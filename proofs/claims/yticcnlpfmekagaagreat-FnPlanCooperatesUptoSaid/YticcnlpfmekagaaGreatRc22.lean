/- Part 22 of the proof of the row: PreA, StLaw, PlanP. -/
import Derived.Test.YticcnlpfmekagaaGreatRc00
import Derived.Test.YticcnlpfmekagaaGreatRc20
import Derived.Test.YticcnlpfmekagaaGreatRc21
import Derived.Test.YticcnlpfmekagaaGreatRc12
set_option linter.unusedVariables false
set_option linter.unusedSimpArgs false
set_option maxRecDepth 100000
set_option maxHeartbeats 8000000
namespace Go.Proofs.YticcnlpfmekagaaGreat
section
open Go Go.Proofs Go.RowKit Go.Lib
open Classical
section
variable {P : Program} {ops : Array Oper} {o : Oper} {a : Act} {w : World} {rest : List Oper} {Q : Exit → Act → World → Prop}
variable {V : Value → Prop} {r : Nat} {l : List (Value × Value)} {T kT eT : TypeId} {m x y : Operand} {kv vv : Value}
variable {S : List Nat} {w0 : World} {M R : List Res}
theorem wl_ins (i : Nat) (hgd : o.guard = none) (hop : o.op = .insert T m x y) (hm : a.eval m = .map (some r)) (hk : a.eval x = kv) (hv : a.eval y = vv) (K0 : KeyT P kT V) (hT : P.underlying T = some (.map kT eT)) (hst : St S w0 w M R) (hi : M[i]? = some (Rs.map r V l)) (hV : V kv)
 (hK : ∀ w', St S w0 w' (M.set i (Rs.map r V (putE l kv vv))) R → wpList P ops Q rest (a.put o.dst undef) w') : wpList P ops Q (o :: rest) a w := by
 obtain ⟨w', hrun, h1, h2, h3⟩ := map_update (P := P) (hst.m i hi) K0 hT hV vv
 have hst' := hst.set i hi (X' := Rs.map r V (putE l kv vv)) h2 (by simp [Rs.map]) h1 (fun g hg => .inl hg)
 refine wl_of hgd fun _ hh => ?_
 refine wp_skip' (w' := w') ?_ (hh _ _ (hK w' hst'))
 simp only [execOp, hop, hm, hk, hv, Sem.run_bind, hrun, Result.andThen_ok]; rfl
end
structure Md where
 name : ByteArray
 val : Value
 parts : List TP
 gen : Int
structure MdOk (w : World) (x : Md) : Prop where
 shape : ∃ (ver g : Int) (ta oa da : Option Addr) (tn tc dn dc on oc : Nat) (ra : Option Addr), x.val = .agg #[.int .i16 ver, .slice ta tn tc, .slice da dn dc, .slice oa on oc, .int .i32 g, .pointer ra] ∧ UdIs w (.slice da dn dc) x.parts x.gen
 gen : isI32 x.gen
def rawMd (L : List Md) : List (Value × Value) := L.map fun x => (.string x.name, x.val)
theorem rawMd_split {T : List Md} {l1 l2 : List (Value × Value)} {k v : Value} (h : rawMd T = l1 ++ (k, v) :: l2) : ∃ A x B, T = A ++ x :: B ∧ l1 = rawMd A ∧ k = .string x.name ∧ v = x.val ∧ l2 = rawMd B := by
 obtain ⟨A, p, B, rfl, h1, h2, h3⟩ := map_split _ T l1 l2 _ h
 rw [Prod.mk.injEq] at h2
 exact ⟨A, p, B, rfl, h1, h2.1, h2.2, h3⟩
theorem rawMd_append (A B : List Md) : rawMd (A ++ B) = rawMd A ++ rawMd B := by simp [rawMd]
theorem rawMd_nil {A : List Md} (h : rawMd A = []) : A = [] := by simpa [rawMd] using h
abbrev Gm := TP × Nat × Int × ByteArray
def rawG (L : List Gm) : List (Value × Value) := L.map fun x => (tpV x.1, .map (some x.2.1))
def Rs.gms (L : List Gm) : Res where
 foot := L.map (fun x : Gm => x.2.1)
 holds := fun w => (∀ x ∈ L, MapAt w (isInt .i64) x.2.1 [(.int .i64 x.2.2.1, .string x.2.2.2)]) ∧ (L.map (fun x : Gm => x.2.1)).Nodup
 stable := fun w w' S k hs h => ⟨fun x hx => (h.1 x hx).kept k (hs x.2.1 (List.mem_map.2 ⟨x, hx, rfl⟩)), h.2⟩
theorem St.addG {S : List Nat} {w0 w : World} {M R : List Res} {L : List Gm} {x : Gm} (h : St S w0 w (Rs.map x.2.1 (isInt .i64) [(.int .i64 x.2.2.1, .string x.2.2.2)] :: Rs.gms L :: M) R) : St S w0 w (Rs.gms (L ++ [x]) :: M) R := by
 refine h.join (fun h1 h2 h3 => ⟨fun y hy => ?_, ?_⟩) (fun g hg => ?_)
 · rcases Zap.1 hy with hy | hy
   · exact h2.1 y hy
   · simp at hy; subst hy; exact h1
 · rw [List.map_append, List.nodup_append]
   refine ⟨h2.2, by simp, fun a ha b hb e => ?_⟩
   simp at hb
   subst hb e
   exact h3 x.2.1 (by simp [Rs.map]) ha
 · simp only [Rs.gms, List.map_append, Zap, List.map_cons, List.map_nil, Zmc, Znn, or_false] at hg
   rcases hg with hg | hg
   · exact .inr hg
   · exact .inl (by simp [Rs.map, hg])
theorem rawG_miss {L : List Gm} {p : TP} (h : p ∉ L.map (·.1)) : ∀ u, (tpV p, u) ∉ rawG L := by
 intro u hu
 obtain ⟨t, ht, e⟩ := List.mem_map.1 hu
 rw [Prod.mk.injEq] at e
 exact h (List.mem_map.2 ⟨t, ht, tpV_inj e.1⟩)
theorem rawG_split {L : List Gm} {l1 l2 : List (Value × Value)} {k v : Value} (h : rawG L = l1 ++ (k, v) :: l2) : ∃ A x B, L = A ++ x :: B ∧ l1 = rawG A ∧ k = tpV x.1 ∧ v = .map (some x.2.1) ∧ l2 = rawG B := by
 obtain ⟨A, p, B, rfl, h1, h2, h3⟩ := map_split _ L l1 l2 _ h
 rw [Prod.mk.injEq] at h2
 exact ⟨A, p, B, rfl, h1, h2.1, h2.2, h3⟩
theorem rawG_append (A B : List Gm) : rawG (A ++ B) = rawG A ++ rawG B := by simp [rawG]
theorem rawG_snoc (L : List Gm) (x : Gm) : rawG L ++ [(tpV x.1, .map (some x.2.1))] = rawG (L ++ [x]) := by simp [rawG]
theorem pre_miss {Ms Dn L1 L2 : List Md} {x : Md} {ps : List TP} {L : List Gm} {k : Nat} {q : TP} (hnd : (Ms.flatMap (·.parts)).Nodup) (hperm : (Dn ++ (L1 ++ x :: L2)).Perm Ms) (hps : ps.Perm x.parts) (hq : ps[k]? = some q)
 (hL : (L.map fun x => (x.1, x.2.2)).Perm ((Dn.flatMap fun x => x.parts.map fun p => (p, x.gen, x.name)) ++ (ps.take k).map fun p => (p, x.gen, x.name))) : q ∉ L.map (·.1) := by
 intro h
 have h1 : ((Dn ++ (L1 ++ x :: L2)).flatMap (·.parts)).Nodup := (hperm.flatMap_right _).nodup_iff.2 hnd
 rw [List.flatMap_append, List.flatMap_append, List.flatMap_cons] at h1
 have h2 := (hL.map (·.1)).mem_iff (a := q)
 rw [List.map_map] at h2
 have h3 := h2.1 h
 rw [List.map_append] at h3
 have hqx : q ∈ x.parts := hps.mem_iff.1 (List.mem_of_getElem? hq)
 rcases Zap.1 h3 with h4 | h4
 · obtain ⟨y, hy, rfl⟩ := List.mem_map.1 h4
   obtain ⟨z, hz, hy⟩ := List.mem_flatMap.1 hy
   obtain ⟨p, hp, rfl⟩ := List.mem_map.1 hy
   rw [List.nodup_append] at h1
   exact h1.2.2 p (List.mem_flatMap.2 ⟨z, hz, hp⟩) p (by simp [hqx]) rfl
 · rw [List.map_map] at h4
   have h5 : q ∈ ps.take k := by simpa [Function.comp_def] using h4
   have h6 : ps.Nodup := by
    have h7 : x.parts.Nodup := (List.nodup_append.1 (List.nodup_append.1 (List.nodup_append.1 h1).2.1).2.1).1
    exact hps.nodup_iff.2 h7
   exact take_new h6 hq h5
abbrev itMd (rm : Nat) (Ms : List Md) (lf : List (Value × Value)) (it : Nat) : Res := Rs.it (Rs.map rm isStr (rawMd Ms)) rm (rawMd Ms) lf it (by simp [Rs.map])
def PreInv (w : World) (rm it r9 rc rv : Nat) (Ms : List Md) (wr : World) : Prop :=
 ∃ (Dn Lf : List Md) (L : List Gm), (Dn ++ Lf).Perm Ms ∧ (L.map fun x => (x.1, x.2.2)).Perm (Dn.flatMap fun x => x.parts.map fun p => (p, x.gen, x.name)) ∧
  St [] w wr [Rs.gms L, Rs.map r9 isTp (rawG L), Rs.map rv isTp [], Rs.map rc isStr []] [itMd rm Ms (rawMd Lf) it]
abbrev itG (r9 : Nat) (L : List Gm) (lf : List (Value × Value)) (it : Nat) : Res := Rs.it (Rs.map r9 isTp (rawG L)) r9 (rawG L) lf it (by simp [Rs.map])
def PreOut (w : World) (r9 it rc rv : Nat) (L : List Gm) (wr : World) : Prop :=
 ∃ (Dg Lg : List Gm) (A : List Rw), (Dg ++ Lg).Perm L ∧ (A.flatMap fun y => y.2.2.map fun p => (y.1, p)).Perm (Dg.map fun z => (z.2.2.2, z.1)) ∧ (∀ y ∈ A, y.2.2 ≠ []) ∧
  St [] w wr [Rs.cur rc A, Rs.gms L, itG r9 L (rawG Lg) it, Rs.map rv isTp []] []
def PreG (w : World) (rc : Nat) (A : List Rw) (L : List Gm) (b : Nat) (gen : Int) (name : ByteArray) (hfb : b ∈ (Rs.gms L).foot) (it3 : Nat) (M2 : List Res) (v : Value) (wr : World) : Prop :=
 ∃ (lf : List (Value × Value)) (n : Nat) (xs : List Value), ((lf = [(.int .i64 gen, .string name)] ∧ n = 0 ∧ xs = []) ∨ (lf = [] ∧ n = 1 ∧ xs = [.int .i64 gen])) ∧
  St [] w wr (Rs.row 3 1 v n xs :: Rs.cur rc A :: Rs.it (Rs.gms L) b [(.int .i64 gen, .string name)] lf it3 hfb :: M2) []
theorem single_split {α : Type} {e x : α} {l1 l2 : List α} (h : [e] = l1 ++ x :: l2) : l1 = [] ∧ l2 = [] ∧ x = e ∧ True := by
 cases l1 with
 | nil => simp at h; exact ⟨rfl, h.2, h.1.symm, trivial⟩
 | cons a l => simp at h
theorem elInt_info : (Tryz.prog.info? 3).map (fun i => (i.zero, i.size, i.bytes)) = some (some (.int .i64 0), 1, 8) := by kernel_rfl
theorem elInt : Elem Tryz.prog 37 3 1 8 (.int .i64 0) := ⟨Tryz.underlying37, info_parts elInt_info, rfl, by omega⟩
theorem build_int (n : Int) (w : World) : (Instr.buildSlice 37 1 #[(0, .int .i64 n)]).run Tryz.prog w = .ok (.slice (some ⟨w.heap.size, 0, none⟩) 1 1) (w.alloc (.cells #[.int .i64 n] 3)) := by
 simp [Instr.buildSlice, go_sem]
theorem new_int (w : World) (n : Int) : SlAt (w.alloc (.cells #[.int .i64 n] 3)) 1 (.slice (some ⟨w.heap.size, 0, none⟩) 1 1) 1 [.int .i64 n] := new_slN w 3 1 1 _ rfl (by decide) (by intro u hu; simp at hu; subst hu; rfl)
def PrePost (w : World) (Ms : List Md) (e : Ending) (w' : World) : Prop :=
 ∃ (rc rv : Nat) (A : List Rw), e = .returned (.tuple #[.map (some rc), .map (some rv), .nilIface]) ∧ (A.flatMap fun y => y.2.2.map fun p => (y.1, p)).Perm (Ms.flatMap fun x => x.parts.map fun p => (x.name, p)) ∧ (∀ y ∈ A, y.2.2 ≠ []) ∧
  St [] w w' [Rs.cur rc A, Rs.map rv isTp []] []
end
section
open Go Go.RowKit
open Classical
structure PlanOk (Ns : List ByteArray) (Old : ByteArray → List (ByteArray × Int)) (T : List (ByteArray × Int)) (A : Asg) : Prop where
 keys : (A.map (·.1)).Perm Ns
 all : (allOf A).Perm T
 near : Near (loads A)
 keep : ∀ m xs, (m, xs) ∈ A → ∀ p ∈ Old m, p ∈ xs
section
variable {Ns Ns2 : List ByteArray} {Old Old2 : ByteArray → List (ByteArray × Int)} {T T2 : List (ByteArray × Int)} {A A2 : Asg} {S S2 : List Tr}
theorem PlanOk.has (h : PlanOk Ns Old T A) {m : ByteArray} (hm : m ∈ Ns) {p : ByteArray × Int} (hp : p ∈ Old m) : Has A m p := by
 obtain ⟨r, hr, rfl⟩ := List.mem_map.1 (h.keys.mem_iff.2 hm)
 exact ⟨r.2, hr, h.keep r.1 r.2 hr p hp⟩
theorem PlanOk.nodup (h : PlanOk Ns Old T A) (hT : T.Nodup) : (allOf A).Nodup := h.all.nodup_iff.2 hT
theorem Shows.oneT (h : Shows S A) (hA : (allOf A).Nodup) : OneT S := oneT_of (h.perm.nodup_iff.2 hA)
theorem PlanOk.keyIn (h : PlanOk Ns Old T A) {m : ByteArray} {p : ByteArray × Int} (hp : Has A m p) : m ∈ Ns := by
 obtain ⟨xs, hx, _⟩ := hp
 exact h.keys.mem_iff.1 (List.mem_map.2 ⟨_, hx, rfl⟩)
theorem kept_fwd (hS : Shows S A) (hS2 : Shows S2 A2) (h2 : PlanOk Ns2 Old2 T2 A2) (hT2 : T2.Nodup) {m : ByteArray} (hm : m ∈ Ns2) (hold : ∀ x, Has A m x → x ∈ Old2 m) : keptT m S S2 = true := by
 refine keptT_of (hS2.oneT (h2.nodup hT2)) fun t p h => ?_
 exact (hS2.iff m t p).2 (h2.has hm (hold _ ((hS.iff m t p).1 h)))
theorem has_back (h1 : PlanOk Ns Old T A) (h2 : PlanOk Ns Old2 T A2) (hT : T.Nodup) (hold : ∀ m ∈ Ns, ∀ x, Has A m x → x ∈ Old2 m) {m : ByteArray} {x : ByteArray × Int} (h : Has A2 m x) : Has A m x := by
 have h3 : x ∈ T := h2.all.mem_iff.1 (allOf_mem.2 ⟨m, h⟩)
 obtain ⟨m', h4⟩ := allOf_mem.1 (h1.all.mem_iff.2 h3)
 have hm' := h1.keyIn h4
 rw [has_one (h2.nodup hT) h (h2.has hm' (hold m' hm' x h4))]
 exact h4
theorem kept_bwd (hS : Shows S A) (hS2 : Shows S2 A2) (h1 : PlanOk Ns Old T A) (h2 : PlanOk Ns Old2 T A2) (hT : T.Nodup) (hold : ∀ m ∈ Ns, ∀ x, Has A m x → x ∈ Old2 m) (m : ByteArray) : keptT m S2 S = true := by
 refine keptT_of (hS.oneT (h1.nodup hT)) fun t p h => ?_
 exact (hS.iff m t p).2 (has_back h1 h2 hT hold ((hS2.iff m t p).1 h))
end
structure Canon (lt : ByteArray × ByteArray → ByteArray × ByteArray → Prop) (S : List Tr) : Prop where
 sorted : (S.map fun x => (x.1, x.2.1)).Pairwise lt
 full : ∀ x ∈ S, x.2.2 ≠ []
theorem Canon.keys {lt : ByteArray × ByteArray → ByteArray × ByteArray → Prop} {S : List Tr} (h : Canon lt S) (m t : ByteArray) : (m, t) ∈ (S.map fun x => (x.1, x.2.1)) ↔ ∃ p, Holds S m t p := by
 constructor
 · intro hx
   obtain ⟨⟨m', t', ps⟩, hx2, e⟩ := List.mem_map.1 hx
   obtain ⟨rfl, rfl⟩ := Prod.mk.inj e
   cases ps with
   | nil => exact absurd rfl (h.full _ hx2)
   | cons p ps => exact ⟨p, _, hx2, by simp⟩
 · rintro ⟨p, ps, hx, _⟩
   exact List.mem_map.2 ⟨_, hx, rfl⟩
theorem flatT_part {S : List Tr} (h : (flatT S).Nodup) {x : Tr} (hx : x ∈ S) : x.2.2.Nodup := by
 obtain ⟨A, B, rfl⟩ := List.append_of_mem hx
 unfold flatT at h
 rw [List.flatMap_append, List.flatMap_cons, List.nodup_append] at h
 have h1 := (List.nodup_append.1 h.2.1).1
 exact (List.pairwise_map.1 h1).imp fun h e => h (by rw [e])
theorem perm_of_nodup {α : Type} {L K : List α} (hL : L.Nodup) (hK : K.Nodup) (h : ∀ x, x ∈ L ↔ x ∈ K) : L.Perm K := (List.perm_ext_iff_of_nodup hL hK).2 (by simpa using h)
end
section
open Go Go.Proofs Go.RowKit Go.Lib
open Classical
theorem pairs_filter {κ α : Type} : ∀ {L : List (κ × List α)} {k : κ} {ps : List α}, (L.map (·.1)).Nodup → (k, ps) ∈ L → ((L.flatMap fun y => y.2.map fun p => (y.1, p)).filter fun z => decide (z.1 = k)).map (·.2) = ps
 | [], _, _, _, h => by cases h
 | y :: L, k, ps, hn, h => by
   simp only [List.map_cons, List.nodup_cons] at hn
   rw [List.flatMap_cons, List.filter_append, List.map_append]
   rcases Zmc.1 h with e | h
   · subst e
     have h1 : (List.map (fun p => (k, p)) ps).filter (fun z => decide (z.1 = k)) = List.map (fun p => (k, p)) ps := List.filter_eq_self.2 (fun z hz => by
      obtain ⟨p, _, rfl⟩ := List.mem_map.1 hz; simp)
     have h2 : (L.flatMap fun y => y.2.map fun p => (y.1, p)).filter (fun z => decide (z.1 = k)) = [] := List.filter_eq_nil_iff.2 (fun z hz => by
      obtain ⟨y, hy, hz⟩ := List.mem_flatMap.1 hz
      obtain ⟨p, _, rfl⟩ := List.mem_map.1 hz
      simp only [decide_eq_true_eq]
      rintro rfl
      exact hn.1 (List.mem_map.2 ⟨_, hy, rfl⟩))
     simp only
     rw [h1, h2]
     simp [Function.comp_def]
   · have hne : y.1 ≠ k := fun e => hn.1 (e ▸ List.mem_map_of_mem (f := fun x : κ × List α => x.1) h)
     have h1 : (List.map (fun p => (y.1, p)) y.2).filter (fun z => decide (z.1 = k)) = [] := List.filter_eq_nil_iff.2 (fun z hz => by
      obtain ⟨p, _, rfl⟩ := List.mem_map.1 hz; simpa using hne)
     rw [h1, pairs_filter hn.2 h]
     rfl
structure PreOk (Xs : List Md) (A1 : List Rw) : Prop where
 keys : (A1.map (·.1)).Perm (Xs.map (·.name))
 row : ∀ x ∈ Xs, ∀ v ps, (x.name, v, ps) ∈ A1 → ps.Perm x.parts
 tot : (A1.flatMap (·.2.2)).Perm (Xs.flatMap (·.parts))
theorem pre_ok {Xs Dn : List Md} {A E : List Rw} (hX : (Xs.map (·.name)).Nodup) (hA : ((A ++ E).map (·.1)).Nodup)
 (hp : (A.flatMap fun y => y.2.2.map fun p => (y.1, p)).Perm (Xs.flatMap fun x => x.parts.map fun p => (x.name, p))) (hne : ∀ y ∈ A, y.2.2 ≠ []) (hD : Dn.Perm Xs)
 (hE : ∀ y ∈ E, y.2.2 = [] ∧ y.1 ∈ Dn.map (·.name)) (hin : ∀ m ∈ Dn.map (·.name), m ∈ (A ++ E).map (·.1)) : PreOk Xs (A ++ E) := by
 have e0 : ((A ++ E).flatMap fun y => y.2.2.map fun p => (y.1, p)) = A.flatMap fun y => y.2.2.map fun p => (y.1, p) := by
  rw [List.flatMap_append]
  have : (E.flatMap fun y => y.2.2.map fun p => (y.1, p)) = [] := List.flatMap_eq_nil_iff.2 fun y hy => by rw [(hE y hy).1]; rfl
  rw [this, List.append_nil]
 rw [← e0] at hp
 have hDn := hD.map (·.name)
 refine ⟨?_, ?_, ?_⟩
 · refine perm_of_nodup hA hX fun m => ⟨fun hm => ?_, fun hm => hin m (hDn.mem_iff.2 hm)⟩
   rw [List.map_append] at hm
   rcases Zap.1 hm with hm | hm
   · obtain ⟨y, hy, rfl⟩ := List.mem_map.1 hm
     cases hps : y.2.2 with
     | nil => exact absurd hps (hne y hy)
     | cons p ps =>
       have h1 : (y.1, p) ∈ (A ++ E).flatMap fun y => y.2.2.map fun p => (y.1, p) := List.mem_flatMap.2 ⟨y, by simp [hy], List.mem_map.2 ⟨p, by rw [hps]; simp, rfl⟩⟩
       obtain ⟨x, hx, h2⟩ := List.mem_flatMap.1 (hp.mem_iff.1 h1)
       obtain ⟨q, _, e⟩ := List.mem_map.1 h2
       exact List.mem_map.2 ⟨x, hx, (Prod.mk.inj e).1⟩
   · obtain ⟨y, hy, rfl⟩ := List.mem_map.1 hm
     exact hDn.mem_iff.1 (hE y hy).2
 · intro x hx v ps hr
   have e1 : ((A ++ E).flatMap fun y => y.2.2.map fun p => (y.1, p)) = ((A ++ E).map fun y => (y.1, y.2.2)).flatMap fun y => y.2.map fun p => (y.1, p) := by rw [List.flatMap_map]
   have e2 : (Xs.flatMap fun x => x.parts.map fun p => (x.name, p)) = (Xs.map fun x => (x.name, x.parts)).flatMap fun y => y.2.map fun p => (y.1, p) := by rw [List.flatMap_map]
   have h1 := pairs_filter (L := (A ++ E).map fun y => (y.1, y.2.2)) (k := x.name) (ps := ps) (by simpa [Function.comp_def] using hA) (List.mem_map.2 ⟨_, hr, rfl⟩)
   have h2 := pairs_filter (L := Xs.map fun x => (x.name, x.parts)) (k := x.name) (ps := x.parts) (by simpa [Function.comp_def] using hX) (List.mem_map.2 ⟨_, hx, rfl⟩)
   rw [e1, e2] at hp
   rw [← h1, ← h2]
   exact (hp.filter _).map _
 · have h1 := hp.map (·.2)
   simpa [List.map_flatMap, Function.comp_def] using h1
theorem PreOk.near {Xs : List Md} {A1 : List Rw} (h : PreOk Xs A1) (hn : Near (Xs.map (·.parts.length))) : Near (A1.map (·.2.2.length)) := by
 have h1 : ∀ y ∈ A1, ∃ x ∈ Xs, y.2.2.length = x.parts.length := fun y hy => by
  obtain ⟨x, hx, e⟩ := List.mem_map.1 (h.keys.mem_iff.1 (List.mem_map_of_mem hy))
  exact ⟨x, hx, (h.row x hx y.2.1 y.2.2 (by rw [e]; exact hy)).length_eq⟩
 intro a ha b hb
 obtain ⟨y, hy, rfl⟩ := List.mem_map.1 ha
 obtain ⟨z, hz, rfl⟩ := List.mem_map.1 hb
 obtain ⟨x, hx, e1⟩ := h1 y hy
 obtain ⟨x', hx', e2⟩ := h1 z hz
 rw [e1, e2]
 exact hn _ (List.mem_map_of_mem hx) _ (List.mem_map_of_mem hx')
end
end Go.Proofs.YticcnlpfmekagaaGreat
