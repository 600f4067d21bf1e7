/- Part 28 of the proof of the row: OutShow, PlCont, PlanA. -/
import Derived.Test.YticcnlpfmekagaaGreatRc00
import Derived.Test.YticcnlpfmekagaaGreatRc27
import Derived.Test.YticcnlpfmekagaaGreatRc20
import Derived.Test.YticcnlpfmekagaaGreatRc22
import Derived.Test.YticcnlpfmekagaaGreatRc25
import Derived.Test.YticcnlpfmekagaaGreatRc09
import Derived.Test.YticcnlpfmekagaaGreatRc23
import Derived.Test.YticcnlpfmekagaaGreatRc24
set_option linter.unusedVariables false
set_option linter.unusedSimpArgs false
set_option maxRecDepth 100000
set_option maxHeartbeats 8000000
namespace Go.Proofs.YticcnlpfmekagaaGreat
section
open Go Go.Proofs Go.RowKit
open Classical
theorem sortedNames_lt {l : List ByteArray} (h : l.Nodup) : (sortedNames l).Pairwise (fun a b => a.data.toList < b.data.toList) := by
 unfold sortedNames
 have h1 := List.pairwise_mergeSort (le := fun x y : List UInt8 => decide (x ≤ y)) (fun a b c h1 h2 => by simp only [decide_eq_true_eq] at *; exact List.le_trans h1 h2) (fun a b => by simp only [Bool.or_eq_true, decide_eq_true_eq]; exact List.le_total a b) (l.map (·.data.toList))
 have h2 : ((l.map (·.data.toList)).mergeSort fun x y => decide (x ≤ y)).Nodup := by
  refine (List.mergeSort_perm _ _).nodup_iff.2 ?_
  refine List.pairwise_map.2 (h.imp fun hne e => hne ?_)
  rename_i a b
  obtain ⟨⟨a⟩⟩ := a
  obtain ⟨⟨b⟩⟩ := b
  simp at e; subst e; rfl
 refine List.pairwise_map.2 ?_
 refine (h1.and h2).imp ?_
 rintro a b ⟨hle, hne⟩
 simp only [decide_eq_true_eq] at hle
 by_cases h3 : a < b
 · exact h3
 · exact absurd (List.le_antisymm hle (List.not_lt.1 h3)) hne
theorem topLt_tot {x y : ByteArray} (h : topLt y x = false) (hne : x ≠ y) : topLt x y = true := by
 unfold topLt at *
 rw [bytesLess_eq] at *
 simp only [decide_eq_true_eq, decide_eq_false_iff_not] at *
 by_cases h3 : x.toList < y.toList
 · exact h3
 · exact absurd ((ba_inj _ _).1 (List.le_antisymm (List.not_lt.1 h) (List.not_lt.1 h3))) hne
def ltMT (a b : ByteArray × ByteArray) : Prop := a.1.data.toList < b.1.data.toList ∨ (a.1 = b.1 ∧ topLt a.2 b.2 = true)
theorem ltMT_irr (a : ByteArray × ByteArray) : ¬ ltMT a a := by
 rintro (h | ⟨_, h⟩)
 · exact List.lt_irrefl _ h
 · rw [topLt_swo.irrefl] at h; cases h
structure Plans (P : PL) (A : Asg) : Prop where
 nd : (P.map (·.1)).Nodup
 row : ∀ m xs, (m, xs) ∈ A → ∃ r D, (m, r, D) ∈ P ∧ (topTps D).Perm xs ∧ (D.map (·.1)).Nodup ∧ ∀ y ∈ D, y.2.2 ≠ []
def zipS (names : List ByteArray) (LL : List (List Shr)) : List (ByteArray × List Tr) := names.zip (LL.map (·.map trip))
theorem zipS_flat : ∀ (names : List ByteArray) (LL : List (List Shr)), LL.length = names.length → (zipS names LL).flatMap (·.2) = LL.flatten.map trip
 | [], [], _ => rfl
 | [], l :: LL, h => by simp at h
 | n :: names, [], h => by simp at h
 | n :: names, l :: LL, h => by
   have ih := zipS_flat names LL (by simpa using h)
   simp only [zipS, List.map_cons, List.zip_cons_cons, List.flatMap_cons, List.flatten_cons, List.map_append]
   unfold zipS at ih
   rw [ih]
theorem zipS_keys (names : List ByteArray) (LL : List (List Shr)) (h : LL.length = names.length) : (zipS names LL).map (·.1) = names := by
 unfold zipS
 exact List.map_fst_zip (by simp [h])
theorem zipS_mem {names : List ByteArray} {LL : List (List Shr)} {z : ByteArray × List Tr} (h : z ∈ zipS names LL) : ∃ (j : Nat) (l : List Shr), names[j]? = some z.1 ∧ LL[j]? = some l ∧ z.2 = l.map trip := by
 obtain ⟨j, hj⟩ := List.mem_iff_getElem?.1 h
 unfold zipS at hj
 rw [List.getElem?_zip_eq_some] at hj
 obtain ⟨h1, h2⟩ := hj
 rw [List.getElem?_map] at h2
 cases hl : LL[j]? with
 | none => rw [hl] at h2; cases h2
 | some l => rw [hl] at h2; simp only [Option.map_some, Option.some.injEq] at h2; exact ⟨j, l, h1, hl, h2.symm⟩
theorem flatT_tops (nm : ByteArray) : ∀ D : Tops, flatT ((D.filter full).map (tripOf nm)) = topTps D
 | [] => rfl
 | x :: D => by
   have ih := flatT_tops nm D
   obtain ⟨t, v, ps⟩ := x
   have e : topTps ((t, v, ps) :: D) = ps.map (fun n => (t, n)) ++ topTps D := by simp [topTps, tpsOf]
   rw [e]
   cases ps with
   | nil =>
     have hf : full (t, v, ([] : List Int)) = false := rfl
     rw [List.filter_cons_of_neg (by simp [hf]), ih]; rfl
   | cons p ps =>
     have hf : full (t, v, p :: ps) = true := rfl
     rw [List.filter_cons_of_pos hf, List.map_cons, show (tripOf nm (t, v, p :: ps) :: List.map (tripOf nm) (List.filter full D)) = [tripOf nm (t, v, p :: ps)] ++ List.map (tripOf nm) (List.filter full D) from rfl, flatT_append, ih]
     simp [flatT, tripOf]
theorem plans_uniq {P : PL} (h : (P.map (·.1)).Nodup) {m : ByteArray} {r r' : Nat} {D D' : Tops} (h1 : (m, r, D) ∈ P) (h2 : (m, r', D') ∈ P) : D = D' := by
 induction P with
 | nil => cases h1
 | cons x P ih =>
   simp only [List.map_cons, List.nodup_cons] at h
   rcases Zmc.1 h1 with e1 | h3 <;> rcases Zmc.1 h2 with e2 | h4
   · rw [← e1] at e2; cases e2; rfl
   · rw [← e1] at h; exact absurd (List.mem_map_of_mem (f := fun x : ByteArray × Nat × Tops => x.1) h4) h.1
   · rw [← e2] at h; exact absurd (List.mem_map_of_mem (f := fun x : ByteArray × Nat × Tops => x.1) h3) h.1
   · exact ih h.2 h3 h4
section
variable {P : PL} {names : List ByteArray} {LL : List (List Shr)} {A : Asg}
theorem outS_row (hO : OutS P names LL) (hP : Plans P A) (hk : names.Perm (A.map (·.1))) {z : ByteArray × List Tr} (hz : z ∈ zipS names LL) :
 ∃ (l : List Shr) (D : Tops) (xs : List (ByteArray × Int)), z.2 = l.map trip ∧ (l.map trip).Perm ((D.filter full).map (tripOf z.1)) ∧ l.Pairwise (fun x y => topLt y.top x.top = false) ∧ (z.1, xs) ∈ A ∧ (topTps D).Perm xs ∧ (D.map (·.1)).Nodup := by
 obtain ⟨j, l, h1, h2, h3⟩ := zipS_mem hz
 obtain ⟨r, D, h4, h5, h6⟩ := hO.2 j _ l h1 h2
 obtain ⟨⟨m, xs⟩, hx, hm⟩ := List.mem_map.1 (hk.mem_iff.1 (List.mem_of_getElem? h1))
 simp only at hm
 subst hm
 obtain ⟨r', D', h7, h8, h9, _⟩ := hP.row _ xs hx
 have := plans_uniq hP.nd h4 h7
 subst this
 exact ⟨l, D, xs, h3, h5, h6, hx, h8, h9⟩
theorem outS_shows (hO : OutS P names LL) (hP : Plans P A) (hk : names.Perm (A.map (·.1))) (hn : names.Nodup) : Shows (LL.flatten.map trip) A := by
 rw [← zipS_flat names LL hO.1]
 refine shows_zip _ A (hk.nodup_iff.1 hn) (by rw [zipS_keys _ _ hO.1]; exact hk) fun z hz => ?_
 obtain ⟨l, D, xs, e, h1, h2, h3, h4, h5⟩ := outS_row hO hP hk hz
 rw [e]
 refine ⟨fun x hx => ?_, xs, h3, ?_⟩
 · obtain ⟨y, hy, rfl⟩ := List.mem_map.1 (h1.mem_iff.1 hx)
   rfl
 · have h6 : (flatT (l.map trip)).Perm (flatT ((D.filter full).map (tripOf z.1))) := h1.flatMap_right _
   rw [flatT_tops] at h6
   exact h6.trans h4
theorem pw_flat : ∀ (Z : List (ByteArray × List Tr)), (Z.map (·.1)).Pairwise (fun a b => a.data.toList < b.data.toList) → (∀ z ∈ Z, (∀ x ∈ z.2, x.1 = z.1) ∧ (z.2.map (·.2.1)).Pairwise (fun a b => topLt a b = true)) →
 ((Z.flatMap (·.2)).map fun x => (x.1, x.2.1)).Pairwise ltMT
 | [], _, _ => by simp
 | z :: Z, h1, h2 => by
   rw [List.map_cons, List.pairwise_cons] at h1
   rw [List.flatMap_cons, List.map_append, List.pairwise_append]
   obtain ⟨g1, g2⟩ := h2 z (by simp)
   refine ⟨?_, pw_flat Z h1.2 (fun y hy => h2 y (by simp [hy])), fun a ha b hb => ?_⟩
   · refine List.pairwise_map.2 ?_
     have g3 := List.pairwise_map.1 g2
     refine List.Pairwise.imp_of_mem (fun {a b} ha hb hab => ?_) g3
     exact .inr ⟨by rw [g1 a ha, g1 b hb], hab⟩
   · obtain ⟨x, hx, rfl⟩ := List.mem_map.1 ha
     obtain ⟨y, hy, rfl⟩ := List.mem_map.1 hb
     obtain ⟨z', hz', hy⟩ := List.mem_flatMap.1 hy
     refine .inl ?_
     simp only
     rw [g1 x hx, (h2 z' (by simp [hz'])).1 y hy]
     exact h1.1 _ (List.mem_map.2 ⟨z', hz', rfl⟩)
theorem outS_canon (hO : OutS P names LL) (hP : Plans P A) (hk : names.Perm (A.map (·.1))) (hs : names.Pairwise (fun a b => a.data.toList < b.data.toList)) : Canon ltMT (LL.flatten.map trip) := by
 rw [← zipS_flat names LL hO.1]
 refine ⟨pw_flat _ (by rw [zipS_keys _ _ hO.1]; exact hs) fun z hz => ?_, fun x hx => ?_⟩
 · obtain ⟨l, D, xs, e, h1, h2, h3, h4, h5⟩ := outS_row hO hP hk hz
   rw [e]
   refine ⟨fun x hx => ?_, ?_⟩
   · obtain ⟨y, hy, rfl⟩ := List.mem_map.1 (h1.mem_iff.1 hx)
     rfl
   · have hn : (l.map (·.top)).Nodup := by
      have e1 : ((l.map trip).map (·.2.1)) = l.map (·.top) := by simp [trip, Function.comp_def]
      have e2 : (((D.filter full).map (tripOf z.1)).map (·.2.1)) = (D.filter full).map (·.1) := by simp [tripOf, Function.comp_def]
      have h6 := h1.map (fun x : Tr => x.2.1)
      rw [e1, e2] at h6
      exact h6.nodup_iff.2 (h5.sublist ((List.filter_sublist).map _))
     have e1 : ((l.map trip).map (·.2.1)) = l.map (·.top) := by simp [trip, Function.comp_def]
     rw [e1]
     refine List.pairwise_map.2 ?_
     have hn' := List.pairwise_map.1 hn
     exact (h2.and hn').imp fun ⟨a, b⟩ => topLt_tot a b
 · obtain ⟨z, hz, hx⟩ := List.mem_flatMap.1 hx
   obtain ⟨l, D, xs, e, h1, h2, h3, h4, h5⟩ := outS_row hO hP hk hz
   rw [e] at hx
   obtain ⟨y, hy, rfl⟩ := List.mem_map.1 (h1.mem_iff.1 hx)
   have := (List.mem_filter.1 hy).2
   intro h
   simp only [tripOf] at h
   simp [full, h] at this
end
end
section
open Go Go.Proofs Go.RowKit Go.Lib
def IxRel (w : World) (L : List ByteArray) (s : ByteArray) (n : Nat) (i : Value) (wr : World) : Prop := wr = w ∧ ∃ k : Nat, i = .int .i64 k ∧ k ≤ n ∧ s ∉ L.take k
theorem index_str (a : Option Addr) (n c : Nat) (s : ByteArray) (L : List ByteArray) (w : World) (h : SlStrs w (.slice a n c) L) (hn : L.length = n) (hs : s ∈ L) (hb : n ≤ 1000000) :
 Calls Tryz.prog 237 #[.slice a n c, .string s] w fun e w' => (∃ k : Nat, e = .returned (.int .i64 k)) ∧ w' = w := by
 obtain ⟨_, hsl⟩ := h
 have hcells : 0 < n → ∃ b off cap, Value.slice a n c = .slice (some ⟨b, off, none⟩) n cap ∧ ∀ j u, (strs L)[j]? = some u → w.cell? ⟨b, off + j, none⟩ = some u := by
  intro h0
  rw [hn] at hsl
  rcases hsl.2.2 with ⟨_, _, _, h1⟩ | h
  · omega
  · exact h
 have HC := Zhd (Zan hcells (Zan hs hn)); clear hcells hs hsl hn
 go_enter Tryz.func237, Tryz.ntmps237
 go_wp2_with fail
 go_loopw [8] (fun i wr => IxRel w L s n i wr) (fun i _ => n - (intOf i).toNat)
 case atStart => exact ⟨rfl, 0, rfl, Nat.zero_le _, by simp⟩
 case round =>
  obtain ⟨rfl, k, rfl, hk, hno⟩ := hrel
  by_cases hkn : k < n
  · obtain ⟨t, ht⟩ : ∃ t, L[k]? = some t := ⟨_, List.getElem?_eq_getElem (by have := HC.out.2.2; omega)⟩
    obtain ⟨b, off, cap, hv, hcl⟩ := HC.out.1 (by omega)
    simp only [Value.slice.injEq] at hv
    obtain ⟨rfl, _, rfl⟩ := hv
    have c1 := hcl k (.string t) (by simp [strs, ht])
    have hki : (k : Int) < (n : Int) := by omega
    clear hcl
    by_cases e : s = t
    · subst e
      go_wp2_with fail
      go_ret
      exact ⟨⟨k, rfl⟩, rfl⟩
    · have hse : (s.toList == t.toList) = false := beq_eq_false_iff_ne.2 (fun h => e ((ba_inj s t).1 h))
      have HT := Zhd (Zan ht (Zan e hno)); clear ht e hno
      go_wp2_with fail
      refine ⟨show _ ∧ _ from ⟨rfl, k + 1, by go_num, by omega, ?_⟩, by simp [intOf]; omega⟩
      obtain ⟨h1, h2⟩ := List.getElem?_eq_some_iff.1 HT.out.1
      rw [List.take_succ_eq_append_getElem h1, h2]
      intro h
      rcases Zap.1 h with h | h
      · exact HT.out.2.2 h
      · simp only [Zmc, Znn, or_false] at h
        exact HT.out.2.1 h
  · exfalso
    have : k = n := by omega
    rw [List.take_of_length_le (by have := HC.out.2.2; omega)] at hno
    exact hno HC.out.2.1
theorem cont_str (a : Option Addr) (n c : Nat) (s : ByteArray) (L : List ByteArray) (w : World) (h : SlStrs w (.slice a n c) L) (hn : L.length = n) (hs : s ∈ L) (hb : n ≤ 1000000) :
 Calls Tryz.prog 230 #[.slice a n c, .string s] w fun e w' => e = .returned (.bool true) ∧ w' = w := by
 have HI := Zhd (index_str a n c s L w h hn hs hb); clear h hn hs
 go_enter Tryz.func230, Tryz.ntmps230
 go_wp2_with (first
  | (go_at_call 237
     refine HI.out.mono ?_
     rintro e w1 ⟨⟨k, rfl⟩, rfl⟩
     have hk : (0 : Int) ≤ (k : Int) := by omega)
  | fail)
 go_ret
 exact ⟨by simp, rfl⟩
end
section
open Go Go.Proofs Go.RowKit Go.Lib
open Classical
section
variable {S : List Nat} {w0 w : World} {M R : List Res}
theorem St.blkSet {b E : Nat} {c : Array Value} (h : St S w0 w M R) (i : Nat) (hi : M[i]? = some (Rs.blk b (.cells c E (0, 0)))) (k : Nat) (u : Value) : St S w0 (w.setCell ⟨b, k, none⟩ u) (M.set i (Rs.blk b (.cells (c.setIfInBounds k u) E (0, 0)))) R := by
 have h1 : w.heap[b]? = some (.cells c E (0, 0)) := h.m i hi
 exact h.set i hi (T := [b]) ((Kept.refl _ _).setCell u (by simp)) (by simp [Rs.blk]) (row_set h1 k u) (fun g hg => .inl hg)
end
structure MdTop (sp : Nat) (w : World) (D : Tops) (x : Md) : Prop where
 ex : ∃ (ver g : Int) (ta oa da : Option Addr) (tn tc dn dc on oc : Nat) (ra : Option Addr) (tl : List ByteArray), x.val = .agg #[.int .i16 ver, .slice ta tn tc, .slice da dn dc, .slice oa on oc, .int .i32 g, .pointer ra] ∧ tl.Perm (D.map (·.1)) ∧
  ∀ w', Kept [sp] w w' → SlStrs w' (.slice ta tn tc) tl ∧ UdIs w' (.slice da dn dc) x.parts x.gen
 gen : isI32 x.gen
theorem MdTop.ok {sp : Nat} {w w' : World} {D : Tops} {x : Md} (h : MdTop sp w D x) (k : Kept [sp] w w') : MdOk w' x := by
 obtain ⟨⟨ver, g, ta, oa, da, tn, tc, dn, dc, on, oc, ra, tl, h1, h2, h3⟩, hg⟩ := h
 exact ⟨⟨ver, g, ta, oa, da, tn, tc, dn, dc, on, oc, ra, h1, (h3 w' k).2⟩, hg⟩
structure PlIn (Xs : List Md) (D : Tops) : Prop where
 n1 : 1 ≤ Xs.length
 n2 : Xs.length ≤ 1000
 dk : (D.map (·.1)).Nodup
 tn : (topTps D).Nodup
 t0 : 0 < (topTps D).length
 t1 : (topTps D).length ≤ 1000
 dl : D.length ≤ 1000
 nd : (Xs.flatMap (·.parts)).Nodup
 sub : ∀ x ∈ Xs, ∀ p ∈ x.parts, p ∈ topTps D
 near : Near (Xs.map (·.parts.length))
theorem PlIn.plen {Xs : List Md} {D : Tops} (h : PlIn Xs D) : (Xs.flatMap (·.parts)).length ≤ (topTps D).length :=
 sub_len h.nd (fun p hp => by
  obtain ⟨x, hx, hp⟩ := List.mem_flatMap.1 hp
  exact h.sub x hx p hp)
theorem rowsS_keys {B : List Sw} {p : TP} (h : p ∉ B.map (·.1)) : (tpV p) ∉ (rowsS B).map (·.1) := by
 intro hu
 obtain ⟨y, hy, e⟩ := List.mem_map.1 hu
 obtain ⟨z, hz, rfl⟩ := List.mem_map.1 hy
 exact h (tpV_inj e ▸ List.mem_map_of_mem hz)
theorem tops_new {D Dn L1 L2 : Tops} {top : ByteArray} {v : Value} {xs : List Int} {k : Nat} {n : Int} (hD : (topTps D).Nodup) (hp : (Dn ++ (L1 ++ (top, v, xs) :: L2)).Perm D) (hn : xs[k]? = some n) : (top, n) ∉ topTps Dn ++ tpsOf (top, xs.take k) := by
 have h1 := (topTps_perm hp).nodup_iff.2 hD
 have e : topTps (Dn ++ (L1 ++ (top, v, xs) :: L2)) = topTps Dn ++ (topTps L1 ++ (tpsOf (top, xs) ++ topTps L2)) := by simp [topTps]
 rw [e, List.nodup_append, List.nodup_append, List.nodup_append] at h1
 obtain ⟨_, ⟨_, ⟨h2, _, _⟩, _⟩, h3⟩ := h1
 have hx : (top, n) ∈ tpsOf (top, xs) := List.mem_map.2 ⟨n, List.mem_of_getElem? hn, rfl⟩
 intro h
 rcases Zap.1 h with h | h
 · exact h3 _ h (top, n) (by simp only [Zap]; exact .inr (.inl hx)) rfl
 · have hk : (tpsOf (top, xs))[k]? = some (top, n) := by simp [tpsOf, hn]
   have := take_new h2 hk
   apply this
   simpa [tpsOf, List.map_take] using h
def PA1 (sp : Nat) (w : World) (rk it rt : Nat) (D : Tops) (Mr : List Res) (X : Res) (wr : World) : Prop :=
 ∃ (Dn Lf : Tops) (B : List Sw), (Dn ++ Lf).Perm D ∧ (B.map (·.1)).Perm (topTps Dn) ∧ (∀ x ∈ B, x.2.2 = []) ∧ St [sp] w wr (Rs.p2c rk B :: Mr) [X, itTops rt D (rawT Lf) it]
def PA2 (sp : Nat) (w : World) (rk : Nat) (ps : List TP) (top : ByteArray) (xs : List Int) (xn : Nat) (Mr R : List Res) (i : Value) (wr : World) : Prop :=
 ∃ (k : Nat) (B : List Sw), i = .int .i64 k ∧ k ≤ xn ∧ (B.map (·.1)).Perm (ps ++ tpsOf (top, xs.take k)) ∧ (∀ x ∈ B, x.2.2 = []) ∧ St [sp] w wr (Rs.p2c rk B :: Mr) R
noncomputable def rowD (D : Tops) (t : ByteArray) : List TP := ((D.find? fun x => decide (x.1 = t)).map fun x => tpsOf (x.1, x.2.2)).getD []
noncomputable def doneT (D : Tops) (l : List ByteArray) : List TP := l.flatMap (rowD D)
theorem rowD_mem : ∀ {D : Tops} {t : ByteArray} {v : Value} {xs : List Int}, (D.map (·.1)).Nodup → (t, v, xs) ∈ D → rowD D t = tpsOf (t, xs)
 | [], _, _, _, _, h => by cases h
 | y :: D, t, v, xs, hn, h => by
   simp only [List.map_cons, List.nodup_cons] at hn
   unfold rowD
   rw [List.find?_cons]
   rcases Zmc.1 h with h | h
   · subst h; simp
   · have hne : y.1 ≠ t := fun e => hn.1 (e ▸ List.mem_map_of_mem (f := fun x : ByteArray × Value × List Int => x.1) h)
     simp only [hne, decide_false]
     exact rowD_mem hn.2 h
theorem doneT_perm {D : Tops} {l : List ByteArray} (hn : (D.map (·.1)).Nodup) (h : l.Perm (D.map (·.1))) : (doneT D l).Perm (topTps D) := by
 have h1 : (doneT D l).Perm (doneT D (D.map (·.1))) := h.flatMap_right _
 have h2 : doneT D (D.map (·.1)) = topTps D := by
  unfold doneT topTps
  rw [List.flatMap_map]
  have : ∀ D' : Tops, (∀ x ∈ D', x ∈ D) → (D'.flatMap fun x => rowD D x.1) = D'.flatMap fun x => tpsOf (x.1, x.2.2) := by
   intro D'
   induction D' with
   | nil => intro _; rfl
   | cons x D' ih =>
     intro h
     rw [List.flatMap_cons, List.flatMap_cons, ih (fun y hy => h y (by simp [hy])), rowD_mem hn (show (x.1, x.2.1, x.2.2) ∈ D from h x (by simp))]
  exact this D (fun x hx => hx)
 rwa [h2] at h1
theorem doneT_snoc {D : Tops} {l : List ByteArray} {k : Nat} {t : ByteArray} (h : l[k]? = some t) : doneT D (l.take (k + 1)) = doneT D (l.take k) ++ rowD D t := by
 obtain ⟨h1, h2⟩ := List.getElem?_eq_some_iff.1 h
 rw [List.take_succ_eq_append_getElem h1, h2]
 simp [doneT]
theorem done_new {D : Tops} {tl : List ByteArray} {k j : Nat} {t : ByteArray} {v : Value} {xs : List Int} {n : Int} (hn : (D.map (·.1)).Nodup) (hD : (topTps D).Nodup) (htl : tl.Perm (D.map (·.1))) (ht : tl[k]? = some t) (hx : (t, v, xs) ∈ D) (hj : xs[j]? = some n) :
 (t, n) ∉ doneT D (tl.take k) ++ tpsOf (t, xs.take j) := by
 have h1 := (doneT_perm hn htl).nodup_iff.2 hD
 obtain ⟨hk, e⟩ := List.getElem?_eq_some_iff.1 ht
 have e2 : tl = tl.take k ++ t :: tl.drop (k + 1) := by
  conv => lhs; rw [← List.take_append_drop k tl, List.drop_eq_getElem_cons hk, e]
 have e3 : doneT D tl = doneT D (tl.take k) ++ (rowD D t ++ doneT D (tl.drop (k + 1))) := by
  conv => lhs; rw [e2]
  simp [doneT]
 rw [e3, rowD_mem hn hx, List.nodup_append, List.nodup_append] at h1
 obtain ⟨_, ⟨h2, _, _⟩, h3⟩ := h1
 have hx : (t, n) ∈ tpsOf (t, xs) := List.mem_map.2 ⟨n, List.mem_of_getElem? hj, rfl⟩
 intro h
 rcases Zap.1 h with h | h
 · exact h3 _ h (t, n) (by simp only [Zap]; exact .inl hx) rfl
 · have hk : (tpsOf (t, xs))[j]? = some (t, n) := by simp [tpsOf, hj]
   have := take_new h2 hk
   apply this
   simpa [tpsOf, List.map_take] using h
theorem pb_step {C1 C2 : List Sw} {p : TP} {vb nv : Value} {nms : List ByteArray} {name : ByteArray} {done : List TP} (hk : (C1.map (·.1) ++ p :: C2.map (·.1)).Nodup)
 (h : ∀ x ∈ C1 ++ (p, vb, nms) :: C2, (x.1 ∈ done → x.2.2 = nms ++ [name]) ∧ (x.1 ∉ done → x.2.2 = nms)) :
 ∀ x ∈ C1 ++ (p, nv, nms ++ [name]) :: C2, (x.1 ∈ done ++ [p] → x.2.2 = nms ++ [name]) ∧ (x.1 ∉ done ++ [p] → x.2.2 = nms) := by
 rw [List.nodup_append, List.nodup_cons] at hk
 obtain ⟨_, ⟨h2, _⟩, h3⟩ := hk
 have hne : ∀ x, x ∈ C1 ∨ x ∈ C2 → x.1 ≠ p := by
  rintro x (hx | hx) e
  · exact h3 x.1 (List.mem_map_of_mem hx) p (by simp) e
  · exact h2 (e ▸ List.mem_map_of_mem (f := fun x : Sw => x.1) hx)
 have hold : ∀ x, x ∈ C1 ∨ x ∈ C2 → (x.1 ∈ done ++ [p] → x.2.2 = nms ++ [name]) ∧ (x.1 ∉ done ++ [p] → x.2.2 = nms) := fun x hx => by
  have h4 := h x (by rcases hx with hx | hx <;> simp [hx])
  have h5 := hne x hx
  simp only [Zap, Zmc, Znn, or_false, h5]
  exact h4
 intro x hx
 rcases Zap.1 hx with hx | hx
 · exact hold x (.inl hx)
 · rcases Zmc.1 hx with rfl | hx
   · exact ⟨fun _ => rfl, fun h => absurd (by simp) h⟩
   · exact hold x (.inr hx)
theorem rawMd_names {w : World} {r : Nat} {Xs : List Md} (h : MapAt w isStr r (rawMd Xs)) : (Xs.map (·.name)).Nodup := by
 have h1 := h.nodup
 have e : (rawMd Xs).map (·.1) = (Xs.map (·.name)).map (fun s : ByteArray => (Value.string s)) := by simp [rawMd, Function.comp_def]
 rw [e] at h1
 exact (List.pairwise_map.1 h1).imp fun h e => h (by rw [e])
theorem name_new {Xs Dn L1 L2 : List Md} {x : Md} (hn : (Xs.map (·.name)).Nodup) (hp : (Dn ++ (L1 ++ x :: L2)).Perm Xs) : x.name ∉ Dn.map (·.name) := by
 have h1 := (hp.map (·.name)).nodup_iff.2 hn
 rw [List.map_append, List.nodup_append] at h1
 intro h
 exact h1.2.2 _ h x.name (by simp) rfl
def PBS (sp : Nat) (w : World) (rk rp : Nat) (Pp : List Rw) (name : ByteArray) (nms : List ByteArray) (K : List TP) (Mr R : List Res) (done : List TP) (wr : World) : Prop :=
 ∃ (v : Value) (B : List Sw), B.map (·.1) = K ∧ (∀ x ∈ B, (x.1 ∈ done → x.2.2 = nms ++ [name]) ∧ (x.1 ∉ done → x.2.2 = nms)) ∧ St [sp] w wr (Rs.cur rp (Pp ++ [(name, v, done)]) :: Rs.p2c rk B :: Mr) R
def PB2 (F : List TP → World → Prop) (D : Tops) (tl : List ByteArray) (tn : Nat) (i : Value) (wr : World) : Prop := ∃ k : Nat, i = .int .i64 k ∧ k ≤ tn ∧ F (doneT D (tl.take k)) wr
def PB3 (F : List TP → World → Prop) (ps : List TP) (top : ByteArray) (xs : List Int) (xn : Nat) (i : Value) (wr : World) : Prop := ∃ k : Nat, i = .int .i64 k ∧ k ≤ xn ∧ F (ps ++ tpsOf (top, xs.take k)) wr
abbrev itC (rc : Nat) (A : List Rw) (lf : List (Value × Value)) (it : Nat) : Res := Rs.it (Rs.cur rc A) rc (rawR (rowsT A)) lf it (cur_foot rc A)
def PC1 (sp : Nat) (w : World) (rk it ru : Nat) (B : List Sw) (Ma R : List Res) (wr : World) : Prop :=
 ∃ (Dn Lf : List Sw), (Dn ++ Lf).Perm B ∧ St [sp] w wr (Rs.map ru isTp (UnT (Dn.map (·.1))) :: itQ rk B (rawR (rowsS Lf)) it :: Ma) R
theorem field78 (a b c d e f : Value) (w : World) : (Instr.field 78 (.agg #[a, b, c, d, e, f]) 1).run Tryz.prog w = .ok b w := by kernel_rfl
theorem itR_eq {V : Value → Prop} {r E sz it : Nat} {left : List (Value × Value)} {L L' : List MRow} (e : L = L') (hr : r ∈ (Rs.rows V r E sz L).foot) (hr' : r ∈ (Rs.rows V r E sz L').foot) :
 Rs.it (Rs.rows V r E sz L) r (rawR L) left it hr = Rs.it (Rs.rows V r E sz L') r (rawR L') left it hr' := by subst e; rfl
theorem rowsT_mid (C1 C2 : List Rw) (m : ByteArray) (v : Value) (ps : List TP) : rowsT (C1 ++ (m, v, ps) :: C2) = rowsT C1 ++ (.string m, v, ps.flatMap encTp) :: rowsT C2 := by simp [rowsT, rowT]
theorem pd_next {Dn L1 L2 A1 C1 C2 : List Rw} {m : ByteArray} {v vk : Value} {ps : List TP} (hk : (A1.map (·.1)).Nodup) (hp : (Dn ++ (L1 ++ (m, v, ps) :: L2)).Perm A1) (ha : asgT (C1 ++ (m, v, ps) :: C2) = asgT A1)
 (h1 : ∀ x ∈ L1 ++ (m, v, ps) :: L2, x ∈ C1 ++ (m, v, ps) :: C2) (h2 : ∀ x ∈ C1 ++ (m, v, ps) :: C2, x ∈ L1 ++ (m, v, ps) :: L2 ∨ (x.2.2 = [] → x.2.1 = .slice none 0 0)) (hv : ps = [] → vk = .slice none 0 0) :
 (∀ u, (Value.string m, u) ∉ rawR (rowsT L1) ++ rawR (rowsT L2)) ∧ asgT (C1 ++ (m, vk, ps) :: C2) = asgT A1 ∧ (∀ x ∈ L1 ++ L2, x ∈ C1 ++ (m, vk, ps) :: C2) ∧ (∀ x ∈ C1 ++ (m, vk, ps) :: C2, x ∈ L1 ++ L2 ∨ (x.2.2 = [] → x.2.1 = .slice none 0 0)) := by
 have hkC : ((C1 ++ (m, v, ps) :: C2).map (·.1)).Nodup := by
  have h3 := congrArg (List.map (·.1)) ha
  have e1 : ∀ A : List Rw, (asgT A).map (·.1) = A.map (·.1) := fun A => by simp [asgT, Function.comp_def]
  rw [e1, e1] at h3
  rw [h3]; exact hk
 have hkL := (hp.map (·.1)).nodup_iff.2 hk
 rw [List.map_append, List.map_append, List.map_cons] at hkL
 have hkL2 := (List.nodup_append.1 hkL).2.1
 rw [List.nodup_append, List.nodup_cons] at hkL2
 rw [List.map_append, List.map_cons, List.nodup_append, List.nodup_cons] at hkC
 have hnL : ∀ x, x ∈ L1 ∨ x ∈ L2 → x.1 ≠ m := by
  rintro x (hx | hx) e
  · exact hkL2.2.2 x.1 (List.mem_map_of_mem hx) m (by simp) e
  · exact hkL2.2.1.1 (List.mem_map.2 ⟨x, hx, e⟩)
 have hnC : ∀ x, x ∈ C1 ∨ x ∈ C2 → x.1 ≠ m := by
  rintro x (hx | hx) e
  · exact hkC.2.2 x.1 (List.mem_map_of_mem hx) m (by simp) e
  · exact hkC.2.1.1 (List.mem_map.2 ⟨x, hx, e⟩)
 refine ⟨fun u hu => ?_, by rw [← ha, asgT_mid, asgT_mid], fun x hx => ?_, fun x hx => ?_⟩
 · rw [← rawR_append, ← rowsT_append] at hu
   obtain ⟨y, hy, e⟩ := List.mem_map.1 hu
   obtain ⟨z, hz, rfl⟩ := List.mem_map.1 hy
   rw [Prod.mk.injEq] at e
   simp only [rowT, Value.string.injEq] at e
   exact hnL z (Zap.1 hz) e.1
 · have h3 := h1 x (by rcases Zap.1 hx with hx | hx <;> simp [hx])
   have h4 := hnL x (Zap.1 hx)
   rcases Zap.1 h3 with h3 | h3
   · simp [h3]
   · rcases Zmc.1 h3 with rfl | h3
     · exact absurd rfl h4
     · simp [h3]
 · have hc : x ∈ C1 ∨ x ∈ C2 ∨ x = (m, vk, ps) := by
    rcases Zap.1 hx with h | h
    · exact .inl h
    · rcases Zmc.1 h with h | h
      · exact .inr (.inr h)
      · exact .inr (.inl h)
   have hold : x ∈ C1 ∨ x ∈ C2 → x ∈ L1 ++ L2 ∨ (x.2.2 = [] → x.2.1 = .slice none 0 0) := fun hc => by
    have h3 := hnC x hc
    rcases h2 x (by rcases hc with hc | hc <;> simp [hc]) with h4 | h4
    · left
      rcases Zap.1 h4 with h4 | h4
      · simp [h4]
      · rcases Zmc.1 h4 with rfl | h4
        · exact absurd rfl h3
        · simp [h4]
    · exact .inr h4
   rcases hc with hc | hc | rfl
   · exact hold (.inl hc)
   · exact hold (.inr hc)
   · exact .inr hv
def PE1 (sp : Nat) (w : World) (ru it : Nat) (Un : List TP) (Mc R : List Res) (v : Value) (wr : World) : Prop :=
 ∃ (na : Nat) (acc Lf : List TP), acc.length = na ∧ (acc ++ Lf).Perm Un ∧ St [sp] w wr (Rs.row 384 2 v na (acc.flatMap encTp) :: Rs.it (Rs.map ru isTp (UnT Un)) ru (UnT Un) (UnT Lf) it (by simp [Rs.map]) :: Mc) R
theorem asgT_flat (A : List Rw) : (asgT A).flatMap (·.2) = A.flatMap (·.2.2) := by simp [asgT, List.flatMap_map]
theorem asgT_keys (A : List Rw) : (asgT A).map (·.1) = A.map (·.1) := by simp [asgT, Function.comp_def]
theorem asgT_loads (A : List Rw) : (asgT A).map (·.2.length) = A.map (·.2.2.length) := by simp [asgT, Function.comp_def]
theorem asgT_mem {A : List Rw} {m : ByteArray} {ps : List TP} : (m, ps) ∈ asgT A ↔ ∃ v, (m, v, ps) ∈ A := by
 unfold asgT
 simp only [List.mem_map, Prod.mk.injEq]
 constructor
 · rintro ⟨⟨m', v, ps'⟩, h, rfl, rfl⟩; exact ⟨v, h⟩
 · rintro ⟨v, h⟩; exact ⟨_, h, rfl, rfl⟩
def PlDone (Dn : List Rw) (P : PL) : Prop := P.map (·.1) = Dn.map (·.1) ∧ ∀ x ∈ Dn, ∃ r I, (x.1, r, I) ∈ P ∧ (topTps I).Perm x.2.2 ∧ ∀ y ∈ I, y.2.2 ≠ []
theorem PlDone.snoc {Dn : List Rw} {P : PL} (h : PlDone Dn P) (m : ByteArray) (v : Value) (ps : List TP) (r : Nat) (I : Tops) (hI : (topTps I).Perm ps) (hI0 : ∀ y ∈ I, y.2.2 ≠ []) : PlDone (Dn ++ [(m, v, ps)]) (P ++ [(m, r, I)]) := by
 refine ⟨by rw [List.map_append, List.map_append, h.1]; rfl, fun x hx => ?_⟩
 rcases Zap.1 hx with hx | hx
 · obtain ⟨r', I', h1, h2⟩ := h.2 x hx
   exact ⟨r', I', by simp [h1], h2⟩
 · simp only [Zmc, Znn, or_false] at hx
   subst hx
   exact ⟨r, I, by simp, hI, hI0⟩
theorem rawP_snoc (P : PL) (m : ByteArray) (r : Nat) (I : Tops) : rawP P ++ [(.string m, .map (some r))] = rawP (P ++ [(m, r, I)]) := by simp [rawP]
theorem rawP_miss {P : PL} {m : ByteArray} (h : m ∉ P.map (·.1)) : ∀ u, (Value.string m, u) ∉ rawP P := by
 intro u hu
 obtain ⟨y, hy, e⟩ := List.mem_map.1 hu
 rw [Prod.mk.injEq, Value.string.injEq] at e
 exact h (List.mem_map.2 ⟨y, hy, e.1⟩)
theorem build_i32 (n : Int) (w : World) : (Instr.buildSlice 31 1 #[(0, .int .i32 n)]).run Tryz.prog w = .ok (.slice (some ⟨w.heap.size, 0, none⟩) 1 1) (w.alloc (.cells #[.int .i32 n] 21)) := by
 simp [Instr.buildSlice, go_sem]
theorem parts_le {I : Tops} {x : ByteArray × Value × List Int} (hx : x ∈ I) : x.2.2.length ≤ (topTps I).length := by
 obtain ⟨A, B, rfl⟩ := List.append_of_mem hx
 simp [topTps, tpsOf]; omega
end
end Go.Proofs.YticcnlpfmekagaaGreat
