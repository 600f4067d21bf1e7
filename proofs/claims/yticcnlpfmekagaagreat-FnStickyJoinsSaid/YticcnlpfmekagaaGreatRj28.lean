/- Part 28 of the proof of the row: OutShow, HeapB2, MostP. -/
import Derived.Test.YticcnlpfmekagaaGreatRj00
import Derived.Test.YticcnlpfmekagaaGreatRj27
import Derived.Test.YticcnlpfmekagaaGreatRj20
import Derived.Test.YticcnlpfmekagaaGreatRj24
import Derived.Test.YticcnlpfmekagaaGreatRj16
set_option linter.unusedVariables false
set_option linter.unusedSimpArgs false
set_option maxRecDepth 100000
set_option maxHeartbeats 8000000
namespace Go.Proofs.YticcnlpfmekagaaGreat
section
open Go Go.Proofs Go.RowKit
open Classical
theorem sortedNames_lt {l : List ByteArray} (h : l.Nodup) : (sortedNames l).Pairwise (fun a b => a.data.toList < b.data.toList) := by
 unfold sortedNames
 have h1 := List.pairwise_mergeSort (le := fun x y : List UInt8 => decide (x ≤ y)) (fun a b c h1 h2 => by simp only [decide_eq_true_eq] at *; exact List.le_trans h1 h2) (fun a b => by simp only [Bool.or_eq_true, decide_eq_true_eq]; exact List.le_total a b) (l.map (·.data.toList))
 have h2 : ((l.map (·.data.toList)).mergeSort fun x y => decide (x ≤ y)).Nodup := by
  refine (List.mergeSort_perm _ _).nodup_iff.2 ?_
  refine List.pairwise_map.2 (h.imp fun hne e => hne ?_)
  rename_i a b
  obtain ⟨⟨a⟩⟩ := a
  obtain ⟨⟨b⟩⟩ := b
  simp at e; subst e; rfl
 refine List.pairwise_map.2 ?_
 refine (h1.and h2).imp ?_
 rintro a b ⟨hle, hne⟩
 simp only [decide_eq_true_eq] at hle
 by_cases h3 : a < b
 · exact h3
 · exact absurd (List.le_antisymm hle (List.not_lt.1 h3)) hne
theorem topLt_tot {x y : ByteArray} (h : topLt y x = false) (hne : x ≠ y) : topLt x y = true := by
 unfold topLt at *
 rw [bytesLess_eq] at *
 simp only [decide_eq_true_eq, decide_eq_false_iff_not] at *
 by_cases h3 : x.toList < y.toList
 · exact h3
 · exact absurd ((ba_inj _ _).1 (List.le_antisymm (List.not_lt.1 h) (List.not_lt.1 h3))) hne
def ltMT (a b : ByteArray × ByteArray) : Prop := a.1.data.toList < b.1.data.toList ∨ (a.1 = b.1 ∧ topLt a.2 b.2 = true)
theorem ltMT_irr (a : ByteArray × ByteArray) : ¬ ltMT a a := by
 rintro (h | ⟨_, h⟩)
 · exact List.lt_irrefl _ h
 · rw [topLt_swo.irrefl] at h; cases h
structure Plans (P : PL) (A : Asg) : Prop where
 nd : (P.map (·.1)).Nodup
 row : ∀ m xs, (m, xs) ∈ A → ∃ r D, (m, r, D) ∈ P ∧ (topTps D).Perm xs ∧ (D.map (·.1)).Nodup ∧ ∀ y ∈ D, y.2.2 ≠ []
def zipS (names : List ByteArray) (LL : List (List Shr)) : List (ByteArray × List Tr) := names.zip (LL.map (·.map trip))
theorem zipS_flat : ∀ (names : List ByteArray) (LL : List (List Shr)), LL.length = names.length → (zipS names LL).flatMap (·.2) = LL.flatten.map trip
 | [], [], _ => rfl
 | [], l :: LL, h => by simp at h
 | n :: names, [], h => by simp at h
 | n :: names, l :: LL, h => by
   have ih := zipS_flat names LL (by simpa using h)
   simp only [zipS, List.map_cons, List.zip_cons_cons, List.flatMap_cons, List.flatten_cons, List.map_append]
   unfold zipS at ih
   rw [ih]
theorem zipS_keys (names : List ByteArray) (LL : List (List Shr)) (h : LL.length = names.length) : (zipS names LL).map (·.1) = names := by
 unfold zipS
 exact List.map_fst_zip (by simp [h])
theorem zipS_mem {names : List ByteArray} {LL : List (List Shr)} {z : ByteArray × List Tr} (h : z ∈ zipS names LL) : ∃ (j : Nat) (l : List Shr), names[j]? = some z.1 ∧ LL[j]? = some l ∧ z.2 = l.map trip := by
 obtain ⟨j, hj⟩ := List.mem_iff_getElem?.1 h
 unfold zipS at hj
 rw [List.getElem?_zip_eq_some] at hj
 obtain ⟨h1, h2⟩ := hj
 rw [List.getElem?_map] at h2
 cases hl : LL[j]? with
 | none => rw [hl] at h2; cases h2
 | some l => rw [hl] at h2; simp only [Option.map_some, Option.some.injEq] at h2; exact ⟨j, l, h1, hl, h2.symm⟩
theorem flatT_tops (nm : ByteArray) : ∀ D : Tops, flatT ((D.filter full).map (tripOf nm)) = topTps D
 | [] => rfl
 | x :: D => by
   have ih := flatT_tops nm D
   obtain ⟨t, v, ps⟩ := x
   have e : topTps ((t, v, ps) :: D) = ps.map (fun n => (t, n)) ++ topTps D := by simp [topTps, tpsOf]
   rw [e]
   cases ps with
   | nil =>
     have hf : full (t, v, ([] : List Int)) = false := rfl
     rw [List.filter_cons_of_neg (by simp [hf]), ih]; rfl
   | cons p ps =>
     have hf : full (t, v, p :: ps) = true := rfl
     rw [List.filter_cons_of_pos hf, List.map_cons, show (tripOf nm (t, v, p :: ps) :: List.map (tripOf nm) (List.filter full D)) = [tripOf nm (t, v, p :: ps)] ++ List.map (tripOf nm) (List.filter full D) from rfl, flatT_append, ih]
     simp [flatT, tripOf]
theorem plans_uniq {P : PL} (h : (P.map (·.1)).Nodup) {m : ByteArray} {r r' : Nat} {D D' : Tops} (h1 : (m, r, D) ∈ P) (h2 : (m, r', D') ∈ P) : D = D' := by
 induction P with
 | nil => cases h1
 | cons x P ih =>
   simp only [List.map_cons, List.nodup_cons] at h
   rcases Zmc.1 h1 with e1 | h3 <;> rcases Zmc.1 h2 with e2 | h4
   · rw [← e1] at e2; cases e2; rfl
   · rw [← e1] at h; exact absurd (List.mem_map_of_mem (f := fun x : ByteArray × Nat × Tops => x.1) h4) h.1
   · rw [← e2] at h; exact absurd (List.mem_map_of_mem (f := fun x : ByteArray × Nat × Tops => x.1) h3) h.1
   · exact ih h.2 h3 h4
section
variable {P : PL} {names : List ByteArray} {LL : List (List Shr)} {A : Asg}
theorem outS_row (hO : OutS P names LL) (hP : Plans P A) (hk : names.Perm (A.map (·.1))) {z : ByteArray × List Tr} (hz : z ∈ zipS names LL) :
 ∃ (l : List Shr) (D : Tops) (xs : List (ByteArray × Int)), z.2 = l.map trip ∧ (l.map trip).Perm ((D.filter full).map (tripOf z.1)) ∧ l.Pairwise (fun x y => topLt y.top x.top = false) ∧ (z.1, xs) ∈ A ∧ (topTps D).Perm xs ∧ (D.map (·.1)).Nodup := by
 obtain ⟨j, l, h1, h2, h3⟩ := zipS_mem hz
 obtain ⟨r, D, h4, h5, h6⟩ := hO.2 j _ l h1 h2
 obtain ⟨⟨m, xs⟩, hx, hm⟩ := List.mem_map.1 (hk.mem_iff.1 (List.mem_of_getElem? h1))
 simp only at hm
 subst hm
 obtain ⟨r', D', h7, h8, h9, _⟩ := hP.row _ xs hx
 have := plans_uniq hP.nd h4 h7
 subst this
 exact ⟨l, D, xs, h3, h5, h6, hx, h8, h9⟩
theorem outS_shows (hO : OutS P names LL) (hP : Plans P A) (hk : names.Perm (A.map (·.1))) (hn : names.Nodup) : Shows (LL.flatten.map trip) A := by
 rw [← zipS_flat names LL hO.1]
 refine shows_zip _ A (hk.nodup_iff.1 hn) (by rw [zipS_keys _ _ hO.1]; exact hk) fun z hz => ?_
 obtain ⟨l, D, xs, e, h1, h2, h3, h4, h5⟩ := outS_row hO hP hk hz
 rw [e]
 refine ⟨fun x hx => ?_, xs, h3, ?_⟩
 · obtain ⟨y, hy, rfl⟩ := List.mem_map.1 (h1.mem_iff.1 hx)
   rfl
 · have h6 : (flatT (l.map trip)).Perm (flatT ((D.filter full).map (tripOf z.1))) := h1.flatMap_right _
   rw [flatT_tops] at h6
   exact h6.trans h4
theorem pw_flat : ∀ (Z : List (ByteArray × List Tr)), (Z.map (·.1)).Pairwise (fun a b => a.data.toList < b.data.toList) → (∀ z ∈ Z, (∀ x ∈ z.2, x.1 = z.1) ∧ (z.2.map (·.2.1)).Pairwise (fun a b => topLt a b = true)) →
 ((Z.flatMap (·.2)).map fun x => (x.1, x.2.1)).Pairwise ltMT
 | [], _, _ => by simp
 | z :: Z, h1, h2 => by
   rw [List.map_cons, List.pairwise_cons] at h1
   rw [List.flatMap_cons, List.map_append, List.pairwise_append]
   obtain ⟨g1, g2⟩ := h2 z (by simp)
   refine ⟨?_, pw_flat Z h1.2 (fun y hy => h2 y (by simp [hy])), fun a ha b hb => ?_⟩
   · refine List.pairwise_map.2 ?_
     have g3 := List.pairwise_map.1 g2
     refine List.Pairwise.imp_of_mem (fun {a b} ha hb hab => ?_) g3
     exact .inr ⟨by rw [g1 a ha, g1 b hb], hab⟩
   · obtain ⟨x, hx, rfl⟩ := List.mem_map.1 ha
     obtain ⟨y, hy, rfl⟩ := List.mem_map.1 hb
     obtain ⟨z', hz', hy⟩ := List.mem_flatMap.1 hy
     refine .inl ?_
     simp only
     rw [g1 x hx, (h2 z' (by simp [hz'])).1 y hy]
     exact h1.1 _ (List.mem_map.2 ⟨z', hz', rfl⟩)
theorem outS_canon (hO : OutS P names LL) (hP : Plans P A) (hk : names.Perm (A.map (·.1))) (hs : names.Pairwise (fun a b => a.data.toList < b.data.toList)) : Canon ltMT (LL.flatten.map trip) := by
 rw [← zipS_flat names LL hO.1]
 refine ⟨pw_flat _ (by rw [zipS_keys _ _ hO.1]; exact hs) fun z hz => ?_, fun x hx => ?_⟩
 · obtain ⟨l, D, xs, e, h1, h2, h3, h4, h5⟩ := outS_row hO hP hk hz
   rw [e]
   refine ⟨fun x hx => ?_, ?_⟩
   · obtain ⟨y, hy, rfl⟩ := List.mem_map.1 (h1.mem_iff.1 hx)
     rfl
   · have hn : (l.map (·.top)).Nodup := by
      have e1 : ((l.map trip).map (·.2.1)) = l.map (·.top) := by simp [trip, Function.comp_def]
      have e2 : (((D.filter full).map (tripOf z.1)).map (·.2.1)) = (D.filter full).map (·.1) := by simp [tripOf, Function.comp_def]
      have h6 := h1.map (fun x : Tr => x.2.1)
      rw [e1, e2] at h6
      exact h6.nodup_iff.2 (h5.sublist ((List.filter_sublist).map _))
     have e1 : ((l.map trip).map (·.2.1)) = l.map (·.top) := by simp [trip, Function.comp_def]
     rw [e1]
     refine List.pairwise_map.2 ?_
     have hn' := List.pairwise_map.1 hn
     exact (h2.and hn').imp fun ⟨a, b⟩ => topLt_tot a b
 · obtain ⟨z, hz, hx⟩ := List.mem_flatMap.1 hx
   obtain ⟨l, D, xs, e, h1, h2, h3, h4, h5⟩ := outS_row hO hP hk hz
   rw [e] at hx
   obtain ⟨y, hy, rfl⟩ := List.mem_map.1 (h1.mem_iff.1 hx)
   have := (List.mem_filter.1 hy).2
   intro h
   simp only [tripOf] at h
   simp [full, h] at this
end
end
section
open Go Go.Proofs Go.RowKit Go.Lib
open Classical
theorem moreIt_eq (x y : It) : moreIt x y = if x.2.2.2.1 = y.2.2.2.1 then decide (y.2.1.toList < x.2.1.toList) else decide (y.2.2.2.1 < x.2.2.2.1) := by
 unfold moreIt
 rw [bytesLess_eq]
 split
 · by_cases h : y.2.1.toList < x.2.1.toList
   · have h1 : ¬ x.2.1.toList < y.2.1.toList := fun h2 => List.lt_irrefl _ (List.lt_trans h h2)
     have h2 : x.2.1.toList ≠ y.2.1.toList := fun e => by rw [e] at h; exact List.lt_irrefl _ h
     simp [h, h1, h2]
   · by_cases h1 : x.2.1.toList < y.2.1.toList
     · simp [h, h1]
     · have : x.2.1.toList = y.2.1.toList := List.le_antisymm (List.not_lt.1 h) (List.not_lt.1 h1)
       simp [h, h1, this]
 · rfl
theorem more_ok : MoreOk moreIt := by
 refine ⟨fun x y h => ?_, fun x y z h1 h2 => ?_⟩
 · rw [moreIt_eq] at h ⊢
   by_cases e : x.2.2.2.1 = y.2.2.2.1
   · rw [if_pos e] at h
     rw [if_pos e.symm]
     simp only [decide_eq_true_eq, decide_eq_false_iff_not] at *
     exact fun h2 => List.lt_irrefl _ (List.lt_trans h h2)
   · rw [if_neg e] at h
     rw [if_neg (fun h => e h.symm)]
     simp only [decide_eq_true_eq, decide_eq_false_iff_not] at *
     omega
 · rw [moreIt_eq] at *
   by_cases e1 : y.2.2.2.1 = x.2.2.2.1
   · rw [if_pos e1] at h1
     by_cases e2 : z.2.2.2.1 = y.2.2.2.1
     · rw [if_pos e2] at h2
       rw [if_pos (e2.trans e1)]
       simp only [decide_eq_false_iff_not] at *
       exact fun h3 => (List.le_trans (List.not_lt.1 h2) (List.not_lt.1 h1)) h3
     · rw [if_neg e2] at h2
       rw [if_neg (by omega)]
       simp only [decide_eq_false_iff_not] at *
       omega
   · rw [if_neg e1] at h1
     simp only [decide_eq_false_iff_not] at h1
     by_cases e2 : z.2.2.2.1 = y.2.2.2.1
     · rw [if_neg (by omega)]
       simp only [decide_eq_false_iff_not]
       omega
     · rw [if_neg e2] at h2
       simp only [decide_eq_false_iff_not] at h2
       rw [if_neg (by omega)]
       simp only [decide_eq_false_iff_not]
       omega
theorem more_len {x y : It} (h : moreIt y x = false) : y.2.2.2.1 ≤ x.2.2.2.1 := by
 rw [moreIt_eq] at h
 by_cases e : y.2.2.2.1 = x.2.2.2.1
 · omega
 · rw [if_neg e] at h
   simp only [decide_eq_false_iff_not] at h
   omega
theorem Hq.lessE {S : List Nat} {w0 w : World} {b g n c : Nat} {J L : List It} (h : Hq S w0 b g n c J L w) {i j : Nat} {iv jv : Int} (hi : i < n) (hj : j < n) (ei : iv = i) (ej : jv = j) :
 Calls Tryz.prog 416 #[.slice (some ⟨g, 0, none⟩) n c, .int .i64 iv, .int .i64 jv] w fun e w' => ∃ bb : Bool, e = .returned (.bool bb) ∧ LessIs moreIt L i j bb ∧ Hq S w0 b g n c J L w' := by
 subst ei ej
 obtain ⟨x, e1, cx, hx⟩ := h.get hi
 obtain ⟨y, e2, cy, hy⟩ := h.get hj
 exact (less_it g n c w x y i j hi hj h.small cx cy hx hy).mono fun e w' h' => by
  obtain ⟨h1, q, rfl⟩ := h'
  exact ⟨_, h1, fun x' y' hx' hy' => by rw [e1] at hx'; rw [e2] at hy'; cases hx'; cases hy'; rfl, h.drewN q⟩
def DnRel (S : List Nat) (w0 : World) (b g n c : Nat) (J L : List It) (i n0 : Nat) (iv : Value) (wr : World) : Prop :=
 ∃ (k : Nat) (L' : List It), iv = .int .i64 k ∧ k ≤ n ∧ i ≤ k ∧ L'.Perm L ∧ L'.drop n0 = L.drop n0 ∧ HeapBut moreIt L' n0 i k ∧ Hq S w0 b g n c J L' wr
def DnPost (S : List Nat) (w0 : World) (b g n c : Nat) (J L : List It) (i n0 : Nat) (e : Ending) (w' : World) : Prop :=
 (∃ bb : Bool, e = .returned (.bool bb)) ∧ ∃ L', L'.Perm L ∧ L'.drop n0 = L.drop n0 ∧ HeapFrom moreIt L' n0 i ∧ Hq S w0 b g n c J L' w'
theorem down_h (b g n c : Nat) (J L : List It) (i n0 : Nat) (hn0 : n0 ≤ n) (hin : i ≤ n) (S : List Nat) (w0 w : World) (h : Hq S w0 b g n c J L w) (hh : HeapFrom moreIt L n0 (i + 1)) :
 Calls Tryz.prog 261 #[.iface 416 (.pointer (some ⟨b, 0, none⟩)), .int .i64 i, .int .i64 n0] w (DnPost S w0 b g n c J L i n0) := by
 have hb := hh.but
 clear hh
 have H0 : DnRel S w0 b g n c J L i n0 (.int .i64 i) w := ⟨i, L, rfl, hin, Nat.le_refl _, .refl _, rfl, hb, h⟩
 have HS := Zhd H0; clear H0 h hb
 go_enter Tryz.func261, Tryz.ntmps261
 go_wp2
 go_loopw [7] (fun iv wr => DnRel S w0 b g n c J L i n0 iv wr) (fun iv _ => n0 - (intOf iv).toNat)
 case atStart => exact HS.out
 case round =>
  clear HS
  obtain ⟨k, L', rfl, hkn, hik, hp, hd, hbut, hq⟩ := hrel
  have hsm := hq.small
  have hlen := hq.len
  have mL := hq.mLess
  have mS := hq.mSwap
  have H0 := Zhd (Zan hp (Zan hd (Zan hbut (Zan hlen hik))))
  clear hp hd hbut hlen
  by_cases h1 : 2 * k + 1 < n0
  · have h1i : 2 * (k : Int) + 1 < (n0 : Int) := by omega
    by_cases h2 : 2 * k + 2 < n0
    · have h2i : 2 * (k : Int) + 1 + 1 < (n0 : Int) := by omega
      go_wp2_with (first
       | (go_at_call 416; refine (hq2.lessE (i := 2 * k + 2) (j := k) (by omega) (by omega) (by omega) rfl).mono ?_; rintro e w2 ⟨bb2, rfl, hb2, hq3⟩; have mS3 := hq3.mSwap)
       | (go_at_call 416; refine (hq2.lessE (i := 2 * k + 1) (j := k) (by omega) (by omega) (by omega) rfl).mono ?_; rintro e w2 ⟨bb2, rfl, hb2, hq3⟩; have mS3 := hq3.mSwap)
       | (go_at_call 416; refine (hq.lessE (i := 2 * k + 2) (j := 2 * k + 1) (by omega) (by omega) (by omega) (by omega)).mono ?_; rintro e w1 ⟨bb, rfl, hb1, hq2⟩; have mL2 := hq2.mLess)
       | (go_at_call 417; refine (hq3.swap (i := k) (j := 2 * k + 2) (by omega) (by omega) rfl (by omega)).mono ?_; rintro e w3 ⟨rfl, x, y, hx, hy, hq4⟩)
       | (go_at_call 417; refine (hq3.swap (i := k) (j := 2 * k + 1) (by omega) (by omega) rfl (by omega)).mono ?_; rintro e w3 ⟨rfl, x, y, hx, hy, hq4⟩)
       | fail)
      all_goals first
       | (have q1 : bb = true := (by assumption); have q2 : bb2 = false := (by simpa using ‹(!bb2) = true›); subst q1 q2; go_ret; exact ⟨⟨_, rfl⟩, L', H0.out.1, H0.out.2.1, heap_stop more_ok H0.out.2.2.1 (by have := H0.out.2.2.2.1; omega) (hbig2 more_ok (.inr ⟨rfl, rfl⟩) (hb1.ge1 more_ok)) hb2, hq3⟩)
       | (have q1 : bb = false := (by assumption); have q2 : bb2 = false := (by simpa using ‹(!bb2) = true›); subst q1 q2; go_ret; exact ⟨⟨_, rfl⟩, L', H0.out.1, H0.out.2.1, heap_stop more_ok H0.out.2.2.1 (by have := H0.out.2.2.2.1; omega) (hbig2 more_ok (.inl ⟨rfl, rfl⟩) hb1.ge0) hb2, hq3⟩)
       | (have q1 : bb = true := (by assumption); have q2 : bb2 = true := (by simpa using ‹(!bb2) = false›); subst q1 q2; exact ⟨⟨2 * k + 2, _, by go_num, by omega, by omega, (perm_swap2 hx hy).trans H0.out.1, (drop_sw (by omega) (by omega)).trans H0.out.2.1, heap_go more_ok H0.out.2.2.1 H0.out.2.2.2.2 (.inr rfl) (by omega) hx hy hb2 (hbig2 more_ok (.inr ⟨rfl, rfl⟩) (hb1.ge1 more_ok)), hq4⟩, by simp [intOf]; omega⟩)
       | (have q1 : bb = false := (by assumption); have q2 : bb2 = true := (by simpa using ‹(!bb2) = false›); subst q1 q2; exact ⟨⟨2 * k + 1, _, by go_num, by omega, by omega, (perm_swap2 hx hy).trans H0.out.1, (drop_sw (by omega) (by omega)).trans H0.out.2.1, heap_go more_ok H0.out.2.2.1 H0.out.2.2.2.2 (.inl rfl) (by omega) hx hy hb2 (hbig2 more_ok (.inl ⟨rfl, rfl⟩) hb1.ge0), hq4⟩, by simp [intOf]; omega⟩)
    · have h2i : (n0 : Int) ≤ 2 * (k : Int) + 1 + 1 := by omega
      go_wp2_with (first
       | (go_at_call 416; refine (hq.lessE (i := 2 * k + 1) (j := k) (by omega) (by omega) (by omega) rfl).mono ?_; rintro e w2 ⟨bb2, rfl, hb2, hq3⟩; have mS3 := hq3.mSwap)
       | (go_at_call 417; refine (hq3.swap (i := k) (j := 2 * k + 1) (by omega) (by omega) rfl (by omega)).mono ?_; rintro e w3 ⟨rfl, x, y, hx, hy, hq4⟩)
       | fail)
      all_goals first
       | (have q2 : bb2 = false := (by simpa using ‹(!bb2) = true›); subst q2; go_ret; exact ⟨⟨_, rfl⟩, L', H0.out.1, H0.out.2.1, heap_stop more_ok H0.out.2.2.1 (j := 2 * k + 1) (by have := H0.out.2.2.2.1; omega) (hbig1 more_ok (by omega)) hb2, hq3⟩)
       | (have q2 : bb2 = true := (by simpa using ‹(!bb2) = false›); subst q2; exact ⟨⟨2 * k + 1, _, by go_num, by omega, by omega, (perm_swap2 hx hy).trans H0.out.1, (drop_sw (by omega) (by omega)).trans H0.out.2.1, heap_go more_ok H0.out.2.2.1 H0.out.2.2.2.2 (.inl rfl) (by omega) hx hy hb2 (hbig1 more_ok (by omega)), hq4⟩, by simp [intOf]; omega⟩)
  · have h1i : (n0 : Int) ≤ 2 * (k : Int) + 1 := by omega
    go_wp2_with fail
    go_ret
    exact ⟨⟨_, rfl⟩, L', H0.out.1, H0.out.2.1, heap_leaf H0.out.2.2.1 (by omega), hq⟩
theorem down_hat (b g n c : Nat) (J L : List It) (i n0 : Nat) (hn0 : n0 ≤ n) (hin : i ≤ n) (S : List Nat) (w0 w : World) (h : Hq S w0 b g n c J L w) (hh : HeapFrom moreIt L n0 (i + 1)) {iv : Int} (ei : iv = i) :
 Calls Tryz.prog 261 #[.iface 416 (.pointer (some ⟨b, 0, none⟩)), .int .i64 iv, .int .i64 n0] w (DnPost S w0 b g n c J L i n0) := by
 subst ei
 exact down_h b g n c J L i n0 hn0 hin S w0 w h hh
def InRel (S : List Nat) (w0 : World) (b g n c : Nat) (J L : List It) (iv : Value) (wr : World) : Prop :=
 ∃ (k : Nat) (L' : List It), iv = .int .i64 ((k : Int) - 1) ∧ k ≤ n ∧ L'.Perm L ∧ HeapFrom moreIt L' n k ∧ Hq S w0 b g n c J L' wr
theorem init_h (b g n c : Nat) (J L : List It) (S : List Nat) (w0 w : World) (h : Hq S w0 b g n c J L w) :
 Calls Tryz.prog 240 #[.iface 416 (.pointer (some ⟨b, 0, none⟩))] w fun e w' => e = .returned (.tuple #[]) ∧ ∃ L', L'.Perm L ∧ HeapFrom moreIt L' n 0 ∧ Hq S w0 b g n c J L' w' := by
 have hsm := h.small
 have mN := h.mLen
 have H0 : n / 2 ≤ n ∧ L.Perm L ∧ HeapFrom moreIt L n (n / 2) ∧ Hq S w0 b g n c J L w := ⟨by omega, .refl _, HeapFrom.start (Nat.le_refl _), h⟩
 have HS := Zhd H0; clear H0
 go_enter Tryz.func240, Tryz.ntmps240
 go_wp2_with (first
  | (go_at_call 241; refine h.lenc.mono ?_; rintro e w1 ⟨rfl, rfl⟩)
  | fail)
 go_loopw [3] (fun iv wr => InRel S w0 b g n c J L iv wr) (fun iv _ => (intOf iv + 1).toNat)
 case atStart => exact ⟨n / 2, L, by go_num, HS.out⟩
 case round =>
  obtain ⟨k, L', rfl, hkn, hp, hf, hq⟩ := hrel
  clear h mN HS
  have HF := Zhd (Zan hp hf); clear hp hf
  by_cases hk : k = 0
  · subst hk
    go_wp2_with fail
    go_end0
    exact ⟨rfl, L', HF.out.1, HF.out.2, hq⟩
  · have hk0 : (0 : Int) ≤ (k : Int) - 1 := by omega
    have hf1 : HeapFrom moreIt L' n (k - 1 + 1) := by have h := HF.out.2; rwa [show k - 1 + 1 = k by omega]
    have HF1 := Zhd hf1; clear hf1
    go_wp2_with (first
     | (go_at_call 261; refine (down_hat b g n c J L' (k - 1) n (by omega) (by omega) S w0 _ hq HF1.out (iv := (k : Int) - 1) (by omega)).mono ?_; rintro e w2 ⟨⟨bb, rfl⟩, L2, hp2, hd2, hf2, hq2⟩)
     | fail)
    exact ⟨⟨k - 1, L2, by go_num, by omega, hp2.trans HF.out.1, hf2, hq2⟩, by simp [intOf]; omega⟩
theorem fix_h (b g n c : Nat) (J L : List It) (S : List Nat) (w0 w : World) (h : Hq S w0 b g n c J L w) (hh : HeapFrom moreIt L n 1) :
 Calls Tryz.prog 242 #[.iface 416 (.pointer (some ⟨b, 0, none⟩)), .int .i64 0] w fun e w' => e = .returned (.tuple #[]) ∧ ∃ L', L'.Perm L ∧ HeapFrom moreIt L' n 0 ∧ Hq S w0 b g n c J L' w' := by
 have hsm := h.small
 have mN := h.mLen
 have HH := Zhd hh; clear hh
 go_enter Tryz.func242, Tryz.ntmps242
 go_wp2_with (first
  | (go_at_call 241; refine h.lenc.mono ?_; rintro e w1 ⟨rfl, rfl⟩)
  | (go_at_call 261; refine (down_hat b g n c J L 0 n (by omega) (by omega) S w0 _ h HH.out (iv := 0) rfl).mono ?_; rintro e w2 ⟨⟨bb, rfl⟩, L2, hp2, hd2, hf2, hq2⟩)
  | (go_at_call 262; refine (up_q b g n c J L2 S w0 _ hq2).mono ?_; rintro e w3 ⟨rfl, rfl⟩)
  | fail)
 all_goals
  go_end0
  exact ⟨rfl, L2, hp2, hf2, hq2⟩
theorem pop_h (b g n c : Nat) (J L : List It) (S : List Nat) (w0 w : World) (hb : b ∈ S ∨ w0.heap.size ≤ b) (h : Hq S w0 b g (n + 1) c J L w) (hh : HeapFrom moreIt L (n + 1) 0) :
 Calls Tryz.prog 243 #[.iface 416 (.pointer (some ⟨b, 0, none⟩))] w fun e w' => (∃ v, e = .returned v) ∧ ∃ x L', L[0]? = some x ∧ (x :: L').Perm L ∧ HeapFrom moreIt L' n 0 ∧ Hq S w0 b g n c J L' w' := by
 have hsm := h.small
 have mN := h.mLen
 have mS := h.mSwap
 have mP := qm_pop.m
 have h1i : ((n + 1 : Nat) : Int) - 1 = n := by omega
 have HH := Zhd hh; clear hh
 go_enter Tryz.func243, Tryz.ntmps243
 go_wp2_with (first
  | (go_at_call 241; refine h.lenc.mono ?_; rintro e w1 ⟨rfl, rfl⟩)
  | (go_at_call 417; refine (h.swap (i := 0) (j := n) (by omega) (by omega) rfl (by omega)).mono ?_; rintro e w2 ⟨rfl, x, y, hx, hy, hq2⟩
     have hf1 : HeapFrom moreIt ((L.set 0 y).set n x) n 1 := (HH.out.shrink (Nat.le_succ n)).below fun a h0 h1 => by rw [List.getElem?_set_ne (by omega), List.getElem?_set_ne (by omega)])
  | (go_at_call 261; refine (down_hat b g (n + 1) c J _ 0 n (by omega) (by omega) S w0 _ hq2 hf1 (iv := 0) rfl).mono ?_; rintro e w3 ⟨⟨bb, rfl⟩, L3, hp3, hd3, hf3, hq3⟩)
  | (go_at_call 418; refine (hq3.pop hb).mono ?_; rintro e w4 ⟨⟨v, rfl⟩, hq4⟩)
  | fail)
 go_ret
 have hl3 := hq3.len
 have hl := h.len
 have e : L3.drop n = [x] := by
  rw [hd3]
  obtain ⟨hn1, e1⟩ := List.getElem?_eq_some_iff.1 hy
  rw [List.drop_eq_getElem_cons (by simp; omega)]
  simp [hl]
 refine ⟨⟨_, rfl⟩, x, L3.take n, hx, ?_, hf3.same (fun a ha => by rw [List.getElem?_take_of_lt ha]), hq4⟩
 refine List.Perm.trans ?_ (hp3.trans (perm_swap2 hx hy))
 have h5 := List.take_append_drop n L3
 rw [e] at h5
 refine List.Perm.trans ?_ (List.Perm.of_eq h5)
 exact (List.perm_append_singleton x (L3.take n)).symm
end
section
open Go Go.RowKit
open Classical
def MostTo (A0 : Asg) (acc : List (ByteArray × Int)) : Prop :=
 ∀ (i : Nat) p c xs, acc[i]? = some p → (c, xs) ∈ A0 → p ∈ xs → ∀ m ys, (m, ys) ∈ A0 → (ys.filter fun x => decide (x ∉ acc.take i)).length ≤ (xs.filter fun x => decide (x ∉ acc.take i)).length
theorem mostTo_nil (A0 : Asg) : MostTo A0 [] := fun i p c xs h => by simp at h
section
variable {A0 : Asg} {Q : List (ByteArray × List (ByteArray × Int))} {acc : List (ByteArray × Int)}
theorem left_of (hk : (A0.map (·.1)).Nodup) (hn : (allOf A0).Nodup) (hq : ∀ z ∈ Q, ∃ ps, (z.1, ps) ∈ A0 ∧ ∃ d, z.2 = ps.drop d) (hqn : (Q.map (·.1)).Nodup) (hp : (acc ++ Q.flatMap (·.2)).Perm (allOf A0)) {m : ByteArray} {ys : List (ByteArray × Int)} (hm : (m, ys) ∈ A0) :
 (∀ z ∈ Q, z.1 = m → (ys.filter fun x => decide (x ∉ acc)).length = z.2.length) ∧ ((∀ z ∈ Q, z.1 ≠ m) → (ys.filter fun x => decide (x ∉ acc)) = []) := by
 have hpn := hp.nodup_iff.2 hn
 have hyn : ys.Nodup := by
  obtain ⟨B, C, e⟩ := List.append_of_mem hm
  unfold allOf at hn
  rw [e, List.flatMap_append, List.flatMap_cons, List.nodup_append, List.nodup_append] at hn
  exact hn.2.1.1
 have hin : ∀ x ∈ ys, x ∉ acc → ∃ z ∈ Q, z.1 = m ∧ x ∈ z.2 := fun x hx hxa => by
  have h1 : x ∈ acc ++ Q.flatMap (·.2) := hp.mem_iff.2 (allOf_mem.2 ⟨m, ys, hm, hx⟩)
  rcases Zap.1 h1 with h | h
  · exact absurd h hxa
  · obtain ⟨z, hz, hxz⟩ := List.mem_flatMap.1 h
    obtain ⟨ps, h2, d, e⟩ := hq z hz
    refine ⟨z, hz, ?_, hxz⟩
    exact has_one hn ⟨ps, h2, by rw [e] at hxz; exact List.mem_of_mem_drop hxz⟩ ⟨ys, hm, hx⟩
 have uniq : ∀ z ∈ Q, ∀ z' ∈ Q, z.1 = z'.1 → z = z' := by
  have : ∀ L : List (ByteArray × List (ByteArray × Int)), (L.map (·.1)).Nodup → ∀ a ∈ L, ∀ b ∈ L, a.1 = b.1 → a = b := by
   intro L
   induction L with
   | nil => intro _ a ha; cases ha
   | cons c L ih =>
     intro hn a ha b hb e
     simp only [List.map_cons, List.nodup_cons] at hn
     rcases Zmc.1 ha with h1 | h1
     · rcases Zmc.1 hb with h2 | h2
       · rw [h1, h2]
       · exact absurd (List.mem_map.2 ⟨b, h2, by rw [← e, h1]⟩) hn.1
     · rcases Zmc.1 hb with h2 | h2
       · exact absurd (List.mem_map.2 ⟨a, h1, by rw [e, h2]⟩) hn.1
       · exact ih hn.2 a h1 b h2 e
  exact this Q hqn
 refine ⟨fun z hz e => ?_, fun hno => ?_⟩
 · obtain ⟨ps, h2, d, e2⟩ := hq z hz
   have eps : ps = ys := by
    rw [e] at h2
    rw [← rowOf_mem hk h2, rowOf_mem hk hm]
   subst eps
   refine (perm_of_nodup (hyn.filter _) (by rw [e2]; exact hyn.sublist (List.drop_sublist _ _)) fun x => ?_).length_eq
   rw [List.mem_filter]
   simp only [decide_eq_true_eq]
   constructor
   · rintro ⟨hx, hxa⟩
     obtain ⟨z', hz', e3, hxz⟩ := hin x hx hxa
     rw [← uniq z' hz' z hz (by rw [e3, e])]; exact hxz
   · intro hx
     refine ⟨by rw [e2] at hx; exact List.mem_of_mem_drop hx, fun hxa => ?_⟩
     exact (List.nodup_append.1 hpn).2.2 x hxa x (List.mem_flatMap.2 ⟨z, hz, hx⟩) rfl
 · rw [List.filter_eq_nil_iff]
   intro x hx
   simp only [decide_eq_true_eq]
   intro hxa
   obtain ⟨z, hz, e, _⟩ := hin x hx hxa
   exact hno z hz e
theorem mostTo_snoc (hk : (A0.map (·.1)).Nodup) (hn : (allOf A0).Nodup) {c : ByteArray} {p : ByteArray × Int} {ts : List (ByteArray × Int)} {Q4 : List (ByteArray × List (ByteArray × Int))} (hQ : Q = (c, p :: ts) :: Q4) (hq : ∀ z ∈ Q, ∃ ps, (z.1, ps) ∈ A0 ∧ ∃ d, z.2 = ps.drop d) (hqn : (Q.map (·.1)).Nodup) (hp : (acc ++ Q.flatMap (·.2)).Perm (allOf A0))
 (htop : ∀ z ∈ Q, z.2.length ≤ ts.length + 1) (h : MostTo A0 acc) : MostTo A0 (acc ++ [p]) := by
 intro i q c' xs hi hc hqx m ys hm
 by_cases hlt : i < acc.length
 · rw [List.getElem?_append_left hlt] at hi
   have et : (acc ++ [p]).take i = acc.take i := by rw [List.take_append_of_le_length (by omega)]
   rw [et]
   exact h i q c' xs hi hc hqx m ys hm
 · have e0 : i = acc.length := by
    have := (List.getElem?_eq_some_iff.1 hi).1
    simp at this; omega
   subst e0
   have et : (acc ++ [p]).take acc.length = acc := by simp
   rw [et]
   have eq : q = p := by
    rw [List.getElem?_append_right (Nat.le_refl _)] at hi
    simpa using hi.symm
   subst eq
   obtain ⟨ps, h1, d, e1⟩ := hq (c, q :: ts) (by rw [hQ]; simp)
   simp only at e1 h1
   have hqps : q ∈ ps := List.mem_of_mem_drop (e1 ▸ List.mem_cons_self ..)
   have ecc : c = c' := has_one hn ⟨ps, h1, hqps⟩ ⟨xs, hc, hqx⟩
   subst ecc
   have l1 := (left_of hk hn hq hqn hp hc).1 (c, q :: ts) (by rw [hQ]; simp) rfl
   rw [l1]
   by_cases hex : ∃ z ∈ Q, z.1 = m
   · obtain ⟨z, hz, e⟩ := hex
     rw [(left_of hk hn hq hqn hp hm).1 z hz e]
     simpa using htop z hz
   · rw [(left_of hk hn hq hqn hp hm).2 (fun z hz e => hex ⟨z, hz, e⟩)]
     simp
theorem most_of {nw : ByteArray} {S : List (ByteArray × Int)} (hk : (A0.map (·.1)).Nodup) (hn : (allOf A0).Nodup) (hS : S.Perm (allOf A0)) (h : MostTo A0 S) : Most A0 nw S :=
 ⟨hS.nodup_iff.2 hn, hS, fun i p c hi hc hp m hm _ => h i p c _ hi (ks_mem hk hc) hp m _ (ks_mem hk hm)⟩
end
end
end Go.Proofs.YticcnlpfmekagaaGreat
