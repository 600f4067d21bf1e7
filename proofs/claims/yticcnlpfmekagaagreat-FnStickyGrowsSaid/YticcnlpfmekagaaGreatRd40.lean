/- Part 40 of 51 of the proof of the row: the texts OutShow, PlCont. -/
import Derived.Test.YticcnlpfmekagaaGreatRd39
import Derived.Test.YticcnlpfmekagaaGreatRd29
import Derived.Test.YticcnlpfmekagaaGreatRd33
import Derived.Test.YticcnlpfmekagaaGreatRd36
import Derived.Test.YticcnlpfmekagaaGreatRd10
namespace Go.Proofs.YticcnlpfmekagaaGreat
open Go Go.Proofs Go.RowKit
open Classical
set_option linter.unusedVariables false
set_option linter.unusedSimpArgs false

/-! ## What the group's plan shows of a strategy's plan: plain Lean -/

theorem sortedNames_lt {l : List ByteArray} (h : l.Nodup) : (sortedNames l).Pairwise (fun a b => a.data.toList < b.data.toList) := by
  unfold sortedNames
  have h1 := List.pairwise_mergeSort (le := fun x y : List UInt8 => decide (x ≤ y)) (fun a b c h1 h2 => by simp only [decide_eq_true_eq] at *; exact List.le_trans h1 h2) (fun a b => by simp only [Bool.or_eq_true, decide_eq_true_eq]; exact List.le_total a b) (l.map (·.data.toList))
  have h2 : ((l.map (·.data.toList)).mergeSort fun x y => decide (x ≤ y)).Nodup := by
    refine (List.mergeSort_perm _ _).nodup_iff.2 ?_
    refine List.pairwise_map.2 (h.imp fun hne e => hne ?_)
    rename_i a b
    obtain ⟨⟨a⟩⟩ := a
    obtain ⟨⟨b⟩⟩ := b
    simp at e; subst e; rfl
  refine List.pairwise_map.2 ?_
  refine (h1.and h2).imp ?_
  rintro a b ⟨hle, hne⟩
  simp only [decide_eq_true_eq] at hle
  by_cases h3 : a < b
  · exact h3
  · exact absurd (List.le_antisymm hle (List.not_lt.1 h3)) hne

theorem topLt_tot {x y : ByteArray} (h : topLt y x = false) (hne : x ≠ y) : topLt x y = true := by
  unfold topLt at *
  rw [bytesLess_eq] at *
  simp only [decide_eq_true_eq, decide_eq_false_iff_not] at *
  by_cases h3 : x.toList < y.toList
  · exact h3
  · exact absurd ((ba_inj _ _).1 (List.le_antisymm (List.not_lt.1 h) (List.not_lt.1 h3))) hne

/-- the order of the shares of a group's plan: members, then topics -/
def ltMT (a b : ByteArray × ByteArray) : Prop := a.1.data.toList < b.1.data.toList ∨ (a.1 = b.1 ∧ topLt a.2 b.2 = true)
theorem ltMT_irr (a : ByteArray × ByteArray) : ¬ ltMT a a := by
  rintro (h | ⟨_, h⟩)
  · exact List.lt_irrefl _ h
  · rw [topLt_swo.irrefl] at h; cases h
theorem ltMT_tr (a b c : ByteArray × ByteArray) (h1 : ltMT a b) (h2 : ltMT b c) : ltMT a c := by
  rcases h1 with h1 | ⟨e1, h1⟩ <;> rcases h2 with h2 | ⟨e2, h2⟩
  · exact .inl (List.lt_trans h1 h2)
  · exact .inl (by rw [← e2]; exact h1)
  · exact .inl (by rw [e1]; exact h2)
  · exact .inr ⟨e1.trans e2, topLt_swo.trans _ _ _ h1 h2⟩

/-- a plan's maps say what an assignment says -/
structure Plans (P : PL) (A : Asg) : Prop where
  nd : (P.map (·.1)).Nodup
  row : ∀ m xs, (m, xs) ∈ A → ∃ r D, (m, r, D) ∈ P ∧ (topTps D).Perm xs ∧ (D.map (·.1)).Nodup ∧ ∀ y ∈ D, y.2.2 ≠ []

def zipS (names : List ByteArray) (LL : List (List Shr)) : List (ByteArray × List Tr) := names.zip (LL.map (·.map trip))
theorem zipS_flat : ∀ (names : List ByteArray) (LL : List (List Shr)), LL.length = names.length → (zipS names LL).flatMap (·.2) = LL.flatten.map trip
  | [], [], _ => rfl
  | [], l :: LL, h => by simp at h
  | n :: names, [], h => by simp at h
  | n :: names, l :: LL, h => by
    have ih := zipS_flat names LL (by simpa using h)
    simp only [zipS, List.map_cons, List.zip_cons_cons, List.flatMap_cons, List.flatten_cons, List.map_append]
    unfold zipS at ih
    rw [ih]
theorem zipS_keys (names : List ByteArray) (LL : List (List Shr)) (h : LL.length = names.length) : (zipS names LL).map (·.1) = names := by
  unfold zipS
  exact List.map_fst_zip (by simp [h])
theorem zipS_mem {names : List ByteArray} {LL : List (List Shr)} {z : ByteArray × List Tr} (h : z ∈ zipS names LL) : ∃ (j : Nat) (l : List Shr), names[j]? = some z.1 ∧ LL[j]? = some l ∧ z.2 = l.map trip := by
  obtain ⟨j, hj⟩ := List.mem_iff_getElem?.1 h
  unfold zipS at hj
  rw [List.getElem?_zip_eq_some] at hj
  obtain ⟨h1, h2⟩ := hj
  rw [List.getElem?_map] at h2
  cases hl : LL[j]? with
  | none => rw [hl] at h2; cases h2
  | some l => rw [hl] at h2; simp only [Option.map_some, Option.some.injEq] at h2; exact ⟨j, l, h1, hl, h2.symm⟩
theorem flatT_tops (nm : ByteArray) : ∀ D : Tops, flatT ((D.filter full).map (tripOf nm)) = topTps D
  | [] => rfl
  | x :: D => by
    have ih := flatT_tops nm D
    obtain ⟨t, v, ps⟩ := x
    have e : topTps ((t, v, ps) :: D) = ps.map (fun n => (t, n)) ++ topTps D := by simp [topTps, tpsOf]
    rw [e]
    cases ps with
    | nil =>
      have hf : full (t, v, ([] : List Int)) = false := rfl
      rw [List.filter_cons_of_neg (by simp [hf]), ih]; rfl
    | cons p ps =>
      have hf : full (t, v, p :: ps) = true := rfl
      rw [List.filter_cons_of_pos hf, List.map_cons, show (tripOf nm (t, v, p :: ps) :: List.map (tripOf nm) (List.filter full D)) = [tripOf nm (t, v, p :: ps)] ++ List.map (tripOf nm) (List.filter full D) from rfl, flatT_append, ih]
      simp [flatT, tripOf]
theorem plans_uniq {P : PL} (h : (P.map (·.1)).Nodup) {m : ByteArray} {r r' : Nat} {D D' : Tops} (h1 : (m, r, D) ∈ P) (h2 : (m, r', D') ∈ P) : D = D' := by
  induction P with
  | nil => cases h1
  | cons x P ih =>
    simp only [List.map_cons, List.nodup_cons] at h
    rcases List.mem_cons.1 h1 with e1 | h3 <;> rcases List.mem_cons.1 h2 with e2 | h4
    · rw [← e1] at e2; cases e2; rfl
    · rw [← e1] at h; exact absurd (List.mem_map_of_mem (f := fun x : ByteArray × Nat × Tops => x.1) h4) h.1
    · rw [← e2] at h; exact absurd (List.mem_map_of_mem (f := fun x : ByteArray × Nat × Tops => x.1) h3) h.1
    · exact ih h.2 h3 h4

section
variable {P : PL} {names : List ByteArray} {LL : List (List Shr)} {A : Asg}
theorem outS_row (hO : OutS P names LL) (hP : Plans P A) (hk : names.Perm (A.map (·.1))) {z : ByteArray × List Tr} (hz : z ∈ zipS names LL) :
    ∃ (l : List Shr) (D : Tops) (xs : List (ByteArray × Int)), z.2 = l.map trip ∧ (l.map trip).Perm ((D.filter full).map (tripOf z.1)) ∧ l.Pairwise (fun x y => topLt y.top x.top = false) ∧ (z.1, xs) ∈ A ∧ (topTps D).Perm xs ∧ (D.map (·.1)).Nodup := by
  obtain ⟨j, l, h1, h2, h3⟩ := zipS_mem hz
  obtain ⟨r, D, h4, h5, h6⟩ := hO.2 j _ l h1 h2
  obtain ⟨⟨m, xs⟩, hx, hm⟩ := List.mem_map.1 (hk.mem_iff.1 (List.mem_of_getElem? h1))
  simp only at hm
  subst hm
  obtain ⟨r', D', h7, h8, h9, _⟩ := hP.row _ xs hx
  have := plans_uniq hP.nd h4 h7
  subst this
  exact ⟨l, D, xs, h3, h5, h6, hx, h8, h9⟩
theorem outS_shows (hO : OutS P names LL) (hP : Plans P A) (hk : names.Perm (A.map (·.1))) (hn : names.Nodup) : Shows (LL.flatten.map trip) A := by
  rw [← zipS_flat names LL hO.1]
  refine shows_zip _ A (hk.nodup_iff.1 hn) (by rw [zipS_keys _ _ hO.1]; exact hk) fun z hz => ?_
  obtain ⟨l, D, xs, e, h1, h2, h3, h4, h5⟩ := outS_row hO hP hk hz
  rw [e]
  refine ⟨fun x hx => ?_, xs, h3, ?_⟩
  · obtain ⟨y, hy, rfl⟩ := List.mem_map.1 (h1.mem_iff.1 hx)
    rfl
  · have h6 : (flatT (l.map trip)).Perm (flatT ((D.filter full).map (tripOf z.1))) := h1.flatMap_right _
    rw [flatT_tops] at h6
    exact h6.trans h4
theorem pw_flat : ∀ (Z : List (ByteArray × List Tr)), (Z.map (·.1)).Pairwise (fun a b => a.data.toList < b.data.toList) → (∀ z ∈ Z, (∀ x ∈ z.2, x.1 = z.1) ∧ (z.2.map (·.2.1)).Pairwise (fun a b => topLt a b = true)) →
    ((Z.flatMap (·.2)).map fun x => (x.1, x.2.1)).Pairwise ltMT
  | [], _, _ => by simp
  | z :: Z, h1, h2 => by
    rw [List.map_cons, List.pairwise_cons] at h1
    rw [List.flatMap_cons, List.map_append, List.pairwise_append]
    obtain ⟨g1, g2⟩ := h2 z (by simp)
    refine ⟨?_, pw_flat Z h1.2 (fun y hy => h2 y (by simp [hy])), fun a ha b hb => ?_⟩
    · refine List.pairwise_map.2 ?_
      have g3 := List.pairwise_map.1 g2
      refine List.Pairwise.imp_of_mem (fun {a b} ha hb hab => ?_) g3
      exact .inr ⟨by rw [g1 a ha, g1 b hb], hab⟩
    · obtain ⟨x, hx, rfl⟩ := List.mem_map.1 ha
      obtain ⟨y, hy, rfl⟩ := List.mem_map.1 hb
      obtain ⟨z', hz', hy⟩ := List.mem_flatMap.1 hy
      refine .inl ?_
      simp only
      rw [g1 x hx, (h2 z' (by simp [hz'])).1 y hy]
      exact h1.1 _ (List.mem_map.2 ⟨z', hz', rfl⟩)
theorem outS_canon (hO : OutS P names LL) (hP : Plans P A) (hk : names.Perm (A.map (·.1))) (hs : names.Pairwise (fun a b => a.data.toList < b.data.toList)) : Canon ltMT (LL.flatten.map trip) := by
  rw [← zipS_flat names LL hO.1]
  refine ⟨pw_flat _ (by rw [zipS_keys _ _ hO.1]; exact hs) fun z hz => ?_, fun x hx => ?_⟩
  · obtain ⟨l, D, xs, e, h1, h2, h3, h4, h5⟩ := outS_row hO hP hk hz
    rw [e]
    refine ⟨fun x hx => ?_, ?_⟩
    · obtain ⟨y, hy, rfl⟩ := List.mem_map.1 (h1.mem_iff.1 hx)
      rfl
    · have hn : (l.map (·.top)).Nodup := by
        have e1 : ((l.map trip).map (·.2.1)) = l.map (·.top) := by simp [trip, Function.comp_def]
        have e2 : (((D.filter full).map (tripOf z.1)).map (·.2.1)) = (D.filter full).map (·.1) := by simp [tripOf, Function.comp_def]
        have h6 := h1.map (fun x : Tr => x.2.1)
        rw [e1, e2] at h6
        exact h6.nodup_iff.2 (h5.sublist ((List.filter_sublist).map _))
      have e1 : ((l.map trip).map (·.2.1)) = l.map (·.top) := by simp [trip, Function.comp_def]
      rw [e1]
      refine List.pairwise_map.2 ?_
      have hn' := List.pairwise_map.1 hn
      exact (h2.and hn').imp fun ⟨a, b⟩ => topLt_tot a b
  · obtain ⟨z, hz, hx⟩ := List.mem_flatMap.1 hx
    obtain ⟨l, D, xs, e, h1, h2, h3, h4, h5⟩ := outS_row hO hP hk hz
    rw [e] at hx
    obtain ⟨y, hy, rfl⟩ := List.mem_map.1 (h1.mem_iff.1 hx)
    have := (List.mem_filter.1 hy).2
    intro h
    simp only [tripOf] at h
    simp [full, h] at this
end
end Go.Proofs.YticcnlpfmekagaaGreat
namespace Go.Proofs.YticcnlpfmekagaaGreat
open Go Go.Proofs Go.RowKit Go.Lib
set_option linter.unusedVariables false
set_option linter.unusedSimpArgs false

/-! ## slices.Contains (230) and Index (237) over strings, where the string is there -/
def IxRel (w : World) (L : List ByteArray) (s : ByteArray) (n : Nat) (i : Value) (wr : World) : Prop := wr = w ∧ ∃ k : Nat, i = .int .i64 k ∧ k ≤ n ∧ s ∉ L.take k
set_option maxRecDepth 100000 in
set_option maxHeartbeats 1000000 in
theorem index_str (a : Option Addr) (n c : Nat) (s : ByteArray) (L : List ByteArray) (w : World) (h : SlStrs w (.slice a n c) L) (hn : L.length = n) (hs : s ∈ L) (hb : n ≤ 1000000) :
    Calls Tryz.prog 237 #[.slice a n c, .string s] w fun e w' => (∃ k : Nat, e = .returned (.int .i64 k)) ∧ w' = w := by
  obtain ⟨_, hsl⟩ := h
  have hcells : 0 < n → ∃ b off cap, Value.slice a n c = .slice (some ⟨b, off, none⟩) n cap ∧ ∀ j u, (strs L)[j]? = some u → w.cell? ⟨b, off + j, none⟩ = some u := by
    intro h0
    rw [hn] at hsl
    rcases hsl.2.2 with ⟨_, _, _, h1⟩ | h
    · omega
    · exact h
  have HC := Lib.hid (And.intro hcells (And.intro hs hn)); clear hcells hs hsl hn
  go_enter Tryz.func237, Tryz.ntmps237
  go_wp2_with fail
  go_loopw [8] (fun i wr => IxRel w L s n i wr) (fun i _ => n - (intOf i).toNat)
  case atStart => exact ⟨rfl, 0, rfl, Nat.zero_le _, by simp⟩
  case round =>
    obtain ⟨rfl, k, rfl, hk, hno⟩ := hrel
    by_cases hkn : k < n
    · obtain ⟨t, ht⟩ : ∃ t, L[k]? = some t := ⟨_, List.getElem?_eq_getElem (by have := HC.out.2.2; omega)⟩
      obtain ⟨b, off, cap, hv, hcl⟩ := HC.out.1 (by omega)
      simp only [Value.slice.injEq] at hv
      obtain ⟨rfl, _, rfl⟩ := hv
      have c1 := hcl k (.string t) (by simp [strs, ht])
      have hki : (k : Int) < (n : Int) := by omega
      clear hcl
      by_cases e : s = t
      · subst e
        go_wp2_with fail
        go_ret
        exact ⟨⟨k, rfl⟩, rfl⟩
      · have hse : (s.toList == t.toList) = false := beq_eq_false_iff_ne.2 (fun h => e ((ba_inj s t).1 h))
        have HT := Lib.hid (And.intro ht (And.intro e hno)); clear ht e hno
        go_wp2_with fail
        refine ⟨show _ ∧ _ from ⟨rfl, k + 1, by go_num, by omega, ?_⟩, by simp [intOf]; omega⟩
        obtain ⟨h1, h2⟩ := List.getElem?_eq_some_iff.1 HT.out.1
        rw [List.take_succ_eq_append_getElem h1, h2]
        intro h
        rcases List.mem_append.1 h with h | h
        · exact HT.out.2.2 h
        · simp only [List.mem_cons, List.not_mem_nil, or_false] at h
          exact HT.out.2.1 h
    · exfalso
      have : k = n := by omega
      rw [List.take_of_length_le (by have := HC.out.2.2; omega)] at hno
      exact hno HC.out.2.1
set_option maxRecDepth 100000 in
set_option maxHeartbeats 1000000 in
theorem cont_str (a : Option Addr) (n c : Nat) (s : ByteArray) (L : List ByteArray) (w : World) (h : SlStrs w (.slice a n c) L) (hn : L.length = n) (hs : s ∈ L) (hb : n ≤ 1000000) :
    Calls Tryz.prog 230 #[.slice a n c, .string s] w fun e w' => e = .returned (.bool true) ∧ w' = w := by
  have HI := Lib.hid (index_str a n c s L w h hn hs hb); clear h hn hs
  go_enter Tryz.func230, Tryz.ntmps230
  go_wp2_with (first
    | (go_at_call 237
       refine HI.out.mono ?_
       rintro e w1 ⟨⟨k, rfl⟩, rfl⟩
       have hk : (0 : Int) ≤ (k : Int) := by omega)
    | fail)
  go_ret
  exact ⟨by simp, rfl⟩
end Go.Proofs.YticcnlpfmekagaaGreat
