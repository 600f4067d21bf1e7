/- Part 33 of 51 of the proof of the row: the texts StLaw, PlanP. -/
import Derived.Test.YticcnlpfmekagaaGreatRd14
import Derived.Test.YticcnlpfmekagaaGreatRd32
namespace Go.Proofs.YticcnlpfmekagaaGreat
open Go Go.RowKit
open Classical
set_option linter.unusedVariables false
set_option linter.unusedSimpArgs false

/-! ## What a sticky plan is, and what it keeps: plain Lean -/

/-- an assignment of all of T to the members Ns, each of whom keeps what she had -/
structure PlanOk (Ns : List ByteArray) (Old : ByteArray → List (ByteArray × Int)) (T : List (ByteArray × Int)) (A : Asg) : Prop where
  keys : (A.map (·.1)).Perm Ns
  all : (allOf A).Perm T
  near : Near (loads A)
  keep : ∀ m xs, (m, xs) ∈ A → ∀ p ∈ Old m, p ∈ xs

section
variable {Ns Ns2 : List ByteArray} {Old Old2 : ByteArray → List (ByteArray × Int)} {T T2 : List (ByteArray × Int)} {A A2 : Asg} {S S2 : List Tr}
theorem PlanOk.has (h : PlanOk Ns Old T A) {m : ByteArray} (hm : m ∈ Ns) {p : ByteArray × Int} (hp : p ∈ Old m) : Has A m p := by
  obtain ⟨r, hr, rfl⟩ := List.mem_map.1 (h.keys.mem_iff.2 hm)
  exact ⟨r.2, hr, h.keep r.1 r.2 hr p hp⟩
theorem PlanOk.nodup (h : PlanOk Ns Old T A) (hT : T.Nodup) : (allOf A).Nodup := h.all.nodup_iff.2 hT
theorem Shows.oneT (h : Shows S A) (hA : (allOf A).Nodup) : OneT S := oneT_of (h.perm.nodup_iff.2 hA)
theorem PlanOk.keyIn (h : PlanOk Ns Old T A) {m : ByteArray} {p : ByteArray × Int} (hp : Has A m p) : m ∈ Ns := by
  obtain ⟨xs, hx, _⟩ := hp
  exact h.keys.mem_iff.1 (List.mem_map.2 ⟨_, hx, rfl⟩)
/-- what a member had by one plan she has by the next one -/
theorem kept_fwd (hS : Shows S A) (hS2 : Shows S2 A2) (h2 : PlanOk Ns2 Old2 T2 A2) (hT2 : T2.Nodup) {m : ByteArray} (hm : m ∈ Ns2) (hold : ∀ x, Has A m x → x ∈ Old2 m) : keptT m S S2 = true := by
  refine keptT_of (hS2.oneT (h2.nodup hT2)) fun t p h => ?_
  exact (hS2.iff m t p).2 (h2.has hm (hold _ ((hS.iff m t p).1 h)))
/-- and no more, if there is no more -/
theorem has_back (h1 : PlanOk Ns Old T A) (h2 : PlanOk Ns Old2 T A2) (hT : T.Nodup) (hold : ∀ m ∈ Ns, ∀ x, Has A m x → x ∈ Old2 m) {m : ByteArray} {x : ByteArray × Int} (h : Has A2 m x) : Has A m x := by
  have h3 : x ∈ T := h2.all.mem_iff.1 (allOf_mem.2 ⟨m, h⟩)
  obtain ⟨m', h4⟩ := allOf_mem.1 (h1.all.mem_iff.2 h3)
  have hm' := h1.keyIn h4
  rw [has_one (h2.nodup hT) h (h2.has hm' (hold m' hm' x h4))]
  exact h4
theorem kept_bwd (hS : Shows S A) (hS2 : Shows S2 A2) (h1 : PlanOk Ns Old T A) (h2 : PlanOk Ns Old2 T A2) (hT : T.Nodup) (hold : ∀ m ∈ Ns, ∀ x, Has A m x → x ∈ Old2 m) (m : ByteArray) : keptT m S2 S = true := by
  refine keptT_of (hS.oneT (h1.nodup hT)) fun t p h => ?_
  exact (hS.iff m t p).2 (has_back h1 h2 hT hold ((hS2.iff m t p).1 h))
end

/-! ### plans in order -/
/-- shares in order of members and topics (by some order), none empty -/
structure Canon (lt : ByteArray × ByteArray → ByteArray × ByteArray → Prop) (S : List Tr) : Prop where
  sorted : (S.map fun x => (x.1, x.2.1)).Pairwise lt
  full : ∀ x ∈ S, x.2.2 ≠ []

theorem sorted_ext {α : Type} {lt : α → α → Prop} (irr : ∀ a, ¬ lt a a) (tr : ∀ a b c, lt a b → lt b c → lt a c) : ∀ {L K : List α}, L.Pairwise lt → K.Pairwise lt → (∀ x, x ∈ L ↔ x ∈ K) → L = K
  | [], [], _, _, _ => rfl
  | [], b :: K, _, _, h => absurd ((h b).2 (by simp)) (by simp)
  | a :: L, [], _, _, h => absurd ((h a).1 (by simp)) (by simp)
  | a :: L, b :: K, hL, hK, h => by
    rw [List.pairwise_cons] at hL hK
    have e : a = b := by
      rcases List.mem_cons.1 ((h a).1 (by simp)) with h1 | h1
      · exact h1
      · rcases List.mem_cons.1 ((h b).2 (by simp)) with h2 | h2
        · exact h2.symm
        · exact absurd (tr _ _ _ (hL.1 b h2) (hK.1 a h1)) (irr _)
    subst e
    congr 1
    refine sorted_ext irr tr hL.2 hK.2 fun x => ⟨fun hx => ?_, fun hx => ?_⟩
    · rcases List.mem_cons.1 ((h x).1 (by simp [hx])) with h1 | h1
      · subst h1; exact absurd (hL.1 x hx) (irr _)
      · exact h1
    · rcases List.mem_cons.1 ((h x).2 (by simp [hx])) with h1 | h1
      · subst h1; exact absurd (hK.1 x hx) (irr _)
      · exact h1
theorem Canon.keys {lt : ByteArray × ByteArray → ByteArray × ByteArray → Prop} {S : List Tr} (h : Canon lt S) (m t : ByteArray) : (m, t) ∈ (S.map fun x => (x.1, x.2.1)) ↔ ∃ p, Holds S m t p := by
  constructor
  · intro hx
    obtain ⟨⟨m', t', ps⟩, hx2, e⟩ := List.mem_map.1 hx
    obtain ⟨rfl, rfl⟩ := Prod.mk.inj e
    cases ps with
    | nil => exact absurd rfl (h.full _ hx2)
    | cons p ps => exact ⟨p, _, hx2, by simp⟩
  · rintro ⟨p, ps, hx, _⟩
    exact List.mem_map.2 ⟨_, hx, rfl⟩
theorem flatT_part {S : List Tr} (h : (flatT S).Nodup) {x : Tr} (hx : x ∈ S) : x.2.2.Nodup := by
  obtain ⟨A, B, rfl⟩ := List.append_of_mem hx
  unfold flatT at h
  rw [List.flatMap_append, List.flatMap_cons, List.nodup_append] at h
  have h1 := (List.nodup_append.1 h.2.1).1
  exact (List.pairwise_map.1 h1).imp fun h e => h (by rw [e])
theorem perm_of_nodup {α : Type} {L K : List α} (hL : L.Nodup) (hK : K.Nodup) (h : ∀ x, x ∈ L ↔ x ∈ K) : L.Perm K := (List.perm_ext_iff_of_nodup hL hK).2 (by simpa using h)
/-- two plans in order that give the same, share by share -/
theorem canon_same {lt : ByteArray × ByteArray → ByteArray × ByteArray → Prop} (irr : ∀ a, ¬ lt a a) (tr : ∀ a b c, lt a b → lt b c → lt a c) {S S2 : List Tr} (h1 : Canon lt S) (h2 : Canon lt S2) (hn1 : (flatT S).Nodup) (hn2 : (flatT S2).Nodup)
    (h : ∀ m t p, Holds S m t p ↔ Holds S2 m t p) : S.length = S2.length ∧ ∀ (k : Nat) (x y : Tr), S[k]? = some x → S2[k]? = some y → x.1 = y.1 ∧ x.2.1 = y.2.1 ∧ x.2.2.Perm y.2.2 := by
  have e : (S.map fun x => (x.1, x.2.1)) = (S2.map fun x => (x.1, x.2.1)) := by
    refine sorted_ext irr tr h1.sorted h2.sorted fun x => ?_
    obtain ⟨m, t⟩ := x
    rw [h1.keys, h2.keys]
    exact ⟨fun ⟨p, hp⟩ => ⟨p, (h m t p).1 hp⟩, fun ⟨p, hp⟩ => ⟨p, (h m t p).2 hp⟩⟩
  have uniq : ∀ {S : List Tr}, Canon lt S → ∀ x ∈ S, ∀ y ∈ S, x.1 = y.1 → x.2.1 = y.2.1 → x = y := by
    intro S hS
    have hp := List.pairwise_map.1 hS.sorted
    clear hS
    induction S with
    | nil => intro x hx; cases hx
    | cons a S ih =>
      rw [List.pairwise_cons] at hp
      intro x hx y hy e1 e2
      rcases List.mem_cons.1 hx with h1 | h1 <;> rcases List.mem_cons.1 hy with h2 | h2
      · rw [h1, h2]
      · subst h1
        exact absurd (by simpa [e1, e2] using hp.1 y h2) (irr _)
      · subst h2
        exact absurd (by simpa [e1, e2] using hp.1 x h1) (irr _)
      · exact ih hp.2 x h1 y h2 e1 e2
  refine ⟨by simpa using congrArg List.length e, fun k x y hx hy => ?_⟩
  have e1 : (x.1, x.2.1) = (y.1, y.2.1) := by
    have := congrArg (fun l => l[k]?) e
    simp only [List.getElem?_map, hx, hy, Option.map_some, Option.some.injEq] at this
    exact this
  obtain ⟨e2, e3⟩ := Prod.mk.inj e1
  have hxS := List.mem_of_getElem? hx
  have hyS := List.mem_of_getElem? hy
  refine ⟨e2, e3, perm_of_nodup (flatT_part hn1 hxS) (flatT_part hn2 hyS) fun p => ⟨fun hp => ?_, fun hp => ?_⟩⟩
  · obtain ⟨ps, hm, hp'⟩ := (h x.1 x.2.1 p).1 ⟨x.2.2, hxS, hp⟩
    have := uniq h2 _ hm y hyS e2 e3
    rw [← this]; exact hp'
  · obtain ⟨ps, hm, hp'⟩ := (h y.1 y.2.1 p).2 ⟨y.2.2, hyS, hp⟩
    have := uniq h1 _ hm x hxS e2.symm e3.symm
    rw [← this]; exact hp'
end Go.Proofs.YticcnlpfmekagaaGreat
namespace Go.Proofs.YticcnlpfmekagaaGreat
open Go Go.Proofs Go.RowKit Go.Lib
open Classical
set_option linter.unusedVariables false
set_option linter.unusedSimpArgs false

/-! ## Plan: what the rows read from the members' data are, plain Lean -/

theorem pairs_filter {κ α : Type} : ∀ {L : List (κ × List α)} {k : κ} {ps : List α}, (L.map (·.1)).Nodup → (k, ps) ∈ L → ((L.flatMap fun y => y.2.map fun p => (y.1, p)).filter fun z => decide (z.1 = k)).map (·.2) = ps
  | [], _, _, _, h => by cases h
  | y :: L, k, ps, hn, h => by
    simp only [List.map_cons, List.nodup_cons] at hn
    rw [List.flatMap_cons, List.filter_append, List.map_append]
    rcases List.mem_cons.1 h with e | h
    · subst e
      have h1 : (List.map (fun p => (k, p)) ps).filter (fun z => decide (z.1 = k)) = List.map (fun p => (k, p)) ps := List.filter_eq_self.2 (fun z hz => by
        obtain ⟨p, _, rfl⟩ := List.mem_map.1 hz; simp)
      have h2 : (L.flatMap fun y => y.2.map fun p => (y.1, p)).filter (fun z => decide (z.1 = k)) = [] := List.filter_eq_nil_iff.2 (fun z hz => by
        obtain ⟨y, hy, hz⟩ := List.mem_flatMap.1 hz
        obtain ⟨p, _, rfl⟩ := List.mem_map.1 hz
        simp only [decide_eq_true_eq]
        rintro rfl
        exact hn.1 (List.mem_map.2 ⟨_, hy, rfl⟩))
      simp only
      rw [h1, h2]
      simp [Function.comp_def]
    · have hne : y.1 ≠ k := fun e => hn.1 (e ▸ List.mem_map_of_mem (f := fun x : κ × List α => x.1) h)
      have h1 : (List.map (fun p => (y.1, p)) y.2).filter (fun z => decide (z.1 = k)) = [] := List.filter_eq_nil_iff.2 (fun z hz => by
        obtain ⟨p, _, rfl⟩ := List.mem_map.1 hz; simpa using hne)
      rw [h1, pairs_filter hn.2 h]
      rfl

/-- what is read off the data, and what is empty -/
structure PreOk (Xs : List Md) (A1 : List Rw) : Prop where
  keys : (A1.map (·.1)).Perm (Xs.map (·.name))
  row : ∀ x ∈ Xs, ∀ v ps, (x.name, v, ps) ∈ A1 → ps.Perm x.parts
  tot : (A1.flatMap (·.2.2)).Perm (Xs.flatMap (·.parts))

theorem pre_ok {Xs Dn : List Md} {A E : List Rw} (hX : (Xs.map (·.name)).Nodup) (hA : ((A ++ E).map (·.1)).Nodup)
    (hp : (A.flatMap fun y => y.2.2.map fun p => (y.1, p)).Perm (Xs.flatMap fun x => x.parts.map fun p => (x.name, p))) (hne : ∀ y ∈ A, y.2.2 ≠ []) (hD : Dn.Perm Xs)
    (hE : ∀ y ∈ E, y.2.2 = [] ∧ y.1 ∈ Dn.map (·.name)) (hin : ∀ m ∈ Dn.map (·.name), m ∈ (A ++ E).map (·.1)) : PreOk Xs (A ++ E) := by
  have e0 : ((A ++ E).flatMap fun y => y.2.2.map fun p => (y.1, p)) = A.flatMap fun y => y.2.2.map fun p => (y.1, p) := by
    rw [List.flatMap_append]
    have : (E.flatMap fun y => y.2.2.map fun p => (y.1, p)) = [] := List.flatMap_eq_nil_iff.2 fun y hy => by rw [(hE y hy).1]; rfl
    rw [this, List.append_nil]
  rw [← e0] at hp
  have hDn := hD.map (·.name)
  refine ⟨?_, ?_, ?_⟩
  · refine perm_of_nodup hA hX fun m => ⟨fun hm => ?_, fun hm => hin m (hDn.mem_iff.2 hm)⟩
    rw [List.map_append] at hm
    rcases List.mem_append.1 hm with hm | hm
    · obtain ⟨y, hy, rfl⟩ := List.mem_map.1 hm
      cases hps : y.2.2 with
      | nil => exact absurd hps (hne y hy)
      | cons p ps =>
        have h1 : (y.1, p) ∈ (A ++ E).flatMap fun y => y.2.2.map fun p => (y.1, p) := List.mem_flatMap.2 ⟨y, by simp [hy], List.mem_map.2 ⟨p, by rw [hps]; simp, rfl⟩⟩
        obtain ⟨x, hx, h2⟩ := List.mem_flatMap.1 (hp.mem_iff.1 h1)
        obtain ⟨q, _, e⟩ := List.mem_map.1 h2
        exact List.mem_map.2 ⟨x, hx, (Prod.mk.inj e).1⟩
    · obtain ⟨y, hy, rfl⟩ := List.mem_map.1 hm
      exact hDn.mem_iff.1 (hE y hy).2
  · intro x hx v ps hr
    have e1 : ((A ++ E).flatMap fun y => y.2.2.map fun p => (y.1, p)) = ((A ++ E).map fun y => (y.1, y.2.2)).flatMap fun y => y.2.map fun p => (y.1, p) := by rw [List.flatMap_map]
    have e2 : (Xs.flatMap fun x => x.parts.map fun p => (x.name, p)) = (Xs.map fun x => (x.name, x.parts)).flatMap fun y => y.2.map fun p => (y.1, p) := by rw [List.flatMap_map]
    have h1 := pairs_filter (L := (A ++ E).map fun y => (y.1, y.2.2)) (k := x.name) (ps := ps) (by simpa [Function.comp_def] using hA) (List.mem_map.2 ⟨_, hr, rfl⟩)
    have h2 := pairs_filter (L := Xs.map fun x => (x.name, x.parts)) (k := x.name) (ps := x.parts) (by simpa [Function.comp_def] using hX) (List.mem_map.2 ⟨_, hx, rfl⟩)
    rw [e1, e2] at hp
    rw [← h1, ← h2]
    exact (hp.filter _).map _
  · have h1 := hp.map (·.2)
    simpa [List.map_flatMap, Function.comp_def] using h1

theorem PreOk.near {Xs : List Md} {A1 : List Rw} (h : PreOk Xs A1) (hn : Near (Xs.map (·.parts.length))) : Near (A1.map (·.2.2.length)) := by
  have h1 : ∀ y ∈ A1, ∃ x ∈ Xs, y.2.2.length = x.parts.length := fun y hy => by
    obtain ⟨x, hx, e⟩ := List.mem_map.1 (h.keys.mem_iff.1 (List.mem_map_of_mem hy))
    exact ⟨x, hx, (h.row x hx y.2.1 y.2.2 (by rw [e]; exact hy)).length_eq⟩
  intro a ha b hb
  obtain ⟨y, hy, rfl⟩ := List.mem_map.1 ha
  obtain ⟨z, hz, rfl⟩ := List.mem_map.1 hb
  obtain ⟨x, hx, e1⟩ := h1 y hy
  obtain ⟨x', hx', e2⟩ := h1 z hz
  rw [e1, e2]
  exact hn _ (List.mem_map_of_mem hx) _ (List.mem_map_of_mem hx')
end Go.Proofs.YticcnlpfmekagaaGreat
