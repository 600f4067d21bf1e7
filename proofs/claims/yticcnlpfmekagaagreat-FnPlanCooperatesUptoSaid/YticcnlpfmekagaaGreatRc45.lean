/- Part 45 of the proof of the row: StTold, LwC, LwD. -/
import Derived.Test.YticcnlpfmekagaaGreatRc00
import Derived.Test.YticcnlpfmekagaaGreatRc44
set_option linter.unusedVariables false
set_option linter.unusedSimpArgs false
set_option maxRecDepth 100000
set_option maxHeartbeats 8000000
namespace Go.Proofs.YticcnlpfmekagaaGreat
section
open Go Go.Proofs Go.RowKit Go.Lib
open Classical
def rowTP (S : List Shr) (id : ByteArray) : List TP := ((ownOf S id).map topOf).flatMap tpsOf
theorem rowTP_flat (S : List Shr) (id : ByteArray) : rowTP S id = flatT ((S.map trip).filter fun x => decide (x.1 = id)) := by
 unfold rowTP ownOf flatT
 induction S with
 | nil => rfl
 | cons x S ih =>
   simp only [List.map_cons, List.filter_cons]
   by_cases h : x.mem = id
   · have h2 : (trip x).1 = id := h
     simp only [h, h2, decide_true, if_true, List.map_cons, List.flatMap_cons]
     rw [ih]; rfl
   · have h2 : ¬ (trip x).1 = id := h
     simp only [h, h2, decide_false, Bool.false_eq_true, if_false]
     exact ih
theorem flatMap_filter_sub {α β : Type} (p : α → Bool) (f : α → List β) : ∀ L : List α, ((L.filter p).flatMap f).Sublist (L.flatMap f)
 | [] => List.Sublist.refl _
 | x :: L => by
   rw [List.filter_cons]
   split
   · rw [List.flatMap_cons, List.flatMap_cons]
     exact (List.Sublist.refl _).append (flatMap_filter_sub p f L)
   · rw [List.flatMap_cons]
     exact (flatMap_filter_sub p f L).trans (List.sublist_append_right _ _)
theorem rowTP_mem {S : List Shr} {id t : ByteArray} {p : Int} : (t, p) ∈ rowTP S id ↔ Holds (S.map trip) id t p := by
 rw [rowTP_flat, flatT_mem]
 unfold Holds
 constructor
 · rintro ⟨m, ps, h1, h2⟩
   obtain ⟨h3, h4⟩ := List.mem_filter.1 h1
   simp only [decide_eq_true_eq] at h4
   exact ⟨ps, by rw [← h4]; exact h3, h2⟩
 · rintro ⟨ps, h1, h2⟩
   exact ⟨id, ps, List.mem_filter.2 ⟨h1, by simp⟩, h2⟩
theorem rowTP_nodup {S : List Shr} (h : (flatT (S.map trip)).Nodup) (id : ByteArray) : (rowTP S id).Nodup := by
 rw [rowTP_flat]
 refine h.sublist ?_
 exact flatMap_filter_sub _ _ _
theorem row_nodup {A : Asg} (h : (allOf A).Nodup) {m : ByteArray} {xs : List TP} (hm : (m, xs) ∈ A) : xs.Nodup := by
 obtain ⟨B, C, rfl⟩ := List.append_of_mem hm
 unfold allOf at h
 rw [List.flatMap_append, List.flatMap_cons, List.nodup_append, List.nodup_append] at h
 exact h.2.1.1
theorem rowTP_perm {S : List Shr} {A : Asg} (hs : Shows (S.map trip) A) (hA : (allOf A).Nodup) (hk : (A.map (·.1)).Nodup) {m : ByteArray} {xs : List TP} (hm : (m, xs) ∈ A) : (rowTP S m).Perm xs := by
 refine perm_of_nodup (rowTP_nodup (hs.perm.nodup_iff.2 hA) m) (row_nodup hA hm) fun x => ?_
 obtain ⟨t, p⟩ := x
 rw [rowTP_mem, hs.iff]
 constructor
 · rintro ⟨ys, h1, h2⟩
   rw [← rowOf_mem hk hm, rowOf_mem hk h1]; exact h2
 · intro h; exact ⟨xs, hm, h⟩
section
variable {Ms : List Mem} {Ts : List Shr} {Old : ByteArray → List TP} {A : Asg} {S : List Shr}
theorem plan_bounds (hok : PlanOk (ids Ms) Old (allT Ts) A) (hs : Shows (S.map trip) A) (hc : Canon ltMT (S.map trip)) (h1 : (allT Ts).length ≤ 1000) :
 (∀ x ∈ S, x.top ∈ Ts.map (·.top) ∧ x.parts.length ≤ 1000) ∧ S.length ≤ 1000 ∧ ∀ id, ((ownOf S id).map (·.top)).Nodup := by
 have hl : (flatT (S.map trip)).length = (allT Ts).length := by rw [hs.perm.length_eq, hok.all.length_eq]
 rw [flatT_length] at hl
 refine ⟨fun x hx => ⟨?_, ?_⟩, ?_, fun id => ?_⟩
 · have hne := hc.full (trip x) (List.mem_map_of_mem hx)
   cases hps : x.parts with
   | nil => exact absurd hps hne
   | cons p ps =>
     have h2 : Holds (S.map trip) x.mem x.top p := ⟨x.parts, List.mem_map_of_mem (f := trip) hx, by rw [hps]; simp⟩
     have h3 : (x.top, p) ∈ allT Ts := hok.all.mem_iff.1 (allOf_mem.2 ⟨_, (hs.iff _ _ _).1 h2⟩)
     obtain ⟨z, hz, h4⟩ := List.mem_flatMap.1 h3
     obtain ⟨y, hy, rfl⟩ := List.mem_map.1 hz
     obtain ⟨q, _, e⟩ := List.mem_map.1 h4
     exact List.mem_map.2 ⟨y, hy, (Prod.mk.inj e).1⟩
 · obtain ⟨B, C, rfl⟩ := List.append_of_mem hx
   simp only [List.map_append, List.map_cons, List.sum_append, List.sum_cons, trip] at hl
   omega
 · refine Nat.le_trans ?_ (Nat.le_trans (Nat.le_of_eq hl) h1)
   · have hf := hc.full
     clear hl hs hc
     induction S with
     | nil => simp
     | cons x S ih =>
       have h2 := hf (trip x) (by simp)
       have h3 := ih (fun y hy => hf y (by simp [hy]))
       have h4 : 0 < x.parts.length := List.length_pos_iff.2 h2
       simp only [List.map_cons, List.sum_cons, List.length_cons] at h3 ⊢
       have e : (trip x).2.2.length = x.parts.length := rfl
       omega
 · have h2 := List.pairwise_map.1 hc.sorted
   have h3 := List.pairwise_map.1 h2
   have e : (ownOf S id).map (·.top) = (S.filter fun x : Shr => decide (x.mem = id)).map (·.top) := by simp [ownOf, Function.comp_def]
   rw [e]
   refine List.pairwise_map.2 ?_
   refine List.Pairwise.imp_of_mem ?_ (h3.sublist (List.filter_sublist (p := fun x : Shr => decide (x.mem = id))))
   intro x y hx hy hlt e2
   have hx2 := (List.mem_filter.1 hx).2
   have hy2 := (List.mem_filter.1 hy).2
   simp only [decide_eq_true_eq] at hx2 hy2
   have : (trip x).1 = (trip y).1 ∧ (trip x).2.1 = (trip y).2.1 := ⟨by simp [trip, hx2, hy2], by simp [trip, e2]⟩
   rw [this.1, this.2] at hlt
   exact ltMT_irr _ hlt
theorem encTPs_le : ∀ (D : List (ByteArray × List Int)), (∀ x ∈ D, x.1.size ≤ 1000 ∧ x.2.length ≤ 1000) → (D.flatMap encTP).length ≤ D.length * 6000
 | [], _ => by simp
 | x :: D, h => by
   have h1 := encTPs_le D (fun y hy => h y (by simp [hy]))
   have h2 := h x (by simp)
   rw [List.flatMap_cons, List.length_append, encTP_length, List.length_cons]
   omega
theorem own_top {x : Shr} {id : ByteArray} (h : x ∈ ownOf S id) : ∃ y ∈ S, y.mem = id ∧ x.top = y.top ∧ x.parts = y.parts := by
 obtain ⟨y, hy, rfl⟩ := List.mem_map.1 h
 exact ⟨y, (List.mem_filter.1 hy).1, by simpa using (List.mem_filter.1 hy).2, rfl, rfl⟩
theorem own_len12 (hb : ∀ x ∈ S, x.top ∈ Ts.map (·.top) ∧ x.parts.length ≤ 1000) (hn : ∀ id, ((ownOf S id).map (·.top)).Nodup) (ht : Ts.length ≤ 12) (id : ByteArray) : (ownOf S id).length ≤ 12 := by
 have h1 := sub_len (hn id) (K := Ts.map (·.top)) (fun t htm => by
  obtain ⟨x, hx, rfl⟩ := List.mem_map.1 htm
  obtain ⟨y, hy, _, e, _⟩ := own_top hx
  rw [e]; exact (hb y hy).1)
 simp only [List.length_map] at h1
 omega
theorem v1_len (D : List (ByteArray × List Int)) (gen : Int) (h : ∀ x ∈ D, x.1.size ≤ 1000 ∧ x.2.length ≤ 1000) (hl : D.length ≤ 12) : (v1Bytes D gen).length ≤ 1000000 := by
 have h1 := encTPs_le D h
 unfold v1Bytes
 simp only [List.length_append, be32, List.length_cons, List.length_nil]
 omega
theorem own_ok (hok : PlanOk (ids Ms) Old (allT Ts) A) (hs : Shows (S.map trip) A) (hc : Canon ltMT (S.map trip)) (h1 : (allT Ts).length ≤ 1000) (ht : Ts.length ≤ 12) (hsz : ∀ t ∈ Ts, t.top.size ≤ 1000) (gen : Int) (id : ByteArray) : OwnOk S gen id := by
 obtain ⟨b1, b2, b3⟩ := plan_bounds hok hs hc h1
 have hsz2 : ∀ x ∈ ownOf S id, x.top.size ≤ 1000 ∧ x.parts.length ≤ 1000 := fun x hx => by
  obtain ⟨y, hy, _, e, e2⟩ := own_top hx
  obtain ⟨t, htm, e3⟩ := List.mem_map.1 (b1 y hy).1
  exact ⟨by rw [e, ← e3]; exact hsz t htm, by rw [e2]; exact (b1 y hy).2⟩
 refine ⟨b3 id, fun x hx => (hsz2 x hx).2, fun x hx => (hsz2 x hx).1, fun D hD => ?_⟩
 rw [encV1_v1, hD]
 refine v1_len _ _ (fun z hz => ?_) (by rw [List.length_map]; exact own_len12 b1 b3 ht id)
 obtain ⟨x, hx, rfl⟩ := List.mem_map.1 hz
 exact hsz2 x hx
theorem told_stin {Gen : ByteArray → Int} {Ms' : List Mem} {gen : Int} (hin : StIn Ms Ts Old Gen) (hok : PlanOk (ids Ms) Old (allT Ts) A) (hs : Shows (S.map trip) A) (hc : Canon ltMT (S.map trip)) (hsz : ∀ t ∈ Ts, t.top.size ≤ 1000) (hi32 : ∀ x ∈ S, ∀ p ∈ x.parts, isI32 p) (hg : isI32 gen)
 (hl : Ms'.length = Ms.length) (ht : ∀ (j : Nat) m m', Ms[j]? = some m → Ms'[j]? = some m' → ToldM S gen m m') :
 ∃ Old', StIn Ms' Ts Old' (fun _ => gen) ∧ ids Ms' = ids Ms ∧ ∀ m ∈ ids Ms, ∀ x, Has A m x → x ∈ Old' m := by
 obtain ⟨b1, b2, b3⟩ := plan_bounds hok hs hc hin.t1
 have hAn := hok.nodup hin.tn
 have hAk : (A.map (·.1)).Nodup := hok.keys.nodup_iff.2 hin.ids
 have hids : ids Ms' = ids Ms := by
  unfold ids
  apply List.ext_getElem?
  intro j
  rw [List.getElem?_map, List.getElem?_map]
  cases h1 : Ms[j]? with
  | none =>
    have : Ms'[j]? = none := List.getElem?_eq_none (by have := List.getElem?_eq_none_iff.1 h1; omega)
    rw [this, Option.map_none]
  | some m =>
    obtain ⟨m', h2⟩ : ∃ m', Ms'[j]? = some m' := ⟨_, List.getElem?_eq_getElem (by have := (List.getElem?_eq_some_iff.1 h1).1; omega)⟩
    rw [h2]
    obtain ⟨dv, data, e⟩ := (ht j m m' h1 h2).same
    rw [e]; rfl
 have hpair : ∀ m' ∈ Ms', ∃ m ∈ Ms, ToldM S gen m m' := fun m' hm' => by
  obtain ⟨j, hj⟩ := List.mem_iff_getElem?.1 hm'
  obtain ⟨m, h1⟩ : ∃ m, Ms[j]? = some m := ⟨_, List.getElem?_eq_getElem (by have := (List.getElem?_eq_some_iff.1 hj).1; omega)⟩
  exact ⟨m, List.mem_of_getElem? h1, ht j m m' h1 hj⟩
 have hdat : ∀ m' ∈ Ms', ∃ parts, DataIs m'.data parts gen ∧ parts.Perm (rowTP S m'.id) := fun m' hm' => by
  obtain ⟨m, hm, htm⟩ := hpair m' hm'
  obtain ⟨dv, data, e⟩ := htm.same
  obtain ⟨D, hD, hdo⟩ := htm.data
  have eid : m'.id = m.id := by rw [e]
  rcases hdo with ⟨h, _⟩ | ⟨_, L', hp, hcs⟩
  · exact absurd rfl h
  have hp2 : (tops2 L').Perm ((ownOf S m.id).map topOf) := by rw [← hD]; exact hp.map _
  have hel : ∀ z ∈ tops2 L', z.1.size ≤ 1000 ∧ z.2.length ≤ 1000 ∧ ∀ y ∈ z.2, isI32 y := fun z hz => by
   obtain ⟨x, hx, rfl⟩ := List.mem_map.1 (hp2.mem_iff.1 hz)
   obtain ⟨y, hy, _, e1, e2⟩ := own_top hx
   obtain ⟨t, htm, e3⟩ := List.mem_map.1 (b1 y hy).1
   exact ⟨by simp only [topOf]; rw [e1, ← e3]; exact hsz t htm, by simp only [topOf]; rw [e2]; exact (b1 y hy).2, by simp only [topOf]; rw [e2]; exact hi32 y hy⟩
  have hl12 : (tops2 L').length ≤ 12 := by rw [hp2.length_eq, List.length_map]; exact own_len12 b1 b3 hin.tl m.id
  have hpp : ((tops2 L').flatMap tpsOf).Perm (rowTP S m.id) := hp2.flatMap_right _
  refine ⟨(tops2 L').flatMap tpsOf, ⟨hg, .inr ⟨tops2 L', by rw [hcs, encV1_v1], rfl, ?_, fun z hz => ⟨by have := (hel z hz).1; omega, by have := (hel z hz).2.1; omega, (hel z hz).2.2⟩, by omega, ?_, v1_len _ _ (fun z hz => ⟨(hel z hz).1, (hel z hz).2.1⟩) hl12⟩⟩, by rw [eid]; exact hpp⟩
  · have h1 := (hp2.map (·.1)).nodup_iff.2 (by have := b3 m.id; simpa [topOf, Function.comp_def] using this)
    exact h1
  · rw [hpp.length_eq]
    have h2 : (rowTP S m.id).length ≤ (flatT (S.map trip)).length := by
     rw [rowTP_flat]
     exact (flatMap_filter_sub _ _ _).length_le
    rw [hs.perm.length_eq, hok.all.length_eq] at h2
    have := hin.t1; omega
 let Old' : ByteArray → List TP := fun id => if h : ∃ m', m' ∈ Ms' ∧ m'.id = id then Classical.choose (hdat (Classical.choose h) (Classical.choose_spec h).1) else []
 have hnd' : (ids Ms').Nodup := by rw [hids]; exact hin.ids
 have uniq : ∀ m1 ∈ Ms', ∀ m2 ∈ Ms', m1.id = m2.id → m1 = m2 := by
  have : ∀ L : List Mem, (L.map (·.id)).Nodup → ∀ m1 ∈ L, ∀ m2 ∈ L, m1.id = m2.id → m1 = m2 := by
   intro L
   induction L with
   | nil => intro _ a ha; cases ha
   | cons c L ih =>
     intro hn a ha b hb e
     simp only [List.map_cons, List.nodup_cons] at hn
     rcases Zmc.1 ha with h1 | h1
     · rcases Zmc.1 hb with h2 | h2
       · rw [h1, h2]
       · exact absurd (List.mem_map.2 ⟨b, h2, by rw [← e, h1]⟩) hn.1
     · rcases Zmc.1 hb with h2 | h2
       · exact absurd (List.mem_map.2 ⟨a, h1, by rw [e, h2]⟩) hn.1
       · exact ih hn.2 a h1 b h2 e
  exact this Ms' hnd'
 have hOld : ∀ m' ∈ Ms', DataIs m'.data (Old' m'.id) gen ∧ (Old' m'.id).Perm (rowTP S m'.id) := fun m' hm' => by
  have h : ∃ m2, m2 ∈ Ms' ∧ m2.id = m'.id := ⟨m', hm', rfl⟩
  have e1 : Old' m'.id = Classical.choose (hdat (Classical.choose h) (Classical.choose_spec h).1) := dif_pos h
  have e2 := uniq _ (Classical.choose_spec h).1 _ hm' (Classical.choose_spec h).2
  have h2 := Classical.choose_spec (hdat (Classical.choose h) (Classical.choose_spec h).1)
  rw [← e1, e2] at h2
  exact h2
 have hrowA : ∀ m' ∈ Ms', ∃ xs, (m'.id, xs) ∈ A ∧ (Old' m'.id).Perm xs := fun m' hm' => by
  have h1 : m'.id ∈ A.map (·.1) := hok.keys.mem_iff.2 (by rw [← hids]; exact List.mem_map_of_mem (f := fun m : Mem => m.id) hm')
  obtain ⟨r, hr, e⟩ := List.mem_map.1 h1
  exact ⟨r.2, by rw [← e]; exact hr, (hOld m' hm').2.trans (rowTP_perm hs hAn hAk (by rw [← e]; exact hr))⟩
 have hflat : (Ms'.flatMap fun m => Old' m.id).Perm (allOf A) := by
  have h1 : (Ms'.flatMap fun m => Old' m.id).Perm (Ms'.flatMap fun m => rowOf A m.id) := perm_flatMap _ (fun m hm => by
   obtain ⟨xs, h2, h3⟩ := hrowA m hm
   rw [rowOf_mem hAk h2]; exact h3)
  have h2 : (Ms'.flatMap fun m => rowOf A m.id) = (ids Ms').flatMap (rowOf A) := by unfold ids; rw [List.flatMap_map]
  have h3 : ((ids Ms').flatMap (rowOf A)).Perm ((A.map (·.1)).flatMap (rowOf A)) := by rw [hids]; exact hok.keys.symm.flatMap_right _
  have h4 : (A.map (·.1)).flatMap (rowOf A) = allOf A := by
   rw [List.flatMap_map]
   unfold allOf
   rw [List.flatMap_def, rowOf_self hAk, List.flatMap_def]
  rw [h2] at h1
  rw [h4] at h3
  exact h1.trans h3
 refine ⟨Old', ⟨by rw [hl]; exact hin.m1, by rw [hl]; exact hin.m2, hnd', fun m' hm' => ?_, fun m' hm' => ?_, fun m' hm' => (hOld m' hm').1, hin.tk, hin.tl, hin.tn, hin.t0, hin.t1, hflat.nodup_iff.2 hAn, fun m' hm' p hp => ?_, ?_⟩, hids, fun m hm x hx => ?_⟩
 · obtain ⟨m, hm, htm⟩ := hpair m' hm'
   obtain ⟨dv, data, e⟩ := htm.same
   have h0 := hin.ok m hm
   have hdl : m'.data.length ≤ 1000000 := by
    rcases (hOld m' hm').1.2 with ⟨h, _⟩ | ⟨D, h, _, _, _, _, _, h7⟩
    · rw [h]; simp
    · rw [h]; exact h7
   rw [e] at hdl ⊢
   exact ⟨h0.tops, hdl, h0.olen, h0.oparts⟩
 · obtain ⟨m, hm, htm⟩ := hpair m' hm'
   obtain ⟨dv, data, e⟩ := htm.same
   rw [e]; exact hin.tops m hm
 · obtain ⟨xs, h1, h2⟩ := hrowA m' hm'
   exact hok.all.mem_iff.1 (allOf_mem.2 ⟨m'.id, xs, h1, h2.mem_iff.1 hp⟩)
 · intro a ha b hb
   obtain ⟨m1, hm1, rfl⟩ := List.mem_map.1 ha
   obtain ⟨m2, hm2, rfl⟩ := List.mem_map.1 hb
   obtain ⟨x1, h1, h2⟩ := hrowA m1 hm1
   obtain ⟨x2, h3, h4⟩ := hrowA m2 hm2
   rw [h2.length_eq, h4.length_eq]
   exact hok.near _ (List.mem_map_of_mem (f := fun r : ByteArray × List TP => r.2.length) h1) _ (List.mem_map_of_mem (f := fun r : ByteArray × List TP => r.2.length) h3)
 · rw [← hids] at hm
   obtain ⟨m', hm', rfl⟩ := List.mem_map.1 hm
   obtain ⟨xs, h1, h2⟩ := hrowA m' hm'
   obtain ⟨ys, h3, h4⟩ := hx
   have : xs = ys := by rw [← rowOf_mem hAk h1, ← rowOf_mem hAk h3]
   subst this
   exact h2.mem_iff.2 h4
end
end
section
open Go Go.Proofs Go.RowKit Go.Lib
def AskP (Ms : List Mem) (Ts : List Shr) : Prop := AlikeP Ms Ts ∧ ∀ m ∈ Ms, m.tops.length = Ts.length
def AskRel (w : World) (Ms : List Mem) (nt N : Nat) (i : Value) (wr : World) : Prop := wr = w ∧ ∃ k : Nat, i = .int .i64 k ∧ k ≤ N ∧ (∀ m ∈ Ms.take k, m.tops.length = nt)
theorem MemsAt.keptW {w w' : World} {v : Value} {L : List Mem} (h : MemsAt w v L) (k : Kept [] w w') : MemsAt w' v L := ⟨h.form, h.cells.kept k (by simp), fun m hm => (h.each m hm).kept0 k⟩
def F2Rel (w : World) (N : Nat) (i : Value) (wr : World) : Prop := Kept [] w wr ∧ ∃ k : Nat, i = .int .i64 k ∧ k ≤ N
theorem fits2_any (am : Option Addr) (N cm : Nat) (Ms : List Mem) (w : World) (hm : MemsAt w (.slice am N cm) Ms) (hN : Ms.length = N) (hb : N ≤ maxLen) (hbt : ∀ m ∈ Ms, m.tops.length ≤ maxLen ∧ m.owned.length ≤ maxLen) :
 Calls Tryz.prog 12 #[.slice am N cm] w fun e w' => AnyBool e ∧ Kept [] w w' := by
 have hmx : maxLen = 9223372036854775807 := rfl
 have HM := Zhd (Zan hm (Zan hN hbt)); clear hm hN hbt
 by_cases hbig : (2147483647 : Int) < (N : Int)
 · go_enter Tryz.func12, Tryz.ntmps12
   go_wp2_with fail
   go_ret
   exact ⟨⟨_, rfl⟩, Kept.refl _ _⟩
 · go_enter Tryz.func12, Tryz.ntmps12
   go_wp2_with fail
   go_loopw [10] (fun i wr => F2Rel w N i wr) (fun i _ => N - (intOf i).toNat)
   case atStart => exact ⟨Kept.refl _ _, 0, rfl, Nat.zero_le _⟩
   case round =>
    obtain ⟨hkw, k, rfl, hk⟩ := hrel
    by_cases hkn : k < N
    · obtain ⟨m, hm⟩ : ∃ m, Ms[k]? = some m := ⟨_, List.getElem?_eq_getElem (by have := HM.out.2.1; omega)⟩
      obtain ⟨g, off, ta, tc, da, dc, oa, oc, rfl, e1, e2, e3, hcm⟩ := mem_at HM.out.1 HM.out.2.1 hm
      have hmM := List.mem_of_getElem? hm
      have hft := fun w' (k' : Kept [] w w') => fits3 m w' ((HM.out.1.each m hmM).kept0 k') (HM.out.2.2 m hmM).1 (HM.out.2.2 m hmM).2
      obtain ⟨c0, c1, c2, c3, c4, c5, c6, c7⟩ := hcm wr hkw
      have hki : (k : Int) < (N : Int) := by omega
      clear hm hmM hcm
      obtain ⟨id, ver, tv, tops, dv, data, ov, owned, gen, rack, has⟩ := m
      simp only at e1 e2 e3 hft c0 c1 c2 c3 c4 c5 c6 c7
      subst e1 e2 e3
      simp only [memCells] at hft
      have HW := Zhd hft; clear hft
      generalize tops.length = tn at *
      generalize data.length = dn at *
      generalize owned.length = on at *
      go_wp2_with (first
       | (go_at_call 27
          refine (HW.out _ (hkw.alloc _)).mono ?_
          rintro e w1 ⟨⟨b, rfl⟩, hk1⟩
          have hk2 := (hkw.alloc (.cells #[.string id, .int .i16 ver, .slice ta tn tc, .slice da dn dc, .slice oa on oc, .int .i32 gen, .string rack, .bool has] 30)).trans hk1 (U := []) (by simp) (by simp)
          cases b)
       | fail)
      all_goals first
       | exact ⟨⟨hk2, k + 1, by go_num, by omega⟩, by simp [intOf]; omega⟩
       | (go_ret
          exact ⟨⟨_, rfl⟩, hk2⟩)
    · obtain rfl : k = N := by omega
      go_wp2_with fail
      go_ret
      exact ⟨⟨_, rfl⟩, hkw⟩
end
section
open Go Go.Proofs Go.RowKit Go.Lib
def WdOut (w : World) (nt : Nat) (i : Value) (wr : World) : Prop := Kept [] w wr ∧ ∃ k : Nat, i = .int .i64 k ∧ k ≤ nt
def WdIn (w : World) (N : Nat) (b i : Value) (wr : World) : Prop := Kept [] w wr ∧ (∃ c, b = .bool c) ∧ ∃ k : Nat, i = .int .i64 k ∧ k ≤ N
theorem wanted_any (am : Option Addr) (N cm : Nat) (Ms : List Mem) (at' : Option Addr) (nt ct : Nat) (Ts : List Shr) (w : World) (hm : MemsAt w (.slice am N cm) Ms) (hN : Ms.length = N) (ht : ShrsAt w (.slice at' nt ct) Ts) (hT : Ts.length = nt) (hb : N ≤ 1000 ∧ nt ≤ 1000) (hbt : ∀ m ∈ Ms, m.tops.length ≤ maxLen) :
 Calls Tryz.prog 39 #[.slice am N cm, .slice at' nt ct] w fun e w' => AnyBool e ∧ Kept [] w w' := by
 have HM := Zhd (Zan hm (Zan hN (Zan ht (Zan hT hbt)))); clear hm hN ht hT hbt
 go_enter Tryz.func39, Tryz.ntmps39
 go_wp2_with fail
 go_loopw [5] (fun i wr => WdOut w nt i wr) (fun i _ => nt - (intOf i).toNat)
 case atStart => exact ⟨Kept.refl _ _, 0, rfl, Nat.zero_le _⟩
 case round =>
  obtain ⟨hkw, i, rfl, hi⟩ := hrel
  by_cases hin : i < nt
  · obtain ⟨t, ht⟩ : ∃ t, Ts[i]? = some t := ⟨_, List.getElem?_eq_getElem (by have := HM.out.2.2.2.1; omega)⟩
    obtain ⟨gt, ot, va, vc, rfl, hv, hct⟩ := shr_at HM.out.2.2.1 HM.out.2.2.2.1 ht
    have hii : (i : Int) < (nt : Int) := by omega
    have HT := Zhd (Zan ht (Zan hv hct)); clear ht hv hct
    go_wp2_with fail
    go_loopw [6, 7] (fun b j wr' => WdIn w N b j wr') (fun _ j _ => N - (intOf j).toNat)
    case atStart => exact ⟨hkw, ⟨_, rfl⟩, 0, rfl, Nat.zero_le _⟩
    case round =>
     obtain ⟨hkw2, ⟨c, rfl⟩, k, rfl, hk⟩ := hrel
     by_cases hkn : k < N
     · obtain ⟨m, hm⟩ : ∃ m, Ms[k]? = some m := ⟨_, List.getElem?_eq_getElem (by have := HM.out.2.1; omega)⟩
       obtain ⟨g, off, ta, tc, da, dc, oa, oc, rfl, e1, e2, e3, hcm⟩ := mem_at HM.out.1 HM.out.2.1 hm
       have hmM := List.mem_of_getElem? hm
       have hme := HM.out.1.each m hmM
       have hbt := HM.out.2.2.2.2 m hmM
       have hki : (k : Int) < (N : Int) := by omega
       have hcs := fun W (hW : Kept [] wr W) => Zan (hcm W (hkw2.trans hW (U := []) (by simp) (by simp))) (HT.out.2.2 W (hkw2.trans hW (U := []) (by simp) (by simp))).2.1
       have HCS := Zhd hcs; clear hcs hcm
       obtain ⟨bb, hbb⟩ : ∃ bb : Bool, ∀ w' (k' : Kept [] w w'), Calls Tryz.prog 42 #[.agg (memCells m).toArray, .string t.top] w' fun e w'' => e = .returned (.bool bb) ∧ Kept [] w' w'' := by
        by_cases htm : t.top ∈ m.tops
        · exact ⟨true, fun w' k' => wants_yes m t.top w' (hme.kept0 k') hbt htm⟩
        · exact ⟨false, fun w' k' => wants_no m t.top w' (hme.kept0 k') hbt htm⟩
       clear hm hme hmM hbt
       obtain ⟨id, ver, tv, tops, dv, data, ov, owned, gen, rack, has⟩ := m
       simp only at e1 e2 e3 HCS hbb
       subst e1 e2 e3
       simp only [memCells] at hbb
       have HW := Zhd hbb; clear hbb
       generalize tops.length = tn at *
       generalize data.length = dn at *
       generalize owned.length = on at *
       generalize htop : t.top = top at *
       have HTOP := Zhd htop; clear htop
       cases c
       · obtain ⟨⟨c0, c1, c2, c3, c4, c5, c6, c7⟩, ct1⟩ := HCS.out wr (Kept.refl _ _)
         go_wp2_with fail
         go_region_law
          (first
            | (go_simp
               go_at_call 42
               refine (HW.out _ hkw2.drew).mono ?_
               rintro e w1 ⟨rfl, hk1⟩
               have hk1' : Kept [] wr w1 := hk1.of_drew
               go_wp2_with fail)
            | fail)
         all_goals
          go_wp2_with fail
          exact ⟨⟨hkw2.trans hk1' (by simp) (by simp), ⟨_, rfl⟩, k + 1, by go_num, by omega⟩, by simp [intOf]; omega⟩
       · go_wp2_with fail
         go_region
         all_goals
          go_wp2_with fail
          exact ⟨⟨hkw2.drew, ⟨_, rfl⟩, k + 1, by go_num, by omega⟩, by simp [intOf]; omega⟩
     · cases c
       · go_wp2_with fail
         go_ret
         exact ⟨⟨_, rfl⟩, hkw2⟩
       · go_wp2_with fail
         exact ⟨⟨hkw2, i + 1, by go_num, by omega⟩, by simp [intOf]; omega⟩
  · go_wp2_with fail
    go_ret
    exact ⟨⟨_, rfl⟩, hkw⟩
end
end Go.Proofs.YticcnlpfmekagaaGreat
