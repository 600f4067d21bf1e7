/- Part 44 of the proof of the row: StRnd, Cnt, StLv, StJn, StGroupJ. -/
import Derived.Test.YticcnlpfmekagaaGreatRj00
import Derived.Test.YticcnlpfmekagaaGreatRj40
import Derived.Test.YticcnlpfmekagaaGreatRj43
import Derived.Test.YticcnlpfmekagaaGreatRj38
import Derived.Test.YticcnlpfmekagaaGreatRj39
set_option linter.unusedVariables false
set_option linter.unusedSimpArgs false
set_option maxRecDepth 100000
set_option maxHeartbeats 8000000
namespace Go.Proofs.YticcnlpfmekagaaGreat
section
open Go Go.Proofs Go.RowKit Go.Lib
open Classical
structure FitA (Ms : List Mem) (Ts : List Shr) : Prop where
 g : GFit Ms Ts
 a : AskP Ms Ts
section
variable {Ms : List Mem} {Ts : List Shr}
theorem RisesS.nodup {L : List Shr} (h : RisesS L) : (L.map (·.top)).Nodup :=
 List.pairwise_map.2 (List.Pairwise.imp (fun {x y} hlt e => by rw [e, topLt_swo.irrefl] at hlt; cases hlt) h)
theorem perm_of_sub {α : Type} {L K : List α} (hK : K.Nodup) (hL : L.Nodup) (hs : ∀ x ∈ K, x ∈ L) (hl : L.length = K.length) : L.Perm K := by
 refine perm_of_nodup hL hK fun x => ⟨fun hx => ?_, hs x⟩
 refine Classical.byContradiction fun hn => ?_
 have h1 := sub_len (L := x :: K) (K := L) (List.nodup_cons.2 ⟨hn, hK⟩) (fun y hy => by
  rcases Zmc.1 hy with rfl | hy
  · exact hx
  · exact hs y hy)
 simp only [List.length_cons] at h1
 omega
theorem FitA.tops (h : FitA Ms Ts) {m : Mem} (hm : m ∈ Ms) : m.tops.Perm (Ts.map (·.top)) := by
 refine perm_of_sub h.g.rises.nodup (h.g.mems m hm).nd (fun t ht => ?_) (by rw [h.a.2 m hm, List.length_map])
 obtain ⟨x, hx, rfl⟩ := List.mem_map.1 ht
 exact h.a.1 x hx m hm
theorem allT_mem {t : ByteArray} {p : Int} : (t, p) ∈ allT Ts ↔ ∃ x ∈ Ts, x.top = t ∧ p ∈ x.parts := by
 unfold allT
 rw [List.flatMap_map, List.mem_flatMap]
 constructor
 · rintro ⟨x, hx, h⟩
   obtain ⟨q, hq, e⟩ := List.mem_map.1 h
   obtain ⟨e1, e2⟩ := Prod.mk.inj e
   exact ⟨x, hx, e1, by rw [← e2]; exact hq⟩
 · rintro ⟨x, hx, e1, hp⟩
   exact ⟨x, hx, List.mem_map.2 ⟨p, hp, by rw [← e1]; rfl⟩⟩
theorem allT_cons (x : Shr) (L : List Shr) : allT (x :: L) = tpsOf (topOf x) ++ allT L := by simp [allT]
theorem allT_nodup : ∀ {L : List Shr}, (L.map (·.top)).Nodup → (∀ x ∈ L, x.parts.Nodup) → (allT L).Nodup
 | [], _, _ => List.nodup_nil
 | x :: L, hn, hp => by
   rw [List.map_cons, List.nodup_cons] at hn
   rw [allT_cons]
   refine List.nodup_append.2 ⟨List.Pairwise.map _ (fun a b hab e => hab (Prod.mk.inj e).2) (hp x (by simp)), allT_nodup hn.2 (fun y hy => hp y (by simp [hy])), fun a ha b hb e => ?_⟩
   subst e
   obtain ⟨q, _, rfl⟩ := List.mem_map.1 ha
   obtain ⟨y, hy, e1, _⟩ := allT_mem.1 hb
   exact hn.1 (List.mem_map.2 ⟨y, hy, e1⟩)
theorem allT_len : ∀ {L : List Shr}, (∀ x ∈ L, x.parts.length ≤ 10) → (allT L).length ≤ L.length * 10
 | [], _ => by simp [allT]
 | x :: L, h => by
   have h1 := allT_len (L := L) (fun y hy => h y (by simp [hy]))
   have h2 := h x (by simp)
   have h3 : (tpsOf (topOf x)).length = x.parts.length := by simp [tpsOf, topOf]
   rw [allT_cons, List.length_append, List.length_cons]
   omega
theorem TopFit.nodup {x : Shr} (h : TopFit x) : x.parts.Nodup := by
 rw [h.range]
 exact List.Pairwise.map _ (fun a b hab e => hab (Int.ofNat.inj e)) List.nodup_range
theorem TopFit.part {x : Shr} (h : TopFit x) {p : Int} (hp : p ∈ x.parts) : 0 ≤ p ∧ p < 10 := by
 rw [h.range] at hp
 obtain ⟨k, hk, rfl⟩ := List.mem_map.1 hp
 have h1 := List.mem_range.1 hk
 have h2 := h.p2
 exact ⟨Int.natCast_nonneg k, by show ((k : Nat) : Int) < 10; omega⟩
theorem FitA.stin (h : FitA Ms Ts) : StIn Ms Ts (fun _ => []) (fun _ => 0) := by
 have hl := allT_len (L := Ts) (fun x hx => (h.g.tops x hx).p2)
 have h6 := h.g.t6
 refine ⟨h.g.m1, by have := h.g.m6; omega, h.g.ids, fun m hm => ?_, fun m hm => h.tops hm, fun m hm => ⟨by unfold isI32; omega, .inl ⟨(h.g.mems m hm).data, rfl, rfl⟩⟩, h.g.rises.nodup, by omega, allT_nodup h.g.rises.nodup (fun x hx => (h.g.tops x hx).nodup), ?_, by omega, ?_, fun m hm p hp => ?_, ?_⟩
 · have hf := h.g.mems m hm
   exact ⟨by have := hf.tops; omega, by rw [hf.data]; simp, by rw [hf.owned]; simp, by rw [hf.owned]; simp⟩
 · have h1 := h.g.t1
   cases Ts with
   | nil => simp at h1
   | cons x L =>
     have h2 := (h.g.tops x (by simp)).p1
     have h3 : (tpsOf (topOf x)).length = x.parts.length := by simp [tpsOf, topOf]
     rw [allT_cons, List.length_append]
     omega
 · have : (Ms.flatMap fun m => ([] : List TP)) = [] := by simp
   rw [this]; exact List.nodup_nil
 · cases hp
 · intro a ha b hb
   obtain ⟨_, _, rfl⟩ := List.mem_map.1 ha
   exact Nat.zero_le _
def PlanL (Ms : List Mem) (Ts : List Shr) (L : List Shr) : Prop := ∃ A, PlanOk (ids Ms) (fun _ => []) (allT Ts) A ∧ Shows (L.map trip) A ∧ Canon ltMT (L.map trip)
theorem PlanL.own (h : FitA Ms Ts) {L : List Shr} (hl : PlanL Ms Ts L) (gen : Int) (id : ByteArray) : OwnOk L gen id := by
 obtain ⟨A, h1, h2, h3⟩ := hl
 exact own_ok h1 h2 h3 h.stin.t1 h.stin.tl (fun t ht => by have := (h.g.tops t ht).size; omega) gen id
theorem PlanL.len (h : FitA Ms Ts) {L : List Shr} (hl : PlanL Ms Ts L) : L.length ≤ 1000 ∧ ∀ x ∈ L, x.parts.length ≤ 1000 := by
 obtain ⟨A, h1, h2, h3⟩ := hl
 obtain ⟨b1, b2, _⟩ := plan_bounds h1 h2 h3 h.stin.t1
 exact ⟨b2, fun x hx => (b1 x hx).2⟩
end
end
section
open Go Go.Proofs Go.RowKit Go.Lib
open Classical
def cntS (L : List Shr) (id : ByteArray) : Nat := (L.map fun x => if x.mem = id then x.parts.length else 0).sum
def sumP (L : List Shr) : Nat := (L.map fun x => x.parts.length).sum
def cntRow0 (Ms : List Mem) (L : List Shr) : List Value := Ms.map fun m => .int .i64 ((cntS L m.id : Nat) : Int)
def cntRow (Ms : List Mem) (L : List Shr) (mem : ByteArray) (k : Nat) : List Value := Ms.map fun m => .int .i64 ((cntS L m.id + (if m.id = mem then k else 0) : Nat) : Int)
theorem cntRow_zero (Ms : List Mem) (L : List Shr) (mem : ByteArray) : cntRow Ms L mem 0 = cntRow0 Ms L := by simp [cntRow, cntRow0]
theorem cntRow_next (Ms : List Mem) {S : List Shr} {i : Nat} {x : Shr} (hx : S[i]? = some x) : cntRow Ms (S.take i) x.mem x.parts.length = cntRow0 Ms (S.take (i + 1)) := by
 unfold cntRow cntRow0
 rw [take_snoc' hx]
 refine List.map_congr_left fun m _ => ?_
 have : cntS (S.take i ++ [x]) m.id = cntS (S.take i) m.id + if m.id = x.mem then x.parts.length else 0 := by
  simp only [cntS, List.map_append, List.sum_append, List.map_cons, List.map_nil, List.sum_cons, List.sum_nil, Nat.add_zero, eq_comm]
 rw [this]
theorem cntRow_get {Ms : List Mem} {L : List Shr} {at' k : Nat} {m : Mem} (hm : Ms[at']? = some m) : (cntRow Ms L m.id k)[at']? = some (.int .i64 ((cntS L m.id + k : Nat) : Int)) := by
 unfold cntRow
 rw [List.getElem?_map, hm]
 simp
theorem cntRow_step {Ms : List Mem} (hn : (ids Ms).Nodup) {L : List Shr} {at' k : Nat} {m : Mem} (hm : Ms[at']? = some m) : (cntRow Ms L m.id k).set at' (.int .i64 ((cntS L m.id + k + 1 : Nat) : Int)) = cntRow Ms L m.id (k + 1) := by
 apply List.ext_getElem?
 intro j
 unfold cntRow
 have hlt := (List.getElem?_eq_some_iff.1 hm).1
 rw [List.getElem?_set]
 by_cases h : at' = j
 · subst h
   simp only [if_true, List.length_map, hlt, List.getElem?_map, hm, Option.map_some]
   rfl
 · rw [if_neg h, List.getElem?_map, List.getElem?_map]
   cases hj : Ms[j]? with
   | none => rfl
   | some y =>
     have hne : y.id ≠ m.id := fun e => h (by
      have hjl := (List.getElem?_eq_some_iff.1 hj).1
      have h1 : (ids Ms)[at']? = some m.id := by unfold ids; rw [List.getElem?_map, hm]; rfl
      have h2 : (ids Ms)[j]? = some y.id := by unfold ids; rw [List.getElem?_map, hj]; rfl
      exact (List.getElem?_inj (by unfold ids; simpa using hlt) hn).1 (by rw [h1, h2, e]))
     simp [hne]
theorem sumP_snoc {S : List Shr} {i : Nat} {x : Shr} (hx : S[i]? = some x) : sumP (S.take (i + 1)) = sumP (S.take i) + x.parts.length := by
 rw [take_snoc' hx]; simp [sumP]
theorem sumP_append (A B : List Shr) : sumP (A ++ B) = sumP A + sumP B := by simp [sumP]
theorem sumP_take_le (S : List Shr) (i : Nat) : sumP (S.take i) ≤ sumP S := by
 have h := sumP_append (S.take i) (S.drop i)
 rw [List.take_append_drop] at h
 omega
theorem sumP_flat : ∀ (S : List Shr), (flatT (S.map trip)).length = sumP S := fun S => by rw [flatT_length]; simp [sumP, trip, Function.comp_def]
theorem sumP_allT : ∀ (L : List Shr), (allT L).length = sumP L
 | [] => rfl
 | x :: L => by
   have h3 : (tpsOf (topOf x)).length = x.parts.length := by simp [tpsOf, topOf]
   rw [allT_cons, List.length_append, sumP_allT L, h3]; rfl
theorem mem_flatT_of {S : List Shr} {n : Nat} {y : Shr} {v : Int} (hy : S[n]? = some y) (hv : v ∈ y.parts) : (y.top, v) ∈ flatT (S.map trip) :=
 flatT_mem.2 ⟨y.mem, y.parts, List.mem_map_of_mem (f := trip) (List.mem_of_getElem? hy), hv⟩
theorem no_dbl {S : List Shr} (hn : (flatT (S.map trip)).Nodup) {n i m k : Nat} {x y : Shr} {v z : Int} (hy : S[n]? = some y) (hx : S[i]? = some x) (hv : y.parts[m]? = some v) (hz : x.parts[k]? = some z)
 (hlt : n < i ∨ (n = i ∧ m < k)) (ht : y.top = x.top) : v ≠ z := by
 intro e
 subst e
 rcases hlt with h | ⟨rfl, h⟩
 · have hs : S = S.take i ++ S.drop i := (List.take_append_drop i S).symm
   rw [hs, List.map_append] at hn
   have hfa : flatT ((S.take i).map trip ++ (S.drop i).map trip) = flatT ((S.take i).map trip) ++ flatT ((S.drop i).map trip) := by unfold flatT; exact List.flatMap_append
   rw [hfa, List.nodup_append] at hn
   have h1 : (y.top, v) ∈ flatT ((S.take i).map trip) := mem_flatT_of (n := n) (by rw [List.getElem?_take, if_pos h]; exact hy) (List.mem_of_getElem? hv)
   have h2 : (x.top, v) ∈ flatT ((S.drop i).map trip) := mem_flatT_of (n := 0) (by rw [List.getElem?_drop]; exact hx) (List.mem_of_getElem? hz)
   exact hn.2.2 _ h1 _ h2 (by rw [ht])
 · rw [hx] at hy; cases hy
   have hp := flatT_part hn (List.mem_map_of_mem (f := trip) (List.mem_of_getElem? hx))
   have hl := (List.getElem?_eq_some_iff.1 hv).1
   have := (List.getElem?_inj hl hp).1 (show x.parts[m]? = x.parts[k]? by rw [hv, hz])
   omega
theorem rowTP_len (S : List Shr) (id : ByteArray) : (rowTP S id).length = cntS S id := by
 unfold rowTP ownOf cntS
 induction S with
 | nil => rfl
 | cons x S ih =>
   simp only [List.filter_cons, List.map_cons, List.sum_cons]
   by_cases h : x.mem = id
   · simp only [h, decide_true, if_true, List.map_cons, List.flatMap_cons, List.length_append]
     rw [ih]
     simp [tpsOf, topOf]
   · simp only [h, decide_false, Bool.false_eq_true, if_false, Nat.zero_add]
     exact ih
structure CntOk (Ms : List Mem) (Ts S : List Shr) : Prop where
 n1 : 1 ≤ Ms.length
 nd : (ids Ms).Nodup
 mem : ∀ x ∈ S, x.mem ∈ ids Ms
 wants : ∀ x ∈ S, ∀ m ∈ Ms, x.top ∈ m.tops
 top : ∀ x ∈ S, ∀ p ∈ x.parts, (x.top, p) ∈ allT Ts
 flat : (flatT (S.map trip)).Nodup
 all : sumP S = sumP Ts
 b1 : sumP Ts ≤ 1000
 b2 : S.length ≤ 1000
 near : Near (Ms.map fun m => cntS S m.id)
theorem cnt_ok {Ms : List Mem} {Ts : List Shr} {Old : ByteArray → List TP} {A : Asg} {S : List Shr} (h1 : PlanOk (ids Ms) Old (allT Ts) A) (h2 : Shows (S.map trip) A) (h3 : Canon ltMT (S.map trip)) (hn : (ids Ms).Nodup) (hm1 : 1 ≤ Ms.length) (hT : (allT Ts).Nodup) (hl : (allT Ts).length ≤ 1000) (ha : AlikeP Ms Ts) : CntOk Ms Ts S := by
 obtain ⟨b1, b2, b3⟩ := plan_bounds h1 h2 h3 hl
 have hAn := h1.nodup hT
 have hAk : (A.map (·.1)).Nodup := h1.keys.nodup_iff.2 hn
 refine ⟨hm1, hn, fun x hx => ?_, fun x hx m hm => ?_, fun x hx p hp => ?_, h2.perm.nodup_iff.2 hAn, ?_, by rw [← sumP_allT]; exact hl, b2, ?_⟩
 · have hne := h3.full (trip x) (List.mem_map_of_mem hx)
   cases hps : x.parts with
   | nil => exact absurd hps hne
   | cons p ps =>
     have h4 : Holds (S.map trip) x.mem x.top p := ⟨x.parts, List.mem_map_of_mem (f := trip) hx, by rw [hps]; simp⟩
     exact h1.keyIn ((h2.iff _ _ _).1 h4)
 · obtain ⟨t, ht, e⟩ := List.mem_map.1 (b1 x hx).1
   rw [← e]; exact ha t ht m hm
 · have h4 : Holds (S.map trip) x.mem x.top p := ⟨x.parts, List.mem_map_of_mem (f := trip) hx, hp⟩
   exact h1.all.mem_iff.1 (allOf_mem.2 ⟨_, (h2.iff _ _ _).1 h4⟩)
 · rw [← sumP_flat, ← sumP_allT, h2.perm.length_eq, h1.all.length_eq]
 · have hrow : ∀ m ∈ Ms, ∃ xs, (m.id, xs) ∈ A ∧ cntS S m.id = xs.length := fun m hm => by
    obtain ⟨r, hr, e⟩ := List.mem_map.1 (h1.keys.mem_iff.2 (List.mem_map_of_mem (f := fun m : Mem => m.id) hm))
    exact ⟨r.2, by rw [← e]; exact hr, by rw [← rowTP_len, (rowTP_perm h2 hAn hAk (by rw [← e]; exact hr)).length_eq]⟩
   intro a ha b hb
   obtain ⟨m1, hm1, rfl⟩ := List.mem_map.1 ha
   obtain ⟨m2, hm2, rfl⟩ := List.mem_map.1 hb
   obtain ⟨x1, q1, q2⟩ := hrow m1 hm1
   obtain ⟨x2, q3, q4⟩ := hrow m2 hm2
   rw [q2, q4]
   exact h1.near _ (List.mem_map_of_mem (f := fun r : ByteArray × List TP => r.2.length) q1) _ (List.mem_map_of_mem (f := fun r : ByteArray × List TP => r.2.length) q3)
end
section
open Go Go.Proofs Go.RowKit Go.Lib
open Classical
section
variable {Ms : List Mem} {Ts : List Shr} {Old : ByteArray → List TP} {Gen : ByteArray → Int}
theorem StIn.alike (h : StIn Ms Ts Old Gen) : AlikeP Ms Ts := fun t ht m hm => (h.tops m hm).mem_iff.2 (List.mem_map_of_mem ht)
end
end
section
open Go Go.Proofs Go.RowKit Go.Lib
open Classical
structure StInJ (Ms : List Mem) (Ts : List Shr) (Old : ByteArray → List TP) (Gen : ByteArray → Int) (nw : ByteArray) : Prop where
 m1 : 1 ≤ Ms.length
 m2 : Ms.length ≤ 1000
 ids : (ids Ms).Nodup
 ok : ∀ m ∈ Ms, MemOkW m
 tops : ∀ m ∈ Ms, m.tops.Perm (Ts.map (·.top))
 data : ∀ m ∈ Ms, DataIs m.data (Old m.id) (Gen m.id)
 tk : (Ts.map (·.top)).Nodup
 tl : Ts.length ≤ 12
 tn : (allT Ts).Nodup
 t0 : 0 < (allT Ts).length
 t1 : (allT Ts).length ≤ 1000
 all : (Ms.flatMap fun m => Old m.id).Perm (allT Ts)
 nwIn : nw ∈ Go.Proofs.YticcnlpfmekagaaGreat.ids Ms
 nwOld : Old nw = []
 near : ∀ m ∈ Ms, ∀ m' ∈ Ms, m.id ≠ nw → m'.id ≠ nw → (Old m.id).length ≤ (Old m'.id).length + 1
structure PlanOkJ (Ns : List ByteArray) (Old : ByteArray → List (ByteArray × Int)) (T : List (ByteArray × Int)) (nw : ByteArray) (A : Asg) : Prop where
 keys : (A.map (·.1)).Perm Ns
 all : (allOf A).Perm T
 near : Near (loads A)
 sub : ∀ m xs, (m, xs) ∈ A → m ≠ nw → ∀ p ∈ xs, p ∈ Old m
section
variable {Ms : List Mem} {Ts : List Shr} {Old : ByteArray → List TP} {Gen : ByteArray → Int}
def JoinedP (Ms Al : List Mem) (n : Nat) (Ts L : List Shr) (Old' : ByteArray → List TP) (nw : ByteArray) : Prop :=
 ∀ L2 A2, PlanOkJ (ids Al) Old' (allT Ts) nw A2 → Shows (L2.map trip) A2 → Canon ltMT (L2.map trip) → CntOk Al Ts L2 ∧ (L2.length ≤ 1000 ∧ ∀ x ∈ L2, x.parts.length ≤ 1000) ∧ ∀ m ∈ Ms.take n, keptT m.id (L2.map trip) (L.map trip) = true
theorem FitA.take (h : FitA Ms Ts) {n : Nat} (h1 : 1 ≤ n) (h2 : n ≤ Ms.length) : FitA (Ms.take n) Ts := by
 have hl : (Ms.take n).length = n := by rw [List.length_take]; omega
 have h6 := h.g.m6
 refine ⟨⟨by omega, by omega, h.g.t1, h.g.t6, h.g.tops, h.g.rises, fun m hm => h.g.mems m (List.mem_of_mem_take hm), ?_⟩, fun t ht m hm => h.a.1 t ht m (List.mem_of_mem_take hm), fun m hm => h.a.2 m (List.mem_of_mem_take hm)⟩
 exact h.g.ids.sublist ((List.take_sublist n Ms).map _)
theorem cnt_okJ {Ns : List ByteArray} {nw : ByteArray} {A : Asg} (h : PlanOkJ Ns Old (allT Ts) nw A) : PlanOk Ns (fun _ => []) (allT Ts) A := ⟨h.keys, h.all, h.near, fun _ _ _ p hp => by cases hp⟩
theorem own_uniq {Old : ByteArray → List TP} {p : TP} {m m' : Mem} : ∀ {Mo : List Mem}, (Mo.flatMap fun m => Old m.id).Nodup → m ∈ Mo → m' ∈ Mo → p ∈ Old m.id → p ∈ Old m'.id → m'.id = m.id
 | [], _, h, _, _, _ => by cases h
 | c :: Mo, hnd, hm, hm', hp, h4 => by
   rw [List.flatMap_cons, List.nodup_append] at hnd
   rcases Zmc.1 hm with e | k1 <;> rcases Zmc.1 hm' with e' | k2
   · rw [e, e']
   · subst e
     exact absurd rfl (hnd.2.2 p hp p (List.mem_flatMap.2 ⟨m', k2, h4⟩))
   · subst e'
     exact absurd rfl (hnd.2.2 p h4 p (List.mem_flatMap.2 ⟨m, k1, hp⟩))
   · exact own_uniq hnd.2.1 k1 k2 hp h4
theorem PlanL.join (h : FitA Ms Ts) {n : Nat} (hn1 : 1 ≤ n) {mn : Mem} (hmn : Ms[n]? = some mn) (hlen : Ms.length = n + 1) {L : List Shr} (hl : PlanL (Ms.take n) Ts L) {gen : Int} (hg : isI32 gen) {Mo : List Mem} (hn : Mo.length = n) (ht : ∀ (j : Nat) m m', (Ms.take n)[j]? = some m → Mo[j]? = some m' → ToldM L gen m m') :
 ∃ Old' Gen', StInJ (Mo ++ [mn]) Ts Old' Gen' mn.id ∧ JoinedP Ms (Mo ++ [mn]) n Ts L Old' mn.id := by
 have hf := h.take hn1 (by omega)
 have htl : (Ms.take n).length = n := by rw [List.length_take]; omega
 have hMs : Ms = Ms.take n ++ [mn] := by
  conv => lhs; rw [← List.take_append_drop n Ms]
  congr 1
  obtain ⟨h1, h2⟩ := List.getElem?_eq_some_iff.1 hmn
  rw [List.drop_eq_getElem_cons h1, h2, List.drop_eq_nil_of_le (by omega)]
 obtain ⟨A, h1, h2, h3⟩ := hl
 have hi32 : ∀ x ∈ L, ∀ p ∈ x.parts, isI32 p := fun x hx p hp => by
  have h4 : Holds (L.map trip) x.mem x.top p := ⟨x.parts, List.mem_map_of_mem (f := trip) hx, hp⟩
  have h5 : (x.top, p) ∈ allT Ts := h1.all.mem_iff.1 (allOf_mem.2 ⟨_, (h2.iff _ _ _).1 h4⟩)
  obtain ⟨y, hy, _, hp2⟩ := allT_mem.1 h5
  have := (h.g.tops y hy).part hp2
  unfold isI32; omega
 obtain ⟨Old1, q1, q2, q3⟩ := told_stin hf.stin h1 h2 h3 (fun t ht => by have := (h.g.tops t ht).size; omega) hi32 hg (hn.trans htl.symm) ht
 have h0 := h.stin
 have hidn : (ids Ms).Nodup := h.g.ids
 have hids : ids (Mo ++ [mn]) = ids Ms := by
  have e1 : ids (Mo ++ [mn]) = ids Mo ++ [mn.id] := by simp [ids]
  have e2 : ids Ms = ids (Ms.take n) ++ [mn.id] := (congrArg ids hMs).trans (by simp only [ids, List.map_append, List.map_cons, List.map_nil])
  rw [e1, e2, q2]
 have hnew : ∀ m ∈ Mo, m.id ≠ mn.id := fun m hm e => by
  have h4 : (ids Mo ++ [mn.id]).Nodup := by
   have e1 : ids (Mo ++ [mn]) = ids Mo ++ [mn.id] := by simp [ids]
   rw [← e1, hids]; exact hidn
  exact (List.nodup_append.1 h4).2.2 m.id (List.mem_map_of_mem (f := fun m : Mem => m.id) hm) mn.id (by simp) e
 let Old' : ByteArray → List TP := fun id => if id = mn.id then [] else Old1 id
 let Gen' : ByteArray → Int := fun id => if id = mn.id then 0 else gen
 have o1 : Old' mn.id = [] := if_pos rfl
 have o2 : ∀ m ∈ Mo, Old' m.id = Old1 m.id := fun m hm => if_neg (hnew m hm)
 have g1 : Gen' mn.id = 0 := if_pos rfl
 have g2 : ∀ m ∈ Mo, Gen' m.id = gen := fun m hm => if_neg (hnew m hm)
 have hmnM : mn ∈ Ms := List.mem_of_getElem? hmn
 have hfl : ((Mo ++ [mn]).flatMap fun m => Old' m.id) = Mo.flatMap fun m => Old1 m.id := by
  rw [List.flatMap_append, List.flatMap_cons, List.flatMap_nil, o1, List.append_nil, List.append_nil, List.flatMap_def, List.flatMap_def]
  congr 1
  exact List.map_congr_left o2
 have hAn := h1.nodup hf.stin.tn
 have hAk : (A.map (·.1)).Nodup := h1.keys.nodup_iff.2 hf.stin.ids
 have hall : (Mo.flatMap fun m => Old1 m.id).Perm (allT Ts) := by
  refine perm_of_nodup q1.nd h0.tn fun p => ⟨fun hp => ?_, fun hp => ?_⟩
  · obtain ⟨m, hm, hpm⟩ := List.mem_flatMap.1 hp
    exact q1.sub m hm p hpm
  · obtain ⟨m, hh⟩ := allOf_mem.1 (h1.all.mem_iff.2 hp)
    have hmk := h1.keyIn hh
    have h4 := q3 m hmk p hh
    rw [← q2] at hmk
    obtain ⟨m', hm', rfl⟩ := List.mem_map.1 hmk
    exact List.mem_flatMap.2 ⟨m', hm', h4⟩
 have hback : ∀ m ∈ Mo, ∀ p ∈ Old1 m.id, Has A m.id p := fun m hm p hp => by
  obtain ⟨m2, hh⟩ := allOf_mem.1 (h1.all.mem_iff.2 (q1.sub m hm p hp))
  have hmk := h1.keyIn hh
  have h4 := q3 m2 hmk p hh
  rw [← q2] at hmk
  obtain ⟨m', hm', rfl⟩ := List.mem_map.1 hmk
  have : m'.id = m.id := own_uniq q1.nd hm hm' hp h4
  rw [← this]; exact hh
 refine ⟨Old', Gen', ⟨by simp, by rw [List.length_append, hn]; have := h.g.m6; simp; omega, by rw [hids]; exact hidn, fun m hm => ?_, fun m hm => ?_, fun m hm => ?_, h0.tk, h0.tl, h0.tn, h0.t0, h0.t1, by rw [hfl]; exact hall, ?_, o1, fun m hm m' hm' hne hne' => ?_⟩, fun L2 A2 k1 k2 k3 => ⟨?_, ?_, fun m hm => ?_⟩⟩
 · rcases Zap.1 hm with hm | hm
   · exact q1.ok m hm
   · simp only [Zmc, Znn, or_false] at hm
     subst hm; exact h0.ok m hmnM
 · rcases Zap.1 hm with hm | hm
   · exact q1.tops m hm
   · simp only [Zmc, Znn, or_false] at hm
     subst hm; exact h0.tops m hmnM
 · rcases Zap.1 hm with hm | hm
   · rw [o2 m hm, g2 m hm]; exact q1.data m hm
   · simp only [Zmc, Znn, or_false] at hm
     subst hm
     rw [o1, g1]; exact h0.data m hmnM
 · unfold Go.Proofs.YticcnlpfmekagaaGreat.ids; rw [List.map_append]; simp
 · have hm2 : m ∈ Mo := by
    rcases Zap.1 hm with hm | hm
    · exact hm
    · simp only [Zmc, Znn, or_false] at hm
      subst hm; exact absurd rfl hne
   have hm3 : m' ∈ Mo := by
    rcases Zap.1 hm' with hm | hm
    · exact hm
    · simp only [Zmc, Znn, or_false] at hm
      subst hm; exact absurd rfl hne'
   rw [o2 m hm2, o2 m' hm3]
   exact q1.near _ (List.mem_map_of_mem (f := fun m : Mem => (Old1 m.id).length) hm2) _ (List.mem_map_of_mem (f := fun m : Mem => (Old1 m.id).length) hm3)
 · have hal : AlikeP (Mo ++ [mn]) Ts := fun t ht m hm => by
    rcases Zap.1 hm with hm | hm
    · exact q1.alike t ht m hm
    · simp only [Zmc, Znn, or_false] at hm
      subst hm; exact h.a.1 t ht m hmnM
   exact cnt_ok (cnt_okJ k1) k2 k3 (by rw [hids]; exact hidn) (by simp) h0.tn h0.t1 hal
 · obtain ⟨b1, b2, _⟩ := plan_bounds (cnt_okJ k1) k2 k3 h0.t1
   exact ⟨b2, fun x hx => (b1 x hx).2⟩
 · have hmi : m.id ∈ ids Mo := by rw [q2]; exact List.mem_map_of_mem (f := fun m : Mem => m.id) hm
   obtain ⟨m', hm', e⟩ := List.mem_map.1 hmi
   refine keptT_of (h2.oneT (h1.nodup h0.tn)) fun t p hh => ?_
   obtain ⟨xs, hx1, hx2⟩ := (k2.iff _ _ _).1 hh
   have h4 := k1.sub m.id xs hx1 (by rw [← e]; exact hnew m' hm') (t, p) hx2
   rw [← e, o2 m' hm'] at h4
   refine (h2.iff _ _ _).2 ?_
   rw [← e]
   exact hback m' hm' (t, p) h4
end
end
section
open Go Go.Proofs Go.RowKit Go.Lib
open Classical
def StGoodJ (Ms : List Mem) (Ts : List Shr) (Old : ByteArray → List TP) (nw : ByteArray) (P : PL) : Prop := ∃ A, Plans P A ∧ PlanOkJ (ids Ms) Old (allT Ts) nw A
theorem planW_join (w : World) (Ms : List Mem) (Ts : List Shr) (Old : ByteArray → List TP) (Gen : ByteArray → Int) (nw : ByteArray) (h : StInJ Ms Ts Old Gen nw) : PlanW 2 228 w Ms Ts (StGoodJ Ms Ts Old nw) := by
 intro w1 rm rt sp MU D hkw hMU hmet hT hD h1 h2 h3 h4 hmo hfr hcap hsp
 obtain ⟨Xs, hXs⟩ : ∃ Xs : List Md, Xs = MU.map fun x => ⟨x.1.id, x.2.1, Old x.1.id, Gen x.1.id⟩ := ⟨_, rfl⟩
 have eraw : rawMd Xs = rawMu MU := by rw [hXs]; simp [rawMd, rawMu, Function.comp_def]
 have enm : Xs.map (·.name) = ids Ms := by rw [hXs, ← hMU]; simp [ids, Function.comp_def]
 have epl : Xs.map (·.parts) = Ms.map fun m => Old m.id := by rw [hXs, ← hMU]; simp [Function.comp_def]
 have eT : topTps D = allT Ts := by rw [topTps_tops2, hD]; rfl
 have hxm : ∀ x ∈ Xs, ∃ m ∈ Ms, x.name = m.id ∧ x.parts = Old m.id := fun x hx => by
  rw [hXs] at hx
  obtain ⟨y, hy, rfl⟩ := List.mem_map.1 hx
  exact ⟨y.1, by rw [← hMU]; exact List.mem_map_of_mem hy, rfl, rfl⟩
 have ek : D.map (·.1) = Ts.map (·.top) := by
  have := congrArg (List.map (·.1)) hD
  simpa [tops2, topOf, Function.comp_def] using this
 have hfm : Xs.flatMap (·.parts) = Ms.flatMap fun m => Old m.id := by
  rw [List.flatMap_def, epl, List.flatMap_def]
 have how : Ow w1 ([Rs.blk sp (stratO 2)] ++ [Rs.map rm isStr (rawMd Xs), Rs.tops rt D]) := by
  refine ⟨fun X hX => ?_, fun g hg => ?_, ?_⟩
  · simp only [List.cons_append, List.nil_append, Zmc, Znn, or_false] at hX
    rcases hX with rfl | rfl | rfl
    · exact hsp
    · show MapAt w1 isStr rm (rawMd Xs)
      rw [eraw]; exact hmet.map
    · exact hT
  · obtain ⟨X, hX, hg⟩ := List.mem_flatMap.1 hg
    simp only [List.cons_append, List.nil_append, Zmc, Znn, or_false] at hX
    rcases hX with rfl | rfl | rfl
    · simp only [Rs.blk, Zmc, Znn, or_false] at hg; omega
    · simp only [Rs.map, Zmc, Znn, or_false] at hg; omega
    · simp only [Rs.tops, Zmc] at hg
      rcases hg with rfl | hg
      · exact h4
      · obtain ⟨x, hx, hg⟩ := List.mem_flatMap.1 hg
        exact (hfr x hx g (by simpa using hg)).2
  · have htop : ∀ g ∈ (Rs.tops rt D).foot, rt ≤ g := fun g hg => by
     simp only [Rs.tops, Zmc] at hg
     rcases hg with rfl | hg
     · exact Nat.le_refl _
     · obtain ⟨x, hx, hg⟩ := List.mem_flatMap.1 hg
       exact Nat.le_of_lt (hfr x hx g (by simpa using hg)).1
    simp only [List.cons_append, List.nil_append, List.pairwise_cons, Zmc, Znn, or_false, forall_eq_or_imp, forall_eq, false_implies, implies_true, List.Pairwise.nil, and_true]
    refine ⟨⟨fun g hg hx => ?_, fun g hg hx => ?_⟩, fun g hg hx => ?_⟩
    · simp only [Rs.blk, Rs.map, Zmc, Znn, or_false] at hg hx; omega
    · simp only [Rs.blk, Zmc, Znn, or_false] at hg
      have := htop g hx; omega
    · simp only [Rs.map, Zmc, Znn, or_false] at hg
      have := htop g hx; omega
 have hl : Xs.length = Ms.length := by have := congrArg List.length enm; simpa [ids] using this
 have hin : PlInJ Xs D nw := ⟨by rw [hl]; exact h.m1, by rw [hl]; exact h.m2, by rw [ek]; exact h.tk, by rw [eT]; exact h.tn, by rw [eT]; exact h.t0, by rw [eT]; exact h.t1, by
  have h5 := congrArg List.length ek
  have h6 := h.tl
  simp only [List.length_map] at h5; omega, by rw [hfm, eT]; exact h.all, by
  obtain ⟨m, hm, e⟩ := List.mem_map.1 h.nwIn
  have h7 : m.id ∈ Xs.map (·.name) := by rw [enm]; exact List.mem_map_of_mem (f := fun m : Mem => m.id) hm
  obtain ⟨x, hx, e2⟩ := List.mem_map.1 h7
  obtain ⟨m', _, e3, e4⟩ := hxm x hx
  refine ⟨x, hx, e2.trans e, ?_⟩
  rw [e4, ← e3, e2, e]; exact h.nwOld, fun x hx y hy h8 h9 => by
  obtain ⟨m, hm, e1, e2⟩ := hxm x hx
  obtain ⟨m', hm', e3, e4⟩ := hxm y hy
  rw [e2, e4]
  exact h.near m hm m' hm' (by rw [← e1]; exact h8) (by rw [← e3]; exact h9)⟩
 have hmd : ∀ x ∈ Xs, MdTop sp w1 D x := fun x hx => by
  rw [hXs] at hx
  obtain ⟨y, hy, rfl⟩ := List.mem_map.1 hx
  have hyM : y.1 ∈ Ms := by rw [← hMU]; exact List.mem_map_of_mem hy
  have hd := h.data y.1 hyM
  obtain ⟨⟨tv, dv, ov, ra, OL, e, _, g1, g2, _, g4, g5⟩, _⟩ := (hmet.each y hy).1
  have htf : ∃ ta tn tc, tv = .slice ta tn tc := by obtain ⟨⟨a, c, e⟩, _⟩ := g1; exact ⟨_, _, _, e⟩
  have hdf : ∃ da dn dc, dv = .slice da dn dc := by obtain ⟨a, c, e, _⟩ := g2; exact ⟨_, _, _, e⟩
  obtain ⟨ta, tn, tc, rfl⟩ := htf
  obtain ⟨da, dn, dc, rfl⟩ := hdf
  obtain ⟨oa, on, oc, rfl⟩ := own_form g4
  have hb : ∀ g, g ∈ (Value.slice ta tn tc).ownBlock.toList ++ (Value.slice da dn dc).ownBlock.toList → g ≠ sp := fun g hg e => by
   have := hmo y hy g (g5 g (by
    rcases Zap.1 hg with hg | hg
    · simp only [Zap]; exact .inl (.inl (.inl hg))
    · simp only [Zap]; exact .inl (.inl (.inr hg))))
   omega
  refine ⟨⟨y.1.ver, y.1.gen, ta, oa, da, tn, tc, dn, dc, on, oc, ra, y.1.tops, e, by rw [ek]; exact h.tops y.1 hyM, fun w' k => ⟨g1.kept k (fun g hg => by simpa using hb g (by simp [hg])), ?_⟩⟩, hd.1⟩
  exact dataIs_ud (g2.kept k (fun g hg => by simpa using hb g (by simp [hg]))) hd
 refine (plan_join nw sp rm rt Xs D w1 how hin hmd).mono ?_
 rintro e w' ⟨p, P, A, rfl, q1, q2, q3, q4, q5, q6, q7, q8⟩
 refine ⟨p, P, rfl, q1, q2, ⟨A, q3, ⟨by rw [← enm]; exact q4, by rw [← eT]; exact q5, q6, fun m xs hm hne p hp => ?_⟩⟩, q8⟩
 obtain ⟨x, hx, e⟩ := List.mem_map.1 (q4.mem_iff.1 (List.mem_map_of_mem (f := fun x : ByteArray × List TP => x.1) hm))
 simp only at e
 obtain ⟨m', _, e1, e2⟩ := hxm x hx
 have h9 := q7 x hx (by rw [e]; exact hne) xs (by rw [e]; exact hm) p hp
 rw [e2, ← e1, e] at h9; exact h9
def GrpPostJ (w : World) (Ms : List Mem) (Ts : List Shr) (Old : ByteArray → List TP) (nw : ByteArray) (e : Ending) (w' : World) : Prop :=
 ∃ (A : Asg) (L : List Shr) (a : Option Addr) (c : Nat), e = .returned (.tuple #[.slice a L.length c, .bool true]) ∧ PlanOkJ (ids Ms) Old (allT Ts) nw A ∧ Shows (L.map trip) A ∧ Canon ltMT (L.map trip) ∧ ShrsAt w' (.slice a L.length c) L ∧
  (∀ g, (Value.slice a L.length c).ownBlock = some g → w.heap.size ≤ g) ∧ (∀ x ∈ L, ∀ g, x.val.ownBlock = some g → w.heap.size ≤ g) ∧ Kept [] w w'
theorem group_join (am : Option Addr) (cm : Nat) (Ms : List Mem) (at' : Option Addr) (ct : Nat) (Ts : List Shr) (Old : ByteArray → List TP) (Gen : ByteArray → Int) (nw : ByteArray) (w : World)
 (hm : MemsAt w (.slice am Ms.length cm) Ms) (ht : ShrsAt w (.slice at' Ts.length ct) Ts) (h : StInJ Ms Ts Old Gen nw) :
 Calls Tryz.prog 18 #[.int .i64 2, .slice am Ms.length cm, .slice at' Ts.length ct] w (GrpPostJ w Ms Ts Old nw) := by
 have hsz : ∀ x ∈ Ts, x.parts.length ≤ 1000 := fun x hx => by
  have h1 := h.t1
  obtain ⟨A, B, rfl⟩ := List.append_of_mem hx
  simp only [allT, topOf, tpsOf, List.map_append, List.map_cons, List.flatMap_append, List.flatMap_cons, List.length_append, List.length_map] at h1
  omega
 refine (groupPlan_w 2 (by omega) 228 planMeth2 am cm Ms at' ct Ts (StGoodJ Ms Ts Old nw) w hm h.ok h.ids h.m2 h.m1 ht (by have := h.tl; omega) h.tk hsz (fun w' _ => planW_join w' Ms Ts Old Gen nw h) (fun P hP m hmM => ?_)).mono ?_
 · obtain ⟨A, hPl, hOk⟩ := hP
   obtain ⟨y, hy, e⟩ := List.mem_map.1 (hOk.keys.mem_iff.2 (List.mem_map_of_mem (f := fun m : Mem => m.id) hmM))
   obtain ⟨r, D, h1, h2, h3, h4⟩ := hPl.row y.1 y.2 hy
   rw [e] at h1
   have hTm : ∀ p ∈ y.2, p ∈ allT Ts := fun p hp => hOk.all.mem_iff.1 (allOf_mem.2 ⟨y.1, y.2, hy, hp⟩)
   have hlen : y.2.length ≤ 1000 := by
    have h5 := hOk.all.length_eq
    have h6 := h.t1
    obtain ⟨C1, C2, e2⟩ := List.append_of_mem hy
    rw [e2] at h5
    simp only [allOf, List.flatMap_append, List.flatMap_cons, List.length_append] at h5
    omega
   refine ⟨r, D, h1, ?_, fun x hx => ?_⟩
   · have h5 : (D.map (·.1)).length ≤ (Ts.map (·.top)).length := sub_len h3 (fun t htm => by
      obtain ⟨d, hd, rfl⟩ := List.mem_map.1 htm
      cases hps : d.2.2 with
      | nil => exact absurd hps (h4 d hd)
      | cons q qs =>
        have h6 : (d.1, q) ∈ topTps D := List.mem_flatMap.2 ⟨d, hd, List.mem_map.2 ⟨q, by rw [hps]; simp, rfl⟩⟩
        have h7 := hTm _ (h2.mem_iff.1 h6)
        obtain ⟨z, hz, h8⟩ := List.mem_flatMap.1 h7
        obtain ⟨x, hx, rfl⟩ := List.mem_map.1 hz
        obtain ⟨q', _, e3⟩ := List.mem_map.1 h8
        exact List.mem_map.2 ⟨x, hx, (Prod.mk.inj e3).1⟩)
     simp only [List.length_map] at h5
     have := h.tl; omega
   · have h5 := parts_le hx
     have h6 := h2.length_eq
     omega
 · rintro e w' ⟨P, LL, a, c, rfl, ⟨A, hPl, hOk⟩, hout, hsh, ho1, ho2, hk⟩
   have hpn := sortedNames_perm (ids Ms)
   have hk1 : (sortedNames (ids Ms)).Perm (A.map (·.1)) := hpn.trans hOk.keys.symm
   exact ⟨A, LL.flatten, a, c, rfl, hOk, outS_shows hout hPl hk1 (hpn.nodup_iff.2 h.ids), outS_canon hout hPl hk1 (sortedNames_lt h.ids), hsh, ho1, ho2, hk⟩
end
end Go.Proofs.YticcnlpfmekagaaGreat
