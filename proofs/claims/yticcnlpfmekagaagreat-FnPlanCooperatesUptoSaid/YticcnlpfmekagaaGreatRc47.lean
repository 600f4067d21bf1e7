/- Part 47 of the proof of the row: StRnd, Cnt, Kept, Range. -/
import Derived.Test.YticcnlpfmekagaaGreatRc00
import Derived.Test.YticcnlpfmekagaaGreatRc45
import Derived.Test.YticcnlpfmekagaaGreatRc46
import Derived.Test.YticcnlpfmekagaaGreatRc44
import Derived.Test.YticcnlpfmekagaaGreatRc22
import Derived.Test.YticcnlpfmekagaaGreatRc25
set_option linter.unusedVariables false
set_option linter.unusedSimpArgs false
set_option maxRecDepth 100000
set_option maxHeartbeats 8000000
namespace Go.Proofs.YticcnlpfmekagaaGreat
section
open Go Go.Proofs Go.RowKit Go.Lib
open Classical
structure FitA (Ms : List Mem) (Ts : List Shr) : Prop where
 g : GFit Ms Ts
 a : AskP Ms Ts
section
variable {Ms : List Mem} {Ts : List Shr}
theorem RisesS.nodup {L : List Shr} (h : RisesS L) : (L.map (·.top)).Nodup :=
 List.pairwise_map.2 (List.Pairwise.imp (fun {x y} hlt e => by rw [e, topLt_swo.irrefl] at hlt; cases hlt) h)
theorem perm_of_sub {α : Type} {L K : List α} (hK : K.Nodup) (hL : L.Nodup) (hs : ∀ x ∈ K, x ∈ L) (hl : L.length = K.length) : L.Perm K := by
 refine perm_of_nodup hL hK fun x => ⟨fun hx => ?_, hs x⟩
 refine Classical.byContradiction fun hn => ?_
 have h1 := sub_len (L := x :: K) (K := L) (List.nodup_cons.2 ⟨hn, hK⟩) (fun y hy => by
  rcases Zmc.1 hy with rfl | hy
  · exact hx
  · exact hs y hy)
 simp only [List.length_cons] at h1
 omega
theorem FitA.tops (h : FitA Ms Ts) {m : Mem} (hm : m ∈ Ms) : m.tops.Perm (Ts.map (·.top)) := by
 refine perm_of_sub h.g.rises.nodup (h.g.mems m hm).nd (fun t ht => ?_) (by rw [h.a.2 m hm, List.length_map])
 obtain ⟨x, hx, rfl⟩ := List.mem_map.1 ht
 exact h.a.1 x hx m hm
theorem allT_mem {t : ByteArray} {p : Int} : (t, p) ∈ allT Ts ↔ ∃ x ∈ Ts, x.top = t ∧ p ∈ x.parts := by
 unfold allT
 rw [List.flatMap_map, List.mem_flatMap]
 constructor
 · rintro ⟨x, hx, h⟩
   obtain ⟨q, hq, e⟩ := List.mem_map.1 h
   obtain ⟨e1, e2⟩ := Prod.mk.inj e
   exact ⟨x, hx, e1, by rw [← e2]; exact hq⟩
 · rintro ⟨x, hx, e1, hp⟩
   exact ⟨x, hx, List.mem_map.2 ⟨p, hp, by rw [← e1]; rfl⟩⟩
theorem allT_cons (x : Shr) (L : List Shr) : allT (x :: L) = tpsOf (topOf x) ++ allT L := by simp [allT]
theorem allT_nodup : ∀ {L : List Shr}, (L.map (·.top)).Nodup → (∀ x ∈ L, x.parts.Nodup) → (allT L).Nodup
 | [], _, _ => List.nodup_nil
 | x :: L, hn, hp => by
   rw [List.map_cons, List.nodup_cons] at hn
   rw [allT_cons]
   refine List.nodup_append.2 ⟨List.Pairwise.map _ (fun a b hab e => hab (Prod.mk.inj e).2) (hp x (by simp)), allT_nodup hn.2 (fun y hy => hp y (by simp [hy])), fun a ha b hb e => ?_⟩
   subst e
   obtain ⟨q, _, rfl⟩ := List.mem_map.1 ha
   obtain ⟨y, hy, e1, _⟩ := allT_mem.1 hb
   exact hn.1 (List.mem_map.2 ⟨y, hy, e1⟩)
theorem allT_len : ∀ {L : List Shr}, (∀ x ∈ L, x.parts.length ≤ 10) → (allT L).length ≤ L.length * 10
 | [], _ => by simp [allT]
 | x :: L, h => by
   have h1 := allT_len (L := L) (fun y hy => h y (by simp [hy]))
   have h2 := h x (by simp)
   have h3 : (tpsOf (topOf x)).length = x.parts.length := by simp [tpsOf, topOf]
   rw [allT_cons, List.length_append, List.length_cons]
   omega
theorem TopFit.nodup {x : Shr} (h : TopFit x) : x.parts.Nodup := by
 rw [h.range]
 exact List.Pairwise.map _ (fun a b hab e => hab (Int.ofNat.inj e)) List.nodup_range
theorem TopFit.part {x : Shr} (h : TopFit x) {p : Int} (hp : p ∈ x.parts) : 0 ≤ p ∧ p < 10 := by
 rw [h.range] at hp
 obtain ⟨k, hk, rfl⟩ := List.mem_map.1 hp
 have h1 := List.mem_range.1 hk
 have h2 := h.p2
 exact ⟨Int.natCast_nonneg k, by show ((k : Nat) : Int) < 10; omega⟩
theorem FitA.stin (h : FitA Ms Ts) : StIn Ms Ts (fun _ => []) (fun _ => 0) := by
 have hl := allT_len (L := Ts) (fun x hx => (h.g.tops x hx).p2)
 have h6 := h.g.t6
 refine ⟨h.g.m1, by have := h.g.m6; omega, h.g.ids, fun m hm => ?_, fun m hm => h.tops hm, fun m hm => ⟨by unfold isI32; omega, .inl ⟨(h.g.mems m hm).data, rfl, rfl⟩⟩, h.g.rises.nodup, by omega, allT_nodup h.g.rises.nodup (fun x hx => (h.g.tops x hx).nodup), ?_, by omega, ?_, fun m hm p hp => ?_, ?_⟩
 · have hf := h.g.mems m hm
   exact ⟨by have := hf.tops; omega, by rw [hf.data]; simp, by rw [hf.owned]; simp, by rw [hf.owned]; simp⟩
 · have h1 := h.g.t1
   cases Ts with
   | nil => simp at h1
   | cons x L =>
     have h2 := (h.g.tops x (by simp)).p1
     have h3 : (tpsOf (topOf x)).length = x.parts.length := by simp [tpsOf, topOf]
     rw [allT_cons, List.length_append]
     omega
 · have : (Ms.flatMap fun m => ([] : List TP)) = [] := by simp
   rw [this]; exact List.nodup_nil
 · cases hp
 · intro a ha b hb
   obtain ⟨_, _, rfl⟩ := List.mem_map.1 ha
   exact Nat.zero_le _
def PlanL (Ms : List Mem) (Ts : List Shr) (L : List Shr) : Prop := ∃ A, PlanOk (ids Ms) (fun _ => []) (allT Ts) A ∧ Shows (L.map trip) A ∧ Canon ltMT (L.map trip)
theorem PlanOk.none {Ns : List ByteArray} {Old : ByteArray → List TP} {T : List TP} {A : Asg} (h : PlanOk Ns Old T A) : PlanOk Ns (fun _ => []) T A := ⟨h.keys, h.all, h.near, fun _ _ _ p hp => by cases hp⟩
theorem PlanL.own (h : FitA Ms Ts) {L : List Shr} (hl : PlanL Ms Ts L) (gen : Int) (id : ByteArray) : OwnOk L gen id := by
 obtain ⟨A, h1, h2, h3⟩ := hl
 exact own_ok h1 h2 h3 h.stin.t1 h.stin.tl (fun t ht => by have := (h.g.tops t ht).size; omega) gen id
theorem PlanL.len (h : FitA Ms Ts) {L : List Shr} (hl : PlanL Ms Ts L) : L.length ≤ 1000 ∧ ∀ x ∈ L, x.parts.length ≤ 1000 := by
 obtain ⟨A, h1, h2, h3⟩ := hl
 obtain ⟨b1, b2, _⟩ := plan_bounds h1 h2 h3 h.stin.t1
 exact ⟨b2, fun x hx => (b1 x hx).2⟩
theorem PlanL.next (h : FitA Ms Ts) {L : List Shr} (hl : PlanL Ms Ts L) {gen : Int} (hg : isI32 gen) {Ms' : List Mem} (hn : Ms'.length = Ms.length) (ht : ∀ (j : Nat) m m', Ms[j]? = some m → Ms'[j]? = some m' → ToldM L gen m m') :
 ∃ Old', StIn Ms' Ts Old' (fun _ => gen) ∧ ∀ L2 A2, PlanOk (ids Ms') Old' (allT Ts) A2 → Shows (L2.map trip) A2 → Canon ltMT (L2.map trip) → PlanL Ms Ts L2 ∧ ∀ m ∈ ids Ms, keptT m (L.map trip) (L2.map trip) = true ∧ keptT m (L2.map trip) (L.map trip) = true := by
 obtain ⟨A, h1, h2, h3⟩ := hl
 have hi32 : ∀ x ∈ L, ∀ p ∈ x.parts, isI32 p := fun x hx p hp => by
  have h4 : Holds (L.map trip) x.mem x.top p := ⟨x.parts, List.mem_map_of_mem (f := trip) hx, hp⟩
  have h5 : (x.top, p) ∈ allT Ts := h1.all.mem_iff.1 (allOf_mem.2 ⟨_, (h2.iff _ _ _).1 h4⟩)
  obtain ⟨y, hy, _, hp2⟩ := allT_mem.1 h5
  have := (h.g.tops y hy).part hp2
  unfold isI32; omega
 obtain ⟨Old', q1, q2, q3⟩ := told_stin h.stin h1 h2 h3 (fun t ht => by have := (h.g.tops t ht).size; omega) hi32 hg hn ht
 refine ⟨Old', q1, fun L2 A2 g1 g2 g3 => ?_⟩
 rw [q2] at g1
 refine ⟨⟨A2, g1.none, g2, g3⟩, fun m hm => ⟨kept_fwd h2 g2 g1 h.stin.tn hm (q3 m hm), kept_bwd h2 g2 h1 g1 h.stin.tn q3 m⟩⟩
end
end
section
open Go Go.Proofs Go.RowKit Go.Lib
open Classical
def cntS (L : List Shr) (id : ByteArray) : Nat := (L.map fun x => if x.mem = id then x.parts.length else 0).sum
def sumP (L : List Shr) : Nat := (L.map fun x => x.parts.length).sum
def cntRow0 (Ms : List Mem) (L : List Shr) : List Value := Ms.map fun m => .int .i64 ((cntS L m.id : Nat) : Int)
theorem sumP_append (A B : List Shr) : sumP (A ++ B) = sumP A + sumP B := by simp [sumP]
theorem sumP_flat : ∀ (S : List Shr), (flatT (S.map trip)).length = sumP S := fun S => by rw [flatT_length]; simp [sumP, trip, Function.comp_def]
theorem sumP_allT : ∀ (L : List Shr), (allT L).length = sumP L
 | [] => rfl
 | x :: L => by
   have h3 : (tpsOf (topOf x)).length = x.parts.length := by simp [tpsOf, topOf]
   rw [allT_cons, List.length_append, sumP_allT L, h3]; rfl
theorem mem_flatT_of {S : List Shr} {n : Nat} {y : Shr} {v : Int} (hy : S[n]? = some y) (hv : v ∈ y.parts) : (y.top, v) ∈ flatT (S.map trip) :=
 flatT_mem.2 ⟨y.mem, y.parts, List.mem_map_of_mem (f := trip) (List.mem_of_getElem? hy), hv⟩
theorem no_dbl {S : List Shr} (hn : (flatT (S.map trip)).Nodup) {n i m k : Nat} {x y : Shr} {v z : Int} (hy : S[n]? = some y) (hx : S[i]? = some x) (hv : y.parts[m]? = some v) (hz : x.parts[k]? = some z)
 (hlt : n < i ∨ (n = i ∧ m < k)) (ht : y.top = x.top) : v ≠ z := by
 intro e
 subst e
 rcases hlt with h | ⟨rfl, h⟩
 · have hs : S = S.take i ++ S.drop i := (List.take_append_drop i S).symm
   rw [hs, List.map_append] at hn
   have hfa : flatT ((S.take i).map trip ++ (S.drop i).map trip) = flatT ((S.take i).map trip) ++ flatT ((S.drop i).map trip) := by unfold flatT; exact List.flatMap_append
   rw [hfa, List.nodup_append] at hn
   have h1 : (y.top, v) ∈ flatT ((S.take i).map trip) := mem_flatT_of (n := n) (by rw [List.getElem?_take, if_pos h]; exact hy) (List.mem_of_getElem? hv)
   have h2 : (x.top, v) ∈ flatT ((S.drop i).map trip) := mem_flatT_of (n := 0) (by rw [List.getElem?_drop]; exact hx) (List.mem_of_getElem? hz)
   exact hn.2.2 _ h1 _ h2 (by rw [ht])
 · rw [hx] at hy; cases hy
   have hp := flatT_part hn (List.mem_map_of_mem (f := trip) (List.mem_of_getElem? hx))
   have hl := (List.getElem?_eq_some_iff.1 hv).1
   have := (List.getElem?_inj hl hp).1 (show x.parts[m]? = x.parts[k]? by rw [hv, hz])
   omega
theorem rowTP_len (S : List Shr) (id : ByteArray) : (rowTP S id).length = cntS S id := by
 unfold rowTP ownOf cntS
 induction S with
 | nil => rfl
 | cons x S ih =>
   simp only [List.filter_cons, List.map_cons, List.sum_cons]
   by_cases h : x.mem = id
   · simp only [h, decide_true, if_true, List.map_cons, List.flatMap_cons, List.length_append]
     rw [ih]
     simp [tpsOf, topOf]
   · simp only [h, decide_false, Bool.false_eq_true, if_false, Nat.zero_add]
     exact ih
structure CntOk (Ms : List Mem) (Ts S : List Shr) : Prop where
 n1 : 1 ≤ Ms.length
 nd : (ids Ms).Nodup
 mem : ∀ x ∈ S, x.mem ∈ ids Ms
 wants : ∀ x ∈ S, ∀ m ∈ Ms, x.top ∈ m.tops
 top : ∀ x ∈ S, ∀ p ∈ x.parts, (x.top, p) ∈ allT Ts
 flat : (flatT (S.map trip)).Nodup
 all : sumP S = sumP Ts
 b1 : sumP Ts ≤ 1000
 b2 : S.length ≤ 1000
 near : Near (Ms.map fun m => cntS S m.id)
theorem cnt_ok {Ms : List Mem} {Ts : List Shr} {Old : ByteArray → List TP} {A : Asg} {S : List Shr} (h1 : PlanOk (ids Ms) Old (allT Ts) A) (h2 : Shows (S.map trip) A) (h3 : Canon ltMT (S.map trip)) (hn : (ids Ms).Nodup) (hm1 : 1 ≤ Ms.length) (hT : (allT Ts).Nodup) (hl : (allT Ts).length ≤ 1000) (ha : AlikeP Ms Ts) : CntOk Ms Ts S := by
 obtain ⟨b1, b2, b3⟩ := plan_bounds h1 h2 h3 hl
 have hAn := h1.nodup hT
 have hAk : (A.map (·.1)).Nodup := h1.keys.nodup_iff.2 hn
 refine ⟨hm1, hn, fun x hx => ?_, fun x hx m hm => ?_, fun x hx p hp => ?_, h2.perm.nodup_iff.2 hAn, ?_, by rw [← sumP_allT]; exact hl, b2, ?_⟩
 · have hne := h3.full (trip x) (List.mem_map_of_mem hx)
   cases hps : x.parts with
   | nil => exact absurd hps hne
   | cons p ps =>
     have h4 : Holds (S.map trip) x.mem x.top p := ⟨x.parts, List.mem_map_of_mem (f := trip) hx, by rw [hps]; simp⟩
     exact h1.keyIn ((h2.iff _ _ _).1 h4)
 · obtain ⟨t, ht, e⟩ := List.mem_map.1 (b1 x hx).1
   rw [← e]; exact ha t ht m hm
 · have h4 : Holds (S.map trip) x.mem x.top p := ⟨x.parts, List.mem_map_of_mem (f := trip) hx, hp⟩
   exact h1.all.mem_iff.1 (allOf_mem.2 ⟨_, (h2.iff _ _ _).1 h4⟩)
 · rw [← sumP_flat, ← sumP_allT, h2.perm.length_eq, h1.all.length_eq]
 · have hrow : ∀ m ∈ Ms, ∃ xs, (m.id, xs) ∈ A ∧ cntS S m.id = xs.length := fun m hm => by
    obtain ⟨r, hr, e⟩ := List.mem_map.1 (h1.keys.mem_iff.2 (List.mem_map_of_mem (f := fun m : Mem => m.id) hm))
    exact ⟨r.2, by rw [← e]; exact hr, by rw [← rowTP_len, (rowTP_perm h2 hAn hAk (by rw [← e]; exact hr)).length_eq]⟩
   intro a ha b hb
   obtain ⟨m1, hm1, rfl⟩ := List.mem_map.1 ha
   obtain ⟨m2, hm2, rfl⟩ := List.mem_map.1 hb
   obtain ⟨x1, q1, q2⟩ := hrow m1 hm1
   obtain ⟨x2, q3, q4⟩ := hrow m2 hm2
   rw [q2, q4]
   exact h1.near _ (List.mem_map_of_mem (f := fun r : ByteArray × List TP => r.2.length) q1) _ (List.mem_map_of_mem (f := fun r : ByteArray × List TP => r.2.length) q3)
end
section
open Go Go.Proofs Go.RowKit Go.Lib
open Classical
def HR2 (w : World) (x : Shr) (t : ByteArray) (p : Int) (pn : Nat) (i : Value) (wr : World) : Prop := wr = w ∧ ∃ j : Nat, i = .int .i64 j ∧ j ≤ pn ∧ ¬ (x.top = t ∧ p ∈ x.parts.take j)
def KR1 (w : World) (n : Nat) (i : Value) (wr : World) : Prop := Kept [] w wr ∧ ∃ k : Nat, i = .int .i64 k ∧ k ≤ n
end
section
open Go Go.Proofs Go.RowKit
theorem add_one (p : Nat) (m t : ByteArray) (a : Option Addr) (c : Nat) (xs : List Int) (w : World) (hp : MapAt w isStr p []) (hx : SlInts w (.slice a xs.length c) xs) (h1 : 1 ≤ xs.length) (h2 : xs.length ≤ 1000) :
 Calls Tryz.prog 93 #[.map (some p), .string m, .string t, .slice a xs.length c] w fun e w' => e = .returned (.tuple #[]) ∧ (∃ r v, PlanAt w' p [(m, r, [(t, v, xs)])] ∧ w.heap.size ≤ r ∧ (∀ g, v.ownBlock = some g → w.heap.size ≤ g ∧ g < w'.heap.size)) ∧ Kept [p] w w' := by
 have hpl := hp.lt
 have hmk : ∀ w : World, (Instr.makeMap 90 (some (.int .i64 1))).run Tryz.prog w = .ok (.map (some w.heap.size)) (w.alloc (.map #[] 0)) := fun w => by
  simp [Instr.makeMap, go_sem]
 have hlk := map_lookup_miss (P := Tryz.prog) hp (keyT_str Tryz.underlying9) Tryz.underlying82 (k := .string m) ⟨_, rfl⟩ (by simp) (Tryz.zeroValue90 w) true
 simp only [if_true] at hlk
 have HP := Zhd hp; clear hp
 have HX := Zhd hx; clear hx
 have hne : ¬ ((xs.length : Int) = 0) := by omega
 go_enter Tryz.func93, Tryz.ntmps93
 go_upto_region 4 with (first | (refine wl_update (kv := .string m) (vv := .map (some w.heap.size)) rfl rfl rfl rfl rfl (keyT_str Tryz.underlying9) Tryz.underlying82 (HP.out.alloc _) ⟨_, rfl⟩ ?_; intro w2 hm2 hk2 hs2) | fail)
 rw [putE_miss (by simp), List.nil_append] at hm2
 have hpr : w.heap.size ≠ p := by omega
 have hr2 : MapAt w2 isStr w.heap.size [] := (MapAt.new w isStr).kept hk2 (by simp; omega)
 have hk02 : Kept [p] w w2 := ((Kept.refl [p] w).alloc _).trans hk2 (by simp) (by simp)
 have hl1 : ∀ w', MapAt w' isStr p [(.string m, .map (some w.heap.size))] → (Instr.lookup 82 (.map (some p)) (.string m) false).run Tryz.prog w' = .ok (.map (some w.heap.size)) w' := fun w' h' => by
  have h1 := map_lookup_hit (P := Tryz.prog) h' (keyT_str Tryz.underlying9) Tryz.underlying82 (k := .string m) (v := .map (some w.heap.size)) (by simp) false
  simpa using h1
 have hl2 := map_lookup_miss (P := Tryz.prog) (w := w2.drew) hr2.drew (keyT_str Tryz.underlying9) Tryz.underlying90 (k := .string t) ⟨_, rfl⟩ (by simp) (Tryz.zeroValue31 _) false
 simp only [Bool.false_eq_true, if_false] at hl2
 have hgp : ∀ g, (Value.slice a xs.length c).ownBlock = some g → g ≠ p := by
  rintro g hg rfl
  obtain ⟨_, hcase⟩ := HX.out.2.1.cases
  rcases hcase with ⟨_, h0, _⟩ | ⟨g', off, rfl, hcell⟩
  · omega
  · simp only [Value.ownBlock, Option.some.injEq] at hg
    subst hg
    obtain ⟨es, ck, hh, _⟩ := HP.out
    have := hcell 0 (.int .i32 xs[0]) (by simp [i32s])
    simp [World.cell?, hh] at this
 have hsl2 := HX.out.2.1.kept hk02 (fun g hg => by have := hgp g hg; simpa using this)
 have hsrc := (SlAt.drew hsl2).src Tryz.underlying31
 have HSRC := Zhd hsrc; clear hsrc
 have HR2 := Zhd hr2; clear hr2
 have hs02 := hk02.size
 have hs2' := hs2
 simp only [World.size_alloc] at hs2'
 go_region_held3 (fun w' => MapAt w' isStr p [(.string m, .map (some w.heap.size))])
  (first | exact hm4 | exact hm3 | exact hm2.drew | fail)
  (first
    | (refine sl_app (v := .slice none 0 0) rfl rfl elI32 rfl rfl (own_nil _ _) HSRC.out (by omega) (by omega) ?_
       intro v' w3 hown3 hk3 hd3
       have hk3' : Kept [] w2 w3 := by simpa [Value.ownBlock] using hk3.of_drew
       have hm3 := hm2.kept hk3' (by simp)
       have hr3 := HR2.out.kept hk3' (by simp))
    | (refine up_update (fun _ _ => rfl) (keyT_str Tryz.underlying9) Tryz.underlying90 hr3 ⟨_, rfl⟩ ?_
       intro w4 hm5 hk4 hs4
       have hm4 := hm3.kept hk4 (by simp; omega))
    | fail)
 all_goals
  go_end0
  rw [putE_miss (by simp)] at hm5
  rw [List.nil_append, Nat.zero_add] at hown3
  have hs3 := hk3'.size
  have hvo : ∀ g, v'.ownBlock = some g → g = w2.heap.size ∧ g < w3.heap.size := fun g hg => by
   rcases hd3 with ⟨h1, h2⟩ | ⟨h1, h2⟩
   · rw [h1] at hg; simp [Value.ownBlock] at hg
   · rw [h1] at hg; simp only [Option.some.injEq, World.size_drew] at hg h2; omega
  refine ⟨rfl, ⟨w.heap.size, v', ⟨by simpa [rawP] using hm4, fun x hx => ?_⟩, Nat.le_refl _, fun g hg => by have := hvo g hg; omega⟩, ?_⟩
  · simp only [Zmc, Znn, or_false] at hx
    subst hx
    refine ⟨by simpa [rawT] using hm5, fun y hy => ?_⟩
    simp only [Zmc, Znn, or_false] at hy
    subst hy
    have hsl3 := own_sl hown3 (by intro u hu; obtain ⟨z, _, rfl⟩ := List.mem_map.1 hu; rfl)
    refine SlInts.kept ⟨?_, hsl3, HX.out.2.2⟩ hk4 (fun g hg => by have := hvo g hg; simp; omega)
    rcases hsl3.2.2 with ⟨a', c', e1, e2⟩ | ⟨g', off', c', e1, _⟩
    · rw [e1, e2]; exact ⟨_, _, rfl⟩
    · rw [e1]; exact ⟨_, _, rfl⟩
  · exact (hk02.trans hk3' (U := [p]) (by simp) (by simp)).trans hk4 (by simp) (by simp <;> omega)
theorem min_zero (w : World) : Calls Tryz.prog 92 #[.float .f64 0, .float .f64 0] w fun e w' => e = .returned (.float .f64 0) ∧ w = w' := by
 have ha : ∀ w : World, (callFunc 118 #[.float .f64 0, .float .f64 0]).run Tryz.prog w = .ok (.value (.float .f64 0)) w := fun w => by kernel_rfl
 go_enter Tryz.func92, Tryz.ntmps92
 go_wp2
 go_ret
 exact ⟨rfl, rfl⟩
theorem sort_strings_one (v : Value) (m : ByteArray) (w : World) (hown : w.ownsRow 0 9 1 v 1 (strs [m])) : ∃ g c, v = .slice (some ⟨g, 0, none⟩) 1 c ∧ g < w.heap.size ∧
 Calls Tryz.prog 91 #[v] w fun e w' => e = .returned (.tuple #[]) ∧ w'.ownsRow 0 9 1 v 1 (strs [m]) ∧ Kept [g] w w' := by
 obtain ⟨g, c, rfl, hg, hs⟩ := sort_names v 1 [m] w hown (Nat.le_refl _) (by omega)
 have h1 : sortedNames [m] = [m] := by
  have := sortedNames_perm [m]
  exact List.perm_singleton.1 this
 rw [h1] at hs
 have HS := Zhd hs; clear hs
 refine ⟨g, c, rfl, hg, ?_⟩
 clear hown h1
 go_enter Tryz.func91, Tryz.ntmps91
 go_wp2_with (go_at_call 48; refine HS.out.mono ?_; rintro e w1 ⟨rfl, h2, h3⟩)
 go_end0
 exact ⟨rfl, h2, h3⟩
theorem range_core (p : Nat) (m t : ByteArray) (v : Value) (a : Option Addr) (c : Nat) (w : World) (hp : MapAt w isStr p []) (hx : SlInts w (.slice a 2 c) [0, 1]) (hc : 2 ≤ c) (hown : w.ownsRow 0 9 1 v 1 (strs [m])) (hvp : ∀ g, v.ownBlock = some g → g ≠ p ∧ ∀ g', a.map (·.block) = some g' → g ≠ g') :
 Calls Tryz.prog 90 #[.map (some p), v, .string t, .slice a 2 c] w fun e w' => e = .returned (.tuple #[]) ∧ (∃ r u, PlanAt w' p [(m, r, [(t, u, [0, 1])])] ∧ w.heap.size ≤ r ∧ (∀ g, u.ownBlock = some g → w.heap.size ≤ g ∧ g < w'.heap.size)) ∧ Kept (p :: v.ownBlock.toList) w w' := by
 obtain ⟨g, cn, rfl, hg, hsort⟩ := sort_strings_one v m w hown
 have hcv : ∀ w : World, (convert 3 161 (.int .i64 0)).run Tryz.prog w = .ok (.float .f64 0) w := fun w => by kernel_rfl
 have hcw : ∀ w : World, (convert 161 3 (.float .f64 0)).run Tryz.prog w = .ok (.int .i64 0) w := fun w => by kernel_rfl
 have HS := Zhd hsort; clear hsort
 have HX := Zhd hx; clear hx
 have HP := Zhd hp; clear hp
 have hvp' := hvp g rfl
 obtain ⟨ga, off, rfl⟩ : ∃ ga off, a = some ⟨ga, off, none⟩ := by
  obtain ⟨_, hcase⟩ := HX.out.2.1.cases
  rcases hcase with ⟨_, h0, _⟩ | ⟨g', off, h, _⟩
  · simp at h0
  · exact ⟨g', off, h⟩
 have hga : g ≠ ga := hvp'.2 ga rfl
 have hgp := hvp'.1
 have hci : (2 : Int) ≤ (c : Int) := by omega
 clear hvp hvp'
 go_enter Tryz.func90, Tryz.ntmps90
 go_upto_region 3 with (first | (go_at_call 91; refine HS.out.mono ?_; rintro e w1 ⟨rfl, hown1, hk1⟩) | fail)
 have hp1 := HP.out.kept hk1 (by simp; exact fun h => hgp h.symm)
 have hx1 := HX.out.kept hk1 (fun g' hg' => by simp only [Value.ownBlock, Option.some.injEq] at hg'; subst hg'; simp; exact fun h => hga h.symm)
 have hnm : w1.cell? ⟨g, 0, none⟩ = some (.string m) := by
  have h1 := (own_sl hown1 (strs_one _)).cell (j := 0) (u := .string m) rfl
  simpa using h1
 have hadd : ∀ c', Calls Tryz.prog 93 #[.map (some p), .string m, .string t, .slice (some ⟨ga, off, none⟩) 2 c'] w1 _ := fun c' => add_one p m t (some ⟨ga, off, none⟩) c' [0, 1] w1 hp1 ⟨⟨_, _, rfl⟩, ⟨hx1.2.1.1, hx1.2.1.2.1, .inr ⟨ga, off, c', rfl, fun j u hj => hx1.2.1.cell hj⟩⟩, hx1.2.2⟩ (by simp) (by simp)
 have HADD := Zhd hadd; clear hadd
 have hs1 := hk1.size
 have HK1 := Zhd hk1; clear hk1
 clear hp1 hx1 hown1
 go_wp2_with fail
 go_loopw [29] (fun i wr => (i = .int .i64 0 ∧ wr = w1) ∨ (i = .int .i64 1 ∧ ((∃ r u, PlanAt wr p [(m, r, [(t, u, [0, 1])])] ∧ w.heap.size ≤ r ∧ (∀ g, u.ownBlock = some g → w.heap.size ≤ g ∧ g < wr.heap.size)) ∧ Kept [p, g] w wr))) (fun i _ => 1 - (intOf i).toNat)
 case atStart => exact .inl ⟨rfl, rfl⟩
 case round =>
  rcases hrel with ⟨rfl, rfl⟩ | ⟨rfl, hpost⟩
  · have hmin := min_zero
    have HMIN := Zhd hmin; clear hmin
    go_wp2_with (first
     | (go_at_call 92; refine (HMIN.out _).mono ?_; rintro e w2 ⟨rfl, rfl⟩)
     | (go_at_call 93; refine (HADD.out _).mono ?_; rintro e w3 ⟨rfl, ⟨r, u, hpl, hr, hu⟩, hk3⟩)
     | fail)
    refine ⟨.inr ⟨rfl, ⟨r, u, hpl, by omega, fun g' hg' => by have := hu g' hg'; omega⟩, HK1.out.trans hk3 (by simp) (by simp)⟩, by simp [intOf]⟩
  · have HPO := Zhd hpost; clear hpost
    go_wp2_with fail
    go_end0
    exact ⟨rfl, HPO.out.1, by simpa [Value.ownBlock] using HPO.out.2⟩
end
end Go.Proofs.YticcnlpfmekagaaGreat
