/- Part 43 of the proof of the row: StGroup, StGroupC, Open. -/
import Derived.Test.YticcnlpfmekagaaGreatRc00
import Derived.Test.YticcnlpfmekagaaGreatRc28
import Derived.Test.YticcnlpfmekagaaGreatRc42
import Derived.Test.YticcnlpfmekagaaGreatRc10
import Derived.Deep.Slices
import Derived.ProofKit
import Derived.OpenShut
import Derived.ShutString
import Derived.ChangeOld
import Derived.Below
import Derived.SizedLaws
set_option linter.unusedVariables false
set_option linter.unusedSimpArgs false
set_option maxRecDepth 100000
set_option maxHeartbeats 8000000
namespace Go.Proofs.YticcnlpfmekagaaGreat
section
open Go Go.Proofs Go.RowKit Go.Lib
open Classical
theorem encV1_v1 (L : Tops) (gen : Int) : encV1 L gen = v1Bytes (tops2 L) gen := by
 unfold encV1 v1Bytes
 have : encTs L = (tops2 L).flatMap encTP := by
  unfold tops2
  rw [List.flatMap_map]
  rfl
 rw [this]; simp [tops2]
def DataIs (data : List Value) (parts : List TP) (gen : Int) : Prop :=
 isI32 gen ∧ ((data = [] ∧ parts = [] ∧ gen = 0) ∨ ∃ D, data = v1Bytes D gen ∧ parts = D.flatMap tpsOf ∧ (D.map (·.1)).Nodup ∧ (∀ x ∈ D, TPOk x) ∧ D.length ≤ 1000 ∧ (D.flatMap tpsOf).length ≤ 1000 ∧ (v1Bytes D gen).length ≤ 1000000)
def allT (Ts : List Shr) : List TP := (Ts.map topOf).flatMap tpsOf
structure StIn (Ms : List Mem) (Ts : List Shr) (Old : ByteArray → List TP) (Gen : ByteArray → Int) : Prop where
 m1 : 1 ≤ Ms.length
 m2 : Ms.length ≤ 1000
 ids : (ids Ms).Nodup
 ok : ∀ m ∈ Ms, MemOkW m
 tops : ∀ m ∈ Ms, m.tops.Perm (Ts.map (·.top))
 data : ∀ m ∈ Ms, DataIs m.data (Old m.id) (Gen m.id)
 tk : (Ts.map (·.top)).Nodup
 tl : Ts.length ≤ 12
 tn : (allT Ts).Nodup
 t0 : 0 < (allT Ts).length
 t1 : (allT Ts).length ≤ 1000
 nd : (Ms.flatMap fun m => Old m.id).Nodup
 sub : ∀ m ∈ Ms, ∀ p ∈ Old m.id, p ∈ allT Ts
 near : Near (Ms.map fun m => (Old m.id).length)
end
section
open Go Go.Proofs Go.RowKit Go.Lib
open Classical
def ownS (m : Mem) : List TP := (m.owned.map owOf).flatMap tpsOf
structure StInC (Ms : List Mem) (Ts : List Shr) : Prop where
 m1 : 1 ≤ Ms.length
 m2 : Ms.length ≤ 1000
 ids : (ids Ms).Nodup
 ok : ∀ m ∈ Ms, MemOkW m
 tops : ∀ m ∈ Ms, m.tops.Perm (Ts.map (·.top))
 ver : ∀ m ∈ Ms, 2 ≤ m.ver
 gen : ∀ m ∈ Ms, isI32 m.gen
 tk : (Ts.map (·.top)).Nodup
 tl : Ts.length ≤ 12
 tn : (allT Ts).Nodup
 t0 : 0 < (allT Ts).length
 t1 : (allT Ts).length ≤ 1000
 nd : (Ms.flatMap ownS).Nodup
 sub : ∀ m ∈ Ms, ∀ p ∈ ownS m, p ∈ allT Ts
structure PlanOkC (Ms : List Mem) (T : List TP) (A : Asg) : Prop where
 keys : (A.map (·.1)).Perm (Go.Proofs.YticcnlpfmekagaaGreat.ids Ms)
 nd : (allOf A).Nodup
 sub : ∀ q ∈ allOf A, q ∈ T
 held : ∀ m ps q, (m, ps) ∈ A → q ∈ ps → ∀ y ∈ Ms, q ∈ ownS y → y.id = m
 free : ∀ q ∈ T, (∀ y ∈ Ms, q ∉ ownS y) → ∃ m ps, (m, ps) ∈ A ∧ q ∈ ps
def StGoodC (Ms : List Mem) (Ts : List Shr) (P : PL) : Prop := ∃ A, Plans P A ∧ PlanOkC Ms (allT Ts) A
theorem planW_coop (w : World) (Ms : List Mem) (Ts : List Shr) (h : StInC Ms Ts) : PlanW 3 228 w Ms Ts (StGoodC Ms Ts) := by
 intro w1 rm rt sp MU D hkw hMU hmet hT hD h1 h2 h3 h4 hmo hfr hcap hsp
 obtain ⟨Xs, hXs⟩ : ∃ Xs : List Md, Xs = MU.map fun x => ⟨x.1.id, x.2.1, ownS x.1, x.1.gen⟩ := ⟨_, rfl⟩
 have eraw : rawMd Xs = rawMu MU := by rw [hXs]; simp [rawMd, rawMu, Function.comp_def]
 have enm : Xs.map (·.name) = ids Ms := by rw [hXs, ← hMU]; simp [ids, Function.comp_def]
 have epl : Xs.map (·.parts) = Ms.map ownS := by rw [hXs, ← hMU]; simp [Function.comp_def]
 have eT : topTps D = allT Ts := by rw [topTps_tops2, hD]; rfl
 have hxm : ∀ x ∈ Xs, ∃ m ∈ Ms, x.name = m.id ∧ x.parts = ownS m := fun x hx => by
  rw [hXs] at hx
  obtain ⟨y, hy, rfl⟩ := List.mem_map.1 hx
  exact ⟨y.1, by rw [← hMU]; exact List.mem_map_of_mem hy, rfl, rfl⟩
 have ek : D.map (·.1) = Ts.map (·.top) := by
  have := congrArg (List.map (·.1)) hD
  simpa [tops2, topOf, Function.comp_def] using this
 have hfm : Xs.flatMap (·.parts) = Ms.flatMap ownS := by
  rw [List.flatMap_def, epl, List.flatMap_def]
 have how : Ow w1 ([Rs.blk sp (stratO 3)] ++ [Rs.map rm isStr (rawMd Xs), Rs.tops rt D]) := by
  refine ⟨fun X hX => ?_, fun g hg => ?_, ?_⟩
  · simp only [List.cons_append, List.nil_append, Zmc, Znn, or_false] at hX
    rcases hX with rfl | rfl | rfl
    · exact hsp
    · show MapAt w1 isStr rm (rawMd Xs)
      rw [eraw]; exact hmet.map
    · exact hT
  · obtain ⟨X, hX, hg⟩ := List.mem_flatMap.1 hg
    simp only [List.cons_append, List.nil_append, Zmc, Znn, or_false] at hX
    rcases hX with rfl | rfl | rfl
    · simp only [Rs.blk, Zmc, Znn, or_false] at hg; omega
    · simp only [Rs.map, Zmc, Znn, or_false] at hg; omega
    · simp only [Rs.tops, Zmc] at hg
      rcases hg with rfl | hg
      · exact h4
      · obtain ⟨x, hx, hg⟩ := List.mem_flatMap.1 hg
        exact (hfr x hx g (by simpa using hg)).2
  · have htop : ∀ g ∈ (Rs.tops rt D).foot, rt ≤ g := fun g hg => by
     simp only [Rs.tops, Zmc] at hg
     rcases hg with rfl | hg
     · exact Nat.le_refl _
     · obtain ⟨x, hx, hg⟩ := List.mem_flatMap.1 hg
       exact Nat.le_of_lt (hfr x hx g (by simpa using hg)).1
    simp only [List.cons_append, List.nil_append, List.pairwise_cons, Zmc, Znn, or_false, forall_eq_or_imp, forall_eq, false_implies, implies_true, List.Pairwise.nil, and_true]
    refine ⟨⟨fun g hg hx => ?_, fun g hg hx => ?_⟩, fun g hg hx => ?_⟩
    · simp only [Rs.blk, Rs.map, Zmc, Znn, or_false] at hg hx; omega
    · simp only [Rs.blk, Zmc, Znn, or_false] at hg
      have := htop g hx; omega
    · simp only [Rs.map, Zmc, Znn, or_false] at hg
      have := htop g hx; omega
 have hl : Xs.length = Ms.length := by have := congrArg List.length enm; simpa [ids] using this
 have hin : PlInC Xs D := ⟨by rw [hl]; exact h.m1, by rw [hl]; exact h.m2, by rw [ek]; exact h.tk, by rw [eT]; exact h.tn, by rw [eT]; exact h.t0, by rw [eT]; exact h.t1, by
  have h5 := congrArg List.length ek
  have h6 := h.tl
  simp only [List.length_map] at h5; omega, by rw [hfm]; exact h.nd, fun x hx p hp => by
  obtain ⟨m, hm, _, e⟩ := hxm x hx
  rw [eT]
  exact h.sub m hm p (by rw [← e]; exact hp)⟩
 have hmd : ∀ x ∈ Xs, MdTopC sp w1 D x := fun x hx => by
  rw [hXs] at hx
  obtain ⟨y, hy, rfl⟩ := List.mem_map.1 hx
  have hyM : y.1 ∈ Ms := by rw [← hMU]; exact List.mem_map_of_mem hy
  obtain ⟨⟨tv, dv, ov, ra, OL, e, eo, g1, g2, g3, g4, g5⟩, _⟩ := (hmet.each y hy).1
  have htf : ∃ ta tn tc, tv = .slice ta tn tc := by obtain ⟨⟨a, c, e⟩, _⟩ := g1; exact ⟨_, _, _, e⟩
  have hdf : ∃ da dn dc, dv = .slice da dn dc := by obtain ⟨a, c, e, _⟩ := g2; exact ⟨_, _, _, e⟩
  obtain ⟨ta, tn, tc, rfl⟩ := htf
  obtain ⟨da, dn, dc, rfl⟩ := hdf
  obtain ⟨oa, on, oc, rfl⟩ := own_form g4
  have hon : OL.length = on := (own_len g4).symm
  have hot : owTps OL = ownS y.1 := by unfold owTps ownS; rw [eo]
  have hb : ∀ g, g ∈ (Value.slice ta tn tc).ownBlock.toList ++ (Value.slice da dn dc).ownBlock.toList ++ footO OL ++ (Value.slice oa on oc).ownBlock.toList → g ≠ sp := fun g hg e => by
   have := hmo y hy g (g5 g hg)
   omega
  have hol : on ≤ 1000 := by
   have q1 := (h.ok y.1 hyM).olen
   have q2 := congrArg List.length eo
   simp only [ow2, List.length_map] at q2
   omega
  have hob : (owTps OL).length ≤ 100000 := by
   rw [hot]
   have q1 : (ownS y.1).length ≤ (allT Ts).length := by
    refine sub_len ?_ (fun p hp => h.sub y.1 hyM p hp)
    have q2 := h.nd
    obtain ⟨Q1, Q2, rfl⟩ := List.append_of_mem hyM
    rw [List.flatMap_append, List.flatMap_cons, List.nodup_append, List.nodup_append] at q2
    exact q2.2.1.1
   have := h.t1
   omega
  have hrow : ∀ w', Kept [sp] w1 w' → SlAt w' 1 (.slice oa on oc) on (ptrsO OL) ∧ ∀ z ∈ OL, OwAt w' z := fun w' k => by
   refine ⟨?_, fun z hz => ?_⟩
   · have q1 := own_kept g4 k (fun g hg => by simpa using hb g (by simp [hg]))
     rw [hon] at q1
     exact own_sl q1 (fun u hu => by
      obtain ⟨z, _, rfl⟩ := List.mem_map.1 hu
      rfl)
   · obtain ⟨q1, q2⟩ := g3 z hz
     have hf : ∀ g ∈ z.2.1 :: z.2.2.1.ownBlock.toList, g ∈ footO OL := fun g hg => List.mem_flatMap.2 ⟨z, hz, hg⟩
     exact ⟨k.heap q1 (by simpa using hb _ (by simp only [Zap]; exact .inl (.inr (hf _ (by simp))))), q2.kept k (fun g hg => by simpa using hb _ (by simp only [Zap]; exact .inl (.inr (hf _ (by simp [hg])))))⟩
  refine ⟨⟨y.1.ver, y.1.gen, ta, oa, da, tn, tc, dn, dc, on, oc, ra, y.1.tops, e, by rw [ek]; exact h.tops y.1 hyM, fun w' k => ⟨g1.kept k (fun g hg => by simpa using hb g (by simp [hg])), fun w2 k2 => ?_, by omega, ?_⟩⟩, h.gen y.1 hyM⟩
  · have hk2 : Kept [sp] w1 w2 := k.trans k2 (U := [sp]) (fun _ h => h) (by simp)
    have q := co_data y.1.ver y.1.gen (.slice ta tn tc) (.slice da dn dc) ta oa tn tc on oc da dn dc ra OL w2 (h.ver y.1 hyM) (hrow w2 hk2).1 hon (hrow w2 hk2).2 (by omega) hob
    rw [hot] at q
    simp only at e ⊢
    rw [e]; exact q
  · have q := own_parts oa on oc OL w' (hrow w' k).1 hon (hrow w' k).2 (by omega) hob
    refine q.mono ?_
    rintro e2 w2 ⟨v, N, rfl, q1, q2⟩
    rw [hot] at q1 q2
    exact ⟨v, N, rfl, q1, q2⟩
 refine (plan_coop sp rm rt Xs D w1 how hin hmd).mono ?_
 rintro e w' ⟨p, P, A, rfl, q1, q2, q3, q4, q5, q6, q7, q8, q9⟩
 have hmx : ∀ m ∈ Ms, ∃ x ∈ Xs, x.name = m.id ∧ x.parts = ownS m := fun m hm => by
  rw [← hMU] at hm
  obtain ⟨y, hy, rfl⟩ := List.mem_map.1 hm
  exact ⟨_, by rw [hXs]; exact List.mem_map_of_mem hy, rfl, rfl⟩
 refine ⟨p, P, rfl, q1, q2, ⟨A, q3, ⟨by rw [← enm]; exact q4, q5, fun q hq => by rw [← eT]; exact q6 q hq, fun m ps q h1 h2 y hy hyq => ?_, fun q hq hno => ?_⟩⟩, q9⟩
 · obtain ⟨x, hx, e1, e2⟩ := hmx y hy
   rw [← e1]
   exact q7 m ps q h1 h2 x hx (by rw [e2]; exact hyq)
 · refine q8 q (by rw [eT]; exact hq) (fun x hx h1 => ?_)
   obtain ⟨m, hm, _, e2⟩ := hxm x hx
   exact hno m hm (by rw [← e2]; exact h1)
theorem planMeth3 : IsMeth 177 "Plan" 228 := ⟨fun a w => by kernel_rfl, fun a w => by kernel_rfl, fun a w => by kernel_rfl⟩
def GrpPostC (w : World) (Ms : List Mem) (Ts : List Shr) (e : Ending) (w' : World) : Prop :=
 ∃ (A : Asg) (L : List Shr) (a : Option Addr) (c : Nat), e = .returned (.tuple #[.slice a L.length c, .bool true]) ∧ PlanOkC Ms (allT Ts) A ∧ Shows (L.map trip) A ∧ Canon ltMT (L.map trip) ∧ ShrsAt w' (.slice a L.length c) L ∧
  (∀ g, (Value.slice a L.length c).ownBlock = some g → w.heap.size ≤ g) ∧ (∀ x ∈ L, ∀ g, x.val.ownBlock = some g → w.heap.size ≤ g) ∧ Kept [] w w'
theorem group_coop (am : Option Addr) (cm : Nat) (Ms : List Mem) (at' : Option Addr) (ct : Nat) (Ts : List Shr) (w : World)
 (hm : MemsAt w (.slice am Ms.length cm) Ms) (ht : ShrsAt w (.slice at' Ts.length ct) Ts) (h : StInC Ms Ts) :
 Calls Tryz.prog 18 #[.int .i64 3, .slice am Ms.length cm, .slice at' Ts.length ct] w (GrpPostC w Ms Ts) := by
 have hsz : ∀ x ∈ Ts, x.parts.length ≤ 1000 := fun x hx => by
  have h1 := h.t1
  obtain ⟨A, B, rfl⟩ := List.append_of_mem hx
  simp only [allT, topOf, tpsOf, List.map_append, List.map_cons, List.flatMap_append, List.flatMap_cons, List.length_append, List.length_map] at h1
  omega
 refine (groupPlan_w 3 (by omega) 228 planMeth3 am cm Ms at' ct Ts (StGoodC Ms Ts) w hm h.ok h.ids h.m2 h.m1 ht (by have := h.tl; omega) h.tk hsz (fun w' _ => planW_coop w' Ms Ts h) (fun P hP m hmM => ?_)).mono ?_
 · obtain ⟨A, hPl, hOk⟩ := hP
   obtain ⟨y, hy, e⟩ := List.mem_map.1 (hOk.keys.mem_iff.2 (List.mem_map_of_mem (f := fun m : Mem => m.id) hmM))
   obtain ⟨r, D, h1, h2, h3, h4⟩ := hPl.row y.1 y.2 hy
   rw [e] at h1
   have hTm : ∀ p ∈ y.2, p ∈ allT Ts := fun p hp => hOk.sub p (allOf_mem.2 ⟨y.1, y.2, hy, hp⟩)
   have hlen : y.2.length ≤ 1000 := by
    have h6 := h.t1
    have h5 : y.2.length ≤ (allT Ts).length := by
     refine sub_len ?_ hTm
     have q1 := hOk.nd
     obtain ⟨C1, C2, e2⟩ := List.append_of_mem hy
     rw [e2] at q1
     simp only [allOf, List.flatMap_append, List.flatMap_cons, List.nodup_append] at q1
     exact q1.2.1.1
    omega
   refine ⟨r, D, h1, ?_, fun x hx => ?_⟩
   · have h5 : (D.map (·.1)).length ≤ (Ts.map (·.top)).length := sub_len h3 (fun t htm => by
      obtain ⟨d, hd, rfl⟩ := List.mem_map.1 htm
      cases hps : d.2.2 with
      | nil => exact absurd hps (h4 d hd)
      | cons q qs =>
        have h6 : (d.1, q) ∈ topTps D := List.mem_flatMap.2 ⟨d, hd, List.mem_map.2 ⟨q, by rw [hps]; simp, rfl⟩⟩
        have h7 := hTm _ (h2.mem_iff.1 h6)
        obtain ⟨z, hz, h8⟩ := List.mem_flatMap.1 h7
        obtain ⟨x, hx, rfl⟩ := List.mem_map.1 hz
        obtain ⟨q', _, e3⟩ := List.mem_map.1 h8
        exact List.mem_map.2 ⟨x, hx, (Prod.mk.inj e3).1⟩)
     simp only [List.length_map] at h5
     have := h.tl; omega
   · have h5 := parts_le hx
     have h6 := h2.length_eq
     omega
 · rintro e w' ⟨P, LL, a, c, rfl, ⟨A, hPl, hOk⟩, hout, hsh, ho1, ho2, hk⟩
   have hpn := sortedNames_perm (ids Ms)
   have hk1 : (sortedNames (ids Ms)).Perm (A.map (·.1)) := hpn.trans hOk.keys.symm
   exact ⟨A, LL.flatten, a, c, rfl, hOk, outS_shows hout hPl hk1 (hpn.nodup_iff.2 h.ids), outS_canon hout hPl hk1 (sortedNames_lt h.ids), hsh, ho1, ho2, hk⟩
end
section
open Go Go.Proofs Go.RowKit Go.Deep
open Go.WideShapes (add_plain)
section
variable {H : Type} {enc : TypeId × Value → H} {w : World}
theorem flat_get {α : Type} {f : α → List Value} {sz : Nat} (hsz : 0 < sz) {L : List α} (hl : ∀ x ∈ L, (f x).length = sz) : ∀ {j : Nat} {u : Value}, (L.flatMap f)[j]? = some u → ∃ i r x, r < sz ∧ j = i * sz + r ∧ L[i]? = some x ∧ (f x)[r]? = some u := by
 induction L with
 | nil => intro j u h; simp at h
 | cons y L ih =>
   intro j u h
   have hy := hl y (by simp)
   rw [List.flatMap_cons] at h
   by_cases hj : j < sz
   · rw [List.getElem?_append_left (by omega)] at h
     exact ⟨0, j, y, hj, by omega, rfl, h⟩
   · rw [List.getElem?_append_right (by omega), hy] at h
     obtain ⟨i, r, x, h1, h2, h3, h4⟩ := ih (fun x hx => hl x (by simp [hx])) h
     refine ⟨i + 1, r, x, h1, ?_, by simpa using h3, h4⟩
     rw [Nat.add_mul]; omega
theorem flat_len {α : Type} {f : α → List Value} {sz : Nat} {L : List α} (hl : ∀ x ∈ L, (f x).length = sz) : (L.flatMap f).length = L.length * sz := by
 induction L with
 | nil => simp
 | cons y L ih => rw [List.flatMap_cons, List.length_append, hl y (by simp), ih (fun x hx => hl x (by simp [hx])), List.length_cons, Nat.add_mul]; omega
theorem spot_none {a : Addr} {v : Value} (h : w.cell? a = some v) : ∃ b o, a = ⟨b, o, none⟩ := by
 obtain ⟨b, o, s⟩ := a
 have := World.cell?_spot h
 simp at this
 subst this
 exact ⟨b, o, rfl⟩
theorem open_sl {α : Type} [Inhabited α] {t e : TypeId} {sz fuel : Nat} {a : Value} {x : DataW H × List MemPlace} (ht : Tryz.prog.underlying t = some (.slice e)) (hc : Tryz.prog.cellsOf e = sz) (hpos : 0 < sz)
 (h : DataW.trod enc Tryz.prog w 0 (fun _ => true) true fuel t [a] = some x) (f : α → List Value) (Ok : α → Prop)
 (hel : ∀ (cs : List Value) (n : Nat) (y : DataW H × List MemPlace), DataW.trod enc Tryz.prog w 0 (fun _ => true) true n e cs = some y → ∃ z, cs = f z ∧ Ok z) (hone : ∀ z, Ok z → ∀ u ∈ f z, u.oneCell' = true) :
 ∃ L : List α, (∃ b c, a = .slice b L.length c) ∧ SlAt w sz a L.length (L.flatMap f) ∧ (∀ z ∈ L, Ok z) ∧ L.length ≤ maxLen := by
 rcases open_slice ht h with ⟨h0, _⟩ | ⟨ad, len, cap, m, n, D, Pl, h0, hb, hl, hm, hmm, rfl, hx⟩
 · simp only [List.cons.injEq, and_true] at h0
   subst h0
   exact ⟨[], ⟨none, 0, rfl⟩, SlAt.nil _ _, by simp, by simp [maxLen]⟩
 · simp only [List.cons.injEq, and_true] at h0
   subst h0
   simp only [if_true] at hmm
   obtain rfl : m = cap := hmm
   rw [hc] at hx
   obtain ⟨g, hg⟩ := choose_lt (α := α) (p := fun i z => w.cells? 0 (ad.add (i * sz)) sz = some (f z) ∧ Ok z) (fun i hi => by
    obtain ⟨cs', h1, h2⟩ := hx i hi
    obtain ⟨z, rfl, hz⟩ := hel _ _ _ h2
    exact ⟨z, h1, hz⟩)
   have hlen : ∀ i, i < m → (f (g i)).length = sz := fun i hi => (World.cells?_some (hg i hi).1).2.1
   have hLl : ((List.range len).map g).length = len := by simp
   have hLf : ∀ z ∈ (List.range len).map g, (f z).length = sz ∧ Ok z := by
    intro z hz
    obtain ⟨i, hi, rfl⟩ := List.mem_map.1 hz
    have := List.mem_range.1 hi
    exact ⟨hlen i (by omega), (hg i (by omega)).2⟩
   refine ⟨(List.range len).map g, ⟨some ad, m, by rw [hLl]⟩, ⟨?_, ?_, ?_⟩, fun z hz => (hLf z hz).2, by omega⟩
   · exact flat_len (fun z hz => (hLf z hz).1)
   · intro u hu
     obtain ⟨z, hz, hu⟩ := List.mem_flatMap.1 hu
     exact hone z (hLf z hz).2 u hu
   · rw [hLl]
     by_cases h0 : len = 0
     · exact .inl ⟨some ad, m, by rw [h0], h0⟩
     · right
       have hcell : ∀ i r, i < len → r < sz → ∀ u, (f (g i))[r]? = some u → w.cell? (ad.add (i * sz + r)) = some u := by
        intro i r hi hr u hu
        have := (World.cells?_some (hg i (by omega)).1).2.2 r hr
        rw [add_add] at this
        rw [this, ← hu]
       have h00 : 0 < (f (g 0)).length := by rw [hlen 0 (by omega)]; exact hpos
       have hc0 := hcell 0 0 (by omega) hpos _ (List.getElem?_eq_getElem h00)
       obtain ⟨b, o, e1⟩ := spot_none hc0
       have e2 : ad = ⟨b, o, none⟩ := by simpa [Addr.add] using e1
       subst e2
       refine ⟨b, o, m, rfl, fun j u hj => ?_⟩
       obtain ⟨i, r, z, hr, rfl, hz, hu⟩ := flat_get hpos (fun z hz => (hLf z hz).1) hj
       have hi : i < len := by have := (List.getElem?_eq_some_iff.1 hz).1; simpa using this
       have : z = g i := by
        rw [List.getElem?_map, List.getElem?_range hi] at hz
        simpa using hz.symm
       subst this
       have := hcell i r hi hr u hu
       rwa [add_plain] at this
theorem cells5 : Tryz.prog.cellsOf 5 = 1 := by kernel_rfl
theorem cells9 : Tryz.prog.cellsOf 9 = 1 := by kernel_rfl
theorem cells21 : Tryz.prog.cellsOf 21 = 1 := by kernel_rfl
theorem cells23 : Tryz.prog.cellsOf 23 = 1 := by kernel_rfl
theorem cells26 : Tryz.prog.cellsOf 26 = 1 := by kernel_rfl
theorem cells27 : Tryz.prog.cellsOf 27 = 1 := by kernel_rfl
theorem cells28 : Tryz.prog.cellsOf 28 = 1 := by kernel_rfl
theorem cells30 : Tryz.prog.cellsOf 30 = 8 := by kernel_rfl
theorem cells31 : Tryz.prog.cellsOf 31 = 1 := by kernel_rfl
theorem cells33 : Tryz.prog.cellsOf 33 = 3 := by kernel_rfl
theorem cells4 : Tryz.prog.cellsOf 4 = 1 := by kernel_rfl
theorem flat_single {α β : Type} (L : List α) (f : α → β) : (L.flatMap fun x => [f x]) = L.map f := by induction L <;> simp_all
theorem wf_i32 {n : Int} (h : (Lit.int .i32 n).wf = true) : isI32 n := by
 simp [Lit.wf, IntKind.min, IntKind.max, IntKind.signed, IntKind.bits] at h
 unfold isI32; omega
theorem wf_u8 {n : Int} (h : (Lit.int .u8 n).wf = true) : 0 ≤ n ∧ n < 256 := by
 simp [Lit.wf, IntKind.min, IntKind.max, IntKind.signed, IntKind.bits] at h
 omega
theorem open_i32s {fuel : Nat} {a : Value} {x : DataW H × List MemPlace} (h : DataW.trod enc Tryz.prog w 0 (fun _ => true) true fuel 31 [a] = some x) : ∃ xs, SlInts w a xs ∧ xs.length ≤ maxLen := by
 obtain ⟨L, h1, h2, h3, h4⟩ := open_sl (α := Int) Tryz.underlying31 cells21 (by omega) h (fun n => [.int .i32 n]) isI32 (fun cs n y hy => by
  obtain ⟨z, rfl, _, hz⟩ := DataW.trod_int Tryz.underlying21 hy
  exact ⟨z, rfl, wf_i32 hz⟩) (fun z _ u hu => by simp at hu; subst hu; rfl)
 rw [flat_single] at h2
 exact ⟨L, ⟨h1, h2, h3⟩, h4⟩
theorem open_u8s {fuel : Nat} {a : Value} {x : DataW H × List MemPlace} (h : DataW.trod enc Tryz.prog w 0 (fun _ => true) true fuel 28 [a] = some x) : ∃ xs : List Int, (∃ b c, a = .slice b xs.length c) ∧ SlAt w 1 a xs.length (xs.map (.int .u8)) ∧ (∀ x ∈ xs, 0 ≤ x ∧ x < 256) ∧ xs.length ≤ maxLen := by
 obtain ⟨L, h1, h2, h3, h4⟩ := open_sl (α := Int) Tryz.underlying28 cells5 (by omega) h (fun n => [.int .u8 n]) (fun x => 0 ≤ x ∧ x < 256) (fun cs n y hy => by
  obtain ⟨z, rfl, _, hz⟩ := DataW.trod_int Tryz.underlying5 hy
  exact ⟨z, rfl, wf_u8 hz⟩) (fun z _ u hu => by simp at hu; subst hu; rfl)
 rw [flat_single] at h2
 exact ⟨L, h1, h2, h3, h4⟩
theorem open_strsL {fuel : Nat} {a : Value} {x : DataW H × List MemPlace} (h : DataW.trod enc Tryz.prog w 0 (fun _ => true) true fuel 27 [a] = some x) : ∃ xs : List ByteArray, SlStrs w a xs ∧ xs.length ≤ maxLen ∧ ∀ x ∈ xs, x.size ≤ maxLen := by
 obtain ⟨L, h1, h2, h3, h4⟩ := open_sl (α := ByteArray) Tryz.underlying27 cells9 (by omega) h (fun n => [.string n]) (fun x => x.size ≤ maxLen) (fun cs n y hy => by
  obtain ⟨z, rfl, _, hz⟩ := DataW.trod_string Tryz.underlying9 hy
  exact ⟨z, rfl, hz⟩) (fun z _ u hu => by simp at hu; subst hu; rfl)
 rw [flat_single] at h2
 exact ⟨L, ⟨h1, h2⟩, h4, h3⟩
instance : Inhabited Shr := ⟨⟨⟨#[]⟩, ⟨#[]⟩, undef, []⟩⟩
instance : Inhabited Mem := ⟨⟨⟨#[]⟩, 0, undef, [], undef, [], undef, [], 0, ⟨#[]⟩, false⟩⟩
theorem len3 {cs : List Value} (h : cs.length = 3) : ∃ a b c, cs = [a, b, c] := by
 match cs, h with
 | [a, b, c], _ => exact ⟨a, b, c, rfl⟩
theorem len8 {cs : List Value} (h : cs.length = 8) : ∃ a b c d e f g i, cs = [a, b, c, d, e, f, g, i] := by
 match cs, h with
 | [a, b, c, d, e, f, g, i], _ => exact ⟨a, b, c, d, e, f, g, i, rfl⟩
theorem fld {fs : Array Field} {k : Nat} {cs : List Value} {xs : List (DataW H × List MemPlace)}
 (hf : ∀ (i : Nat) (f : Field), fs[i]? = some f → DataW.trod enc Tryz.prog w 0 (fun _ => true) true k f.type ((cs.drop f.offset).take (Tryz.prog.cellsOf f.type)) = xs[i]?) {i T o : Nat} (f : Field) (h1 : fs[i]? = some f) (h2 : f.type = T) (h3 : f.offset = o)
 (hc : Tryz.prog.cellsOf T = 1) : DataW.trod enc Tryz.prog w 0 (fun _ => true) true k T ((cs.drop o).take 1) = xs[i]? := by
 subst h2 h3
 have := hf i f h1
 rwa [hc] at this
theorem open_shrs {fuel : Nat} {a : Value} {x : DataW H × List MemPlace} (h : DataW.trod enc Tryz.prog w 0 (fun _ => true) true fuel 23 [a] = some x) : ∃ L : List Shr, ShrsAt w a L ∧ L.length ≤ maxLen ∧ (∀ z ∈ L, z.mem.size ≤ maxLen ∧ z.top.size ≤ maxLen ∧ z.parts.length ≤ maxLen) := by
 obtain ⟨L, h1, h2, h3, h4⟩ := open_sl (α := Shr) Tryz.underlying23 cells33 (by omega) h shrCells (fun z => SlInts w z.val z.parts ∧ z.mem.size ≤ maxLen ∧ z.top.size ≤ maxLen ∧ z.parts.length ≤ maxLen) (fun cs n y hy => by
  obtain ⟨xs, k, rfl, _, hcl, hxl, hf⟩ := DataW.trod_struct Tryz.underlying33 hy
  rw [cells33] at hcl
  have f0 := fld hf (i := 0) (T := 9) (o := 0) _ rfl rfl rfl cells9
  have f1 := fld hf (i := 1) (T := 9) (o := 1) _ rfl rfl rfl cells9
  have f2 := fld hf (i := 2) (T := 31) (o := 2) _ rfl rfl rfl cells31
  obtain ⟨y0, hy0⟩ : ∃ y0, xs[0]? = some y0 := ⟨_, List.getElem?_eq_getElem (by simp at hxl; omega)⟩
  obtain ⟨y1, hy1⟩ : ∃ y0, xs[1]? = some y0 := ⟨_, List.getElem?_eq_getElem (by simp at hxl; omega)⟩
  obtain ⟨y2, hy2⟩ : ∃ y0, xs[2]? = some y0 := ⟨_, List.getElem?_eq_getElem (by simp at hxl; omega)⟩
  rw [hy0] at f0
  rw [hy1] at f1
  rw [hy2] at f2
  obtain ⟨c0, c1, c2, rfl⟩ := len3 hcl
  obtain ⟨s0, e0, _, z0⟩ := DataW.trod_string Tryz.underlying9 f0
  obtain ⟨s1, e1, _, z1⟩ := DataW.trod_string Tryz.underlying9 f1
  simp at e0 e1
  subst e0 e1
  obtain ⟨ps, hps, hpl⟩ := open_i32s (a := c2) (by simpa using f2)
  exact ⟨⟨s0, s1, c2, ps⟩, rfl, hps, z0, z1, hpl⟩) (fun z hz u hu => by
  obtain ⟨⟨b, c, hv⟩, _⟩ := hz.1
  simp [shrCells, hv] at hu
  rcases hu with rfl | rfl | rfl <;> rfl)
 exact ⟨L, ⟨h1, h2, fun z hz => (h3 z hz).1⟩, h4, fun z hz => (h3 z hz).2⟩
structure MemRd (w : World) (z : Mem) : Prop where
 at_ : MemAt w z
 id : z.id.size ≤ maxLen
 ver : (Lit.int .i16 z.ver).wf = true
 gen : isI32 z.gen
 rack : z.rack.size ≤ maxLen
 data : ∀ u ∈ z.data, ∃ q, u = .int .u8 q ∧ 0 ≤ q ∧ q < 256
 ln : z.tops.length ≤ maxLen ∧ z.data.length ≤ maxLen ∧ z.owned.length ≤ maxLen
 ow : ∀ x ∈ z.owned, x.mem.size ≤ maxLen ∧ x.top.size ≤ maxLen ∧ x.parts.length ≤ maxLen
 tsz : ∀ x ∈ z.tops, x.size ≤ maxLen
theorem mem_one {z : Mem} (h : MemAt w z) : ∀ u ∈ memCells z, u.oneCell' = true := by
 intro u hu
 obtain ⟨⟨a1, c1, e1⟩, _⟩ := h.tops
 obtain ⟨⟨a2, c2, e2⟩, _⟩ := h.data
 obtain ⟨a3, c3, e3⟩ := h.owned.form
 simp [memCells, e1, e2, e3] at hu
 rcases hu with rfl | rfl | rfl | rfl | rfl | rfl | rfl | rfl <;> rfl
end
end
end Go.Proofs.YticcnlpfmekagaaGreat
