/- Part 48 of 51 of the proof of the row: the texts StRnd, Kept, Range. -/
import Derived.Test.YticcnlpfmekagaaGreatRd45
import Derived.Test.YticcnlpfmekagaaGreatRd47
import Derived.Test.YticcnlpfmekagaaGreatRd43
import Derived.Test.YticcnlpfmekagaaGreatRd33
import Derived.Test.YticcnlpfmekagaaGreatRd36
namespace Go.Proofs.YticcnlpfmekagaaGreat
open Go Go.Proofs Go.RowKit Go.Lib
open Classical
set_option linter.unusedVariables false
set_option linter.unusedSimpArgs false

/-! ## A round of the sticky strategy: plain Lean -/
structure FitA (Ms : List Mem) (Ts : List Shr) : Prop where
  g : GFit Ms Ts
  a : AskP Ms Ts

section
variable {Ms : List Mem} {Ts : List Shr}
theorem RisesS.nodup {L : List Shr} (h : RisesS L) : (L.map (·.top)).Nodup :=
  List.pairwise_map.2 (List.Pairwise.imp (fun {x y} hlt e => by rw [e, topLt_swo.irrefl] at hlt; cases hlt) h)
theorem perm_of_sub {α : Type} {L K : List α} (hK : K.Nodup) (hL : L.Nodup) (hs : ∀ x ∈ K, x ∈ L) (hl : L.length = K.length) : L.Perm K := by
  refine perm_of_nodup hL hK fun x => ⟨fun hx => ?_, hs x⟩
  refine Classical.byContradiction fun hn => ?_
  have h1 := sub_len (L := x :: K) (K := L) (List.nodup_cons.2 ⟨hn, hK⟩) (fun y hy => by
    rcases List.mem_cons.1 hy with rfl | hy
    · exact hx
    · exact hs y hy)
  simp only [List.length_cons] at h1
  omega
theorem FitA.tops (h : FitA Ms Ts) {m : Mem} (hm : m ∈ Ms) : m.tops.Perm (Ts.map (·.top)) := by
  refine perm_of_sub h.g.rises.nodup (h.g.mems m hm).nd (fun t ht => ?_) (by rw [h.a.2 m hm, List.length_map])
  obtain ⟨x, hx, rfl⟩ := List.mem_map.1 ht
  exact h.a.1 x hx m hm
theorem allT_mem {t : ByteArray} {p : Int} : (t, p) ∈ allT Ts ↔ ∃ x ∈ Ts, x.top = t ∧ p ∈ x.parts := by
  unfold allT
  rw [List.flatMap_map, List.mem_flatMap]
  constructor
  · rintro ⟨x, hx, h⟩
    obtain ⟨q, hq, e⟩ := List.mem_map.1 h
    obtain ⟨e1, e2⟩ := Prod.mk.inj e
    exact ⟨x, hx, e1, by rw [← e2]; exact hq⟩
  · rintro ⟨x, hx, e1, hp⟩
    exact ⟨x, hx, List.mem_map.2 ⟨p, hp, by rw [← e1]; rfl⟩⟩
theorem allT_cons (x : Shr) (L : List Shr) : allT (x :: L) = tpsOf (topOf x) ++ allT L := by simp [allT]
theorem allT_nodup : ∀ {L : List Shr}, (L.map (·.top)).Nodup → (∀ x ∈ L, x.parts.Nodup) → (allT L).Nodup
  | [], _, _ => List.nodup_nil
  | x :: L, hn, hp => by
    rw [List.map_cons, List.nodup_cons] at hn
    rw [allT_cons]
    refine List.nodup_append.2 ⟨List.Pairwise.map _ (fun a b hab e => hab (Prod.mk.inj e).2) (hp x (by simp)), allT_nodup hn.2 (fun y hy => hp y (by simp [hy])), fun a ha b hb e => ?_⟩
    subst e
    obtain ⟨q, _, rfl⟩ := List.mem_map.1 ha
    obtain ⟨y, hy, e1, _⟩ := allT_mem.1 hb
    exact hn.1 (List.mem_map.2 ⟨y, hy, e1⟩)
theorem allT_len : ∀ {L : List Shr}, (∀ x ∈ L, x.parts.length ≤ 10) → (allT L).length ≤ L.length * 10
  | [], _ => by simp [allT]
  | x :: L, h => by
    have h1 := allT_len (L := L) (fun y hy => h y (by simp [hy]))
    have h2 := h x (by simp)
    have h3 : (tpsOf (topOf x)).length = x.parts.length := by simp [tpsOf, topOf]
    rw [allT_cons, List.length_append, List.length_cons]
    omega
theorem TopFit.nodup {x : Shr} (h : TopFit x) : x.parts.Nodup := by
  rw [h.range]
  exact List.Pairwise.map _ (fun a b hab e => hab (Int.ofNat.inj e)) List.nodup_range
theorem TopFit.part {x : Shr} (h : TopFit x) {p : Int} (hp : p ∈ x.parts) : 0 ≤ p ∧ p < 10 := by
  rw [h.range] at hp
  obtain ⟨k, hk, rfl⟩ := List.mem_map.1 hp
  have h1 := List.mem_range.1 hk
  have h2 := h.p2
  exact ⟨Int.natCast_nonneg k, by show ((k : Nat) : Int) < 10; omega⟩
theorem FitA.stin (h : FitA Ms Ts) : StIn Ms Ts (fun _ => []) (fun _ => 0) := by
  have hl := allT_len (L := Ts) (fun x hx => (h.g.tops x hx).p2)
  have h6 := h.g.t6
  refine ⟨h.g.m1, by have := h.g.m6; omega, h.g.ids, fun m hm => ?_, fun m hm => h.tops hm, fun m hm => ⟨by unfold isI32; omega, .inl ⟨(h.g.mems m hm).data, rfl, rfl⟩⟩, h.g.rises.nodup, by omega, allT_nodup h.g.rises.nodup (fun x hx => (h.g.tops x hx).nodup), ?_, by omega, ?_, fun m hm p hp => ?_, ?_⟩
  · have hf := h.g.mems m hm
    exact ⟨by have := hf.tops; omega, by rw [hf.data]; simp, by rw [hf.owned]; simp, by rw [hf.owned]; simp⟩
  · have h1 := h.g.t1
    cases Ts with
    | nil => simp at h1
    | cons x L =>
      have h2 := (h.g.tops x (by simp)).p1
      have h3 : (tpsOf (topOf x)).length = x.parts.length := by simp [tpsOf, topOf]
      rw [allT_cons, List.length_append]
      omega
  · have : (Ms.flatMap fun m => ([] : List TP)) = [] := by simp
    rw [this]; exact List.nodup_nil
  · cases hp
  · intro a ha b hb
    obtain ⟨_, _, rfl⟩ := List.mem_map.1 ha
    exact Nat.zero_le _

/-- a plan as the strategy makes it -/
def PlanL (Ms : List Mem) (Ts : List Shr) (L : List Shr) : Prop := ∃ A, PlanOk (ids Ms) (fun _ => []) (allT Ts) A ∧ Shows (L.map trip) A ∧ Canon ltMT (L.map trip)
theorem PlanOk.none {Ns : List ByteArray} {Old : ByteArray → List TP} {T : List TP} {A : Asg} (h : PlanOk Ns Old T A) : PlanOk Ns (fun _ => []) T A := ⟨h.keys, h.all, h.near, fun _ _ _ p hp => by cases hp⟩
theorem PlanL.own (h : FitA Ms Ts) {L : List Shr} (hl : PlanL Ms Ts L) (gen : Int) (id : ByteArray) : OwnOk L gen id := by
  obtain ⟨A, h1, h2, h3⟩ := hl
  exact own_ok h1 h2 h3 h.stin.t1 h.stin.tl (fun t ht => by have := (h.g.tops t ht).size; omega) gen id
theorem PlanL.len (h : FitA Ms Ts) {L : List Shr} (hl : PlanL Ms Ts L) : L.length ≤ 1000 ∧ ∀ x ∈ L, x.parts.length ≤ 1000 := by
  obtain ⟨A, h1, h2, h3⟩ := hl
  obtain ⟨b1, b2, _⟩ := plan_bounds h1 h2 h3 h.stin.t1
  exact ⟨b2, fun x hx => (b1 x hx).2⟩
theorem PlanL.next (h : FitA Ms Ts) {L : List Shr} (hl : PlanL Ms Ts L) {gen : Int} (hg : isI32 gen) {Ms' : List Mem} (hn : Ms'.length = Ms.length) (ht : ∀ (j : Nat) m m', Ms[j]? = some m → Ms'[j]? = some m' → ToldM L gen m m') :
    ∃ Old', StIn Ms' Ts Old' (fun _ => gen) ∧ ∀ L2 A2, PlanOk (ids Ms') Old' (allT Ts) A2 → Shows (L2.map trip) A2 → Canon ltMT (L2.map trip) → PlanL Ms Ts L2 ∧ ∀ m ∈ ids Ms, keptT m (L.map trip) (L2.map trip) = true ∧ keptT m (L2.map trip) (L.map trip) = true := by
  obtain ⟨A, h1, h2, h3⟩ := hl
  have hi32 : ∀ x ∈ L, ∀ p ∈ x.parts, isI32 p := fun x hx p hp => by
    have h4 : Holds (L.map trip) x.mem x.top p := ⟨x.parts, List.mem_map_of_mem (f := trip) hx, hp⟩
    have h5 : (x.top, p) ∈ allT Ts := h1.all.mem_iff.1 (allOf_mem.2 ⟨_, (h2.iff _ _ _).1 h4⟩)
    obtain ⟨y, hy, _, hp2⟩ := allT_mem.1 h5
    have := (h.g.tops y hy).part hp2
    unfold isI32; omega
  obtain ⟨Old', q1, q2, q3⟩ := told_stin h.stin h1 h2 h3 (fun t ht => by have := (h.g.tops t ht).size; omega) hi32 hg hn ht
  refine ⟨Old', q1, fun L2 A2 g1 g2 g3 => ?_⟩
  rw [q2] at g1
  refine ⟨⟨A2, g1.none, g2, g3⟩, fun m hm => ⟨kept_fwd h2 g2 g1 h.stin.tn hm (q3 m hm), kept_bwd h2 g2 h1 g1 h.stin.tn q3 m⟩⟩
end
end Go.Proofs.YticcnlpfmekagaaGreat
namespace Go.Proofs.YticcnlpfmekagaaGreat
open Go Go.Proofs Go.RowKit Go.Lib
open Classical
set_option linter.unusedVariables false
set_option linter.unusedSimpArgs false

/-! ## Holder (19), kept (26) -/
def HR1 (w : World) (L : List Shr) (t : ByteArray) (p : Int) (m : ByteArray) (n : Nat) (i : Value) (wr : World) : Prop := wr = w ∧ ∃ k : Nat, i = .int .i64 k ∧ k ≤ n ∧ holderT ((L.drop k).map trip) t p = some m
def HR2 (w : World) (x : Shr) (t : ByteArray) (p : Int) (pn : Nat) (i : Value) (wr : World) : Prop := wr = w ∧ ∃ j : Nat, i = .int .i64 j ∧ j ≤ pn ∧ ¬ (x.top = t ∧ p ∈ x.parts.take j)
set_option maxRecDepth 100000 in
set_option maxHeartbeats 4000000 in
theorem holder_any (a : Option Addr) (n c : Nat) (L : List Shr) (t : ByteArray) (p : Int) (m : ByteArray) (w : World) (h : ShrsAt w (.slice a n c) L) (hn : L.length = n) (hb : n ≤ 1000000) (hp : ∀ x ∈ L, x.parts.length ≤ 1000000) (hh : holderT (L.map trip) t p = some m) :
    Calls Tryz.prog 19 #[.slice a n c, .string t, .int .i32 p] w fun e w' => e = .returned (.tuple #[.string m, .bool true]) ∧ w' = w := by
  have HM := Lib.hid (And.intro h (And.intro hn (And.intro hp hh))); clear h hn hp hh
  go_enter Tryz.func19, Tryz.ntmps19
  go_wp2_with fail
  go_loopw [8] (fun i wr => HR1 w L t p m n i wr) (fun i _ => n - (intOf i).toNat)
  case atStart => exact ⟨rfl, 0, rfl, Nat.zero_le _, HM.out.2.2.2⟩
  case round =>
    obtain ⟨rfl, k, rfl, hk, hho⟩ := hrel
    by_cases hkn : k < n
    · obtain ⟨x, hx⟩ : ∃ x, L[k]? = some x := ⟨_, List.getElem?_eq_getElem (by have := HM.out.2.1; omega)⟩
      obtain ⟨g, off, va, vc, rfl, hv, hc⟩ := shr_at HM.out.1 HM.out.2.1 hx
      obtain ⟨d0, d1, d2⟩ := hc wr (Kept.refl _ _)
      have hxL := List.mem_of_getElem? hx
      have hpt := (HM.out.1.parts x hxL).2.1
      rw [hv] at hpt
      have hpb := HM.out.2.2.1 x hxL
      obtain ⟨hk1, hk2⟩ := List.getElem?_eq_some_iff.1 hx
      rw [List.drop_eq_getElem_cons hk1, hk2, List.map_cons] at hho
      obtain ⟨pn, hpn⟩ : ∃ pn, x.parts.length = pn := ⟨_, rfl⟩
      rw [hpn] at hpt d2 hpb
      have hki : (k : Int) < (n : Int) := by omega
      have HX := Lib.hid (And.intro hho (And.intro hpt hpn)); clear hho hpt hpn hc hv hk2
      go_wp2_with fail
      go_loopw [9] (fun i wr' => HR2 wr x t p pn i wr') (fun i _ => pn - (intOf i).toNat)
      case atStart => exact ⟨rfl, 0, rfl, Nat.zero_le _, by simp⟩
      case round =>
        obtain ⟨rfl, j, rfl, hj, hno⟩ := hrel
        by_cases hjn : j < pn
        · obtain ⟨v, hv⟩ : ∃ v, x.parts[j]? = some v := ⟨_, List.getElem?_eq_getElem (by have := HX.out.2.2; omega)⟩
          obtain ⟨b, o2, cap, hva, hcl⟩ : ∃ b off cap, Value.slice va pn vc = .slice (some ⟨b, off, none⟩) pn cap ∧ ∀ j u, (i32s x.parts)[j]? = some u → wr.cell? ⟨b, off + j, none⟩ = some u := by
            rcases HX.out.2.1.2.2 with ⟨_, _, _, h0⟩ | h
            · omega
            · exact h
          simp only [Value.slice.injEq] at hva
          obtain ⟨rfl, _, rfl⟩ := hva
          have c5 := hcl j (.int .i32 v) (by simp [i32s, hv])
          have hji : (j : Int) < (pn : Int) := by omega
          have HV := Lib.hid (And.intro hv hno); clear hv hno hcl
          by_cases et : x.top = t
          · have hse : (x.top.toList == t.toList) = true := beq_iff_eq.2 (by rw [et])
            by_cases ev : v = p
            · subst ev
              have hm : x.mem = m := by
                have h1 := HX.out.1
                unfold holderT at h1
                rw [if_pos ⟨et, List.mem_of_getElem? HV.out.1⟩] at h1
                simpa [trip] using h1
              have HMM := Lib.hid (And.intro hm et); clear hm et
              go_wp2_with fail
              go_ret2
              exact ⟨by rw [← HMM.out.1]; rfl, rfl⟩
            · have HET := Lib.hid (And.intro et ev); clear et
              go_wp2_with fail
              refine ⟨⟨rfl, j + 1, by go_num, by omega, ?_⟩, by simp [intOf]; omega⟩
              obtain ⟨h1, h2⟩ := List.getElem?_eq_some_iff.1 HV.out.1
              rw [List.take_succ_eq_append_getElem h1, h2]
              rintro ⟨h3, h4⟩
              rcases List.mem_append.1 h4 with h4 | h4
              · exact HV.out.2 ⟨h3, h4⟩
              · simp only [List.mem_cons, List.not_mem_nil, or_false] at h4
                exact HET.out.2 h4.symm
          · have hse : (x.top.toList == t.toList) = false := beq_eq_false_iff_ne.2 (fun h => et ((ba_inj _ _).1 h))
            have HET := Lib.hid et; clear et
            go_wp2_with fail
            exact ⟨⟨rfl, j + 1, by go_num, by omega, fun h => HET.out h.1⟩, by simp [intOf]; omega⟩
        · obtain rfl : j = pn := by omega
          rw [List.take_of_length_le (by have := HX.out.2.2; omega)] at hno
          have hnx : HR1 wr L t p m n (.int .i64 ((k : Nat) + 1)) wr := by
            refine ⟨rfl, k + 1, by go_num, by omega, ?_⟩
            have h1 := HX.out.1
            unfold holderT at h1
            rw [if_neg (by simpa [trip] using hno)] at h1
            exact h1
          have HNX := Lib.hid hnx; clear hnx hno
          go_wp2_with fail
          exact ⟨HNX.out, by simp [intOf]; omega⟩
    · exfalso
      have : k = n := by omega
      rw [List.drop_of_length_le (by have := HM.out.2.1; omega)] at hho
      cases hho

def KR1 (w : World) (n : Nat) (i : Value) (wr : World) : Prop := Kept [] w wr ∧ ∃ k : Nat, i = .int .i64 k ∧ k ≤ n
set_option maxRecDepth 100000 in
set_option maxHeartbeats 4000000 in
theorem kept_any (m : ByteArray) (a1 : Option Addr) (n1 c1 : Nat) (L1 : List Shr) (a2 : Option Addr) (n2 c2 : Nat) (L2 : List Shr) (w : World) (h1 : ShrsAt w (.slice a1 n1 c1) L1) (hn1 : L1.length = n1) (h2 : ShrsAt w (.slice a2 n2 c2) L2) (hn2 : L2.length = n2)
    (hb : n1 ≤ 1000000 ∧ n2 ≤ 1000000) (hp1 : ∀ x ∈ L1, x.parts.length ≤ 1000000) (hp2 : ∀ x ∈ L2, x.parts.length ≤ 1000000) (hk : keptT m (L1.map trip) (L2.map trip) = true) :
    Calls Tryz.prog 26 #[.string m, .slice a1 n1 c1, .slice a2 n2 c2] w fun e w' => e = .returned (.bool true) ∧ Kept [] w w' := by
  have hh : ∀ x ∈ L1, x.mem = m → ∀ p ∈ x.parts, holderT (L2.map trip) x.top p = some m := fun x hx e p hp => by
    unfold keptT at hk
    rw [List.all_eq_true] at hk
    have := hk (trip x) (List.mem_map_of_mem hx)
    simp only [trip, e, ne_eq, not_true_eq_false, decide_false, Bool.false_or, List.all_eq_true, decide_eq_true_eq] at this
    exact this p hp
  have hho := fun w' (k' : Kept [] w w') t p h => holder_any a2 n2 c2 L2 t p m w' (h2.kept k' (by simp) (by simp)) hn2 (by omega) hp2 h
  have HM := Lib.hid (And.intro h1 (And.intro hn1 (And.intro hh (And.intro hho hp1)))); clear h1 hn1 h2 hn2 hk hh hho hp1 hp2
  go_enter Tryz.func26, Tryz.ntmps26
  go_wp2_with fail
  go_loopw [7] (fun i wr => KR1 w n1 i wr) (fun i _ => n1 - (intOf i).toNat)
  case atStart => exact ⟨Kept.refl _ _, 0, rfl, Nat.zero_le _⟩
  case round =>
    obtain ⟨hkw, k, rfl, hk⟩ := hrel
    by_cases hkn : k < n1
    · obtain ⟨x, hx⟩ : ∃ x, L1[k]? = some x := ⟨_, List.getElem?_eq_getElem (by have := HM.out.2.1; omega)⟩
      obtain ⟨g, off, va, vc, rfl, hv, hc⟩ := shr_at HM.out.1 HM.out.2.1 hx
      obtain ⟨d0, d1, d2⟩ := hc wr hkw
      have hxL := List.mem_of_getElem? hx
      have hki : (k : Int) < (n1 : Int) := by omega
      by_cases e : x.mem = m
      · have hse : (x.mem.toList == m.toList) = true := beq_iff_eq.2 (by rw [e])
        have hpt := (HM.out.1.parts x hxL).2.1
        rw [hv] at hpt
        have hpb := HM.out.2.2.2.2 x hxL
        have hhx := HM.out.2.2.1 x hxL e
        obtain ⟨pn, hpn⟩ : ∃ pn, x.parts.length = pn := ⟨_, rfl⟩
        rw [hpn] at hpt hpb d2 hc
        have HX := Lib.hid (And.intro hhx (And.intro hpt (And.intro hpn hc))); clear hhx hpt hpn e hv hx hxL hc
        go_wp2_with fail
        go_loopw [8] (fun i wr' => KR1 w pn i wr') (fun i _ => pn - (intOf i).toNat)
        case atStart => exact ⟨hkw, 0, rfl, Nat.zero_le _⟩
        case round =>
          clear d0 d1 d2 hkw
          obtain ⟨hkw, j, rfl, hj⟩ := hrel
          obtain ⟨d0, d1, d2⟩ := HX.out.2.2.2 wr hkw
          by_cases hjn : j < pn
          · obtain ⟨v, hv⟩ : ∃ v, x.parts[j]? = some v := ⟨_, List.getElem?_eq_getElem (by have := HX.out.2.2.1; omega)⟩
            obtain ⟨b, o2, cap, hva, hcl⟩ : ∃ b off cap, Value.slice va pn vc = .slice (some ⟨b, off, none⟩) pn cap ∧ ∀ j u, (i32s x.parts)[j]? = some u → w.cell? ⟨b, off + j, none⟩ = some u := by
              rcases HX.out.2.1.2.2 with ⟨_, _, _, h0⟩ | h
              · omega
              · exact h
            simp only [Value.slice.injEq] at hva
            obtain ⟨rfl, _, rfl⟩ := hva
            have c5 := hkw.cell (hcl j (.int .i32 v) (by simp [i32s, hv])) (by simp)
            have hji : (j : Int) < (pn : Int) := by omega
            have hcall := fun n => HM.out.2.2.2.1 (wr.drewN n) (hkw.drewN n) x.top v (HX.out.1 v (List.mem_of_getElem? hv))
            have HC := Lib.hid hcall; clear hcall hcl hv
            have hmm : (m.toList == m.toList) = true := beq_self_eq_true _
            go_wp2_with fail
            go_quiet ((go_at_call 19; exact Calls.quiet_of_same (HC.out _)))
            go_wp2_with fail
            exact ⟨⟨hkw.drewN _, j + 1, by go_num, by omega⟩, by simp [intOf]; omega⟩
          · obtain rfl : j = pn := by omega
            go_wp2_with fail
            exact ⟨⟨hkw, k + 1, by go_num, by omega⟩, by simp [intOf]; omega⟩
      · have hse : (x.mem.toList == m.toList) = false := beq_eq_false_iff_ne.2 (fun h => e ((ba_inj _ _).1 h))
        clear e hv hc hx hxL
        go_wp2_with fail
        exact ⟨⟨hkw, k + 1, by go_num, by omega⟩, by simp [intOf]; omega⟩
    · go_wp2_with fail
      go_ret
      exact ⟨rfl, hkw⟩
end Go.Proofs.YticcnlpfmekagaaGreat
namespace Go.Proofs.YticcnlpfmekagaaGreat
open Go Go.Proofs Go.RowKit
set_option linter.unusedVariables false
set_option linter.unusedSimpArgs false

/-! ## the plan by ranges, of one member and one topic -/

set_option maxRecDepth 100000 in
set_option maxHeartbeats 1000000 in
theorem add_one (p : Nat) (m t : ByteArray) (a : Option Addr) (c : Nat) (xs : List Int) (w : World) (hp : MapAt w isStr p []) (hx : SlInts w (.slice a xs.length c) xs) (h1 : 1 ≤ xs.length) (h2 : xs.length ≤ 1000) :
    Calls Tryz.prog 93 #[.map (some p), .string m, .string t, .slice a xs.length c] w fun e w' => e = .returned (.tuple #[]) ∧ (∃ r v, PlanAt w' p [(m, r, [(t, v, xs)])] ∧ w.heap.size ≤ r ∧ (∀ g, v.ownBlock = some g → w.heap.size ≤ g ∧ g < w'.heap.size)) ∧ Kept [p] w w' := by
  have hpl := hp.lt
  have hmk : ∀ w : World, (Instr.makeMap 90 (some (.int .i64 1))).run Tryz.prog w = .ok (.map (some w.heap.size)) (w.alloc (.map #[] 0)) := fun w => by
    simp [Instr.makeMap, go_sem]
  have hlk := map_lookup_miss (P := Tryz.prog) hp (keyT_str Tryz.underlying9) Tryz.underlying82 (k := .string m) ⟨_, rfl⟩ (by simp) (Tryz.zeroValue90 w) true
  simp only [if_true] at hlk
  have HP := Lib.hid hp; clear hp
  have HX := Lib.hid hx; clear hx
  have hne : ¬ ((xs.length : Int) = 0) := by omega
  go_enter Tryz.func93, Tryz.ntmps93
  go_upto_region 4 with (first | (refine wl_update (kv := .string m) (vv := .map (some w.heap.size)) rfl rfl rfl rfl rfl (keyT_str Tryz.underlying9) Tryz.underlying82 (HP.out.alloc _) ⟨_, rfl⟩ ?_; intro w2 hm2 hk2 hs2) | fail)
  rw [putE_miss (by simp), List.nil_append] at hm2
  have hpr : w.heap.size ≠ p := by omega
  have hr2 : MapAt w2 isStr w.heap.size [] := (MapAt.new w isStr).kept hk2 (by simp; omega)
  have hk02 : Kept [p] w w2 := ((Kept.refl [p] w).alloc _).trans hk2 (by simp) (by simp)
  have hl1 : ∀ w', MapAt w' isStr p [(.string m, .map (some w.heap.size))] → (Instr.lookup 82 (.map (some p)) (.string m) false).run Tryz.prog w' = .ok (.map (some w.heap.size)) w' := fun w' h' => by
    have h1 := map_lookup_hit (P := Tryz.prog) h' (keyT_str Tryz.underlying9) Tryz.underlying82 (k := .string m) (v := .map (some w.heap.size)) (by simp) false
    simpa using h1
  have hl2 := map_lookup_miss (P := Tryz.prog) (w := w2.drew) hr2.drew (keyT_str Tryz.underlying9) Tryz.underlying90 (k := .string t) ⟨_, rfl⟩ (by simp) (Tryz.zeroValue31 _) false
  simp only [Bool.false_eq_true, if_false] at hl2
  have hgp : ∀ g, (Value.slice a xs.length c).ownBlock = some g → g ≠ p := by
    rintro g hg rfl
    obtain ⟨_, hcase⟩ := HX.out.2.1.cases
    rcases hcase with ⟨_, h0, _⟩ | ⟨g', off, rfl, hcell⟩
    · omega
    · simp only [Value.ownBlock, Option.some.injEq] at hg
      subst hg
      obtain ⟨es, ck, hh, _⟩ := HP.out
      have := hcell 0 (.int .i32 xs[0]) (by simp [i32s])
      simp [World.cell?, hh] at this
  have hsl2 := HX.out.2.1.kept hk02 (fun g hg => by have := hgp g hg; simpa using this)
  have hsrc := (SlAt.drew hsl2).src Tryz.underlying31
  have HSRC := Lib.hid hsrc; clear hsrc
  have HR2 := Lib.hid hr2; clear hr2
  have hs02 := hk02.size
  have hs2' := hs2
  simp only [World.size_alloc] at hs2'
  go_region_held3 (fun w' => MapAt w' isStr p [(.string m, .map (some w.heap.size))])
    (first | exact hm4 | exact hm3 | exact hm2.drew | fail)
    (first
      | (refine sl_app (v := .slice none 0 0) rfl rfl elI32 rfl rfl (own_nil _ _) HSRC.out (by omega) (by omega) ?_
         intro v' w3 hown3 hk3 hd3
         have hk3' : Kept [] w2 w3 := by simpa [Value.ownBlock] using hk3.of_drew
         have hm3 := hm2.kept hk3' (by simp)
         have hr3 := HR2.out.kept hk3' (by simp))
      | (refine up_update (fun _ _ => rfl) (keyT_str Tryz.underlying9) Tryz.underlying90 hr3 ⟨_, rfl⟩ ?_
         intro w4 hm5 hk4 hs4
         have hm4 := hm3.kept hk4 (by simp; omega))
      | fail)
  all_goals
    go_end0
    rw [putE_miss (by simp)] at hm5
    rw [List.nil_append, Nat.zero_add] at hown3
    have hs3 := hk3'.size
    have hvo : ∀ g, v'.ownBlock = some g → g = w2.heap.size ∧ g < w3.heap.size := fun g hg => by
      rcases hd3 with ⟨h1, h2⟩ | ⟨h1, h2⟩
      · rw [h1] at hg; simp [Value.ownBlock] at hg
      · rw [h1] at hg; simp only [Option.some.injEq, World.size_drew] at hg h2; omega
    refine ⟨rfl, ⟨w.heap.size, v', ⟨by simpa [rawP] using hm4, fun x hx => ?_⟩, Nat.le_refl _, fun g hg => by have := hvo g hg; omega⟩, ?_⟩
    · simp only [List.mem_cons, List.not_mem_nil, or_false] at hx
      subst hx
      refine ⟨by simpa [rawT] using hm5, fun y hy => ?_⟩
      simp only [List.mem_cons, List.not_mem_nil, or_false] at hy
      subst hy
      have hsl3 := own_sl hown3 (by intro u hu; obtain ⟨z, _, rfl⟩ := List.mem_map.1 hu; rfl)
      refine SlInts.kept ⟨?_, hsl3, HX.out.2.2⟩ hk4 (fun g hg => by have := hvo g hg; simp; omega)
      rcases hsl3.2.2 with ⟨a', c', e1, e2⟩ | ⟨g', off', c', e1, _⟩
      · rw [e1, e2]; exact ⟨_, _, rfl⟩
      · rw [e1]; exact ⟨_, _, rfl⟩
    · exact (hk02.trans hk3' (U := [p]) (by simp) (by simp)).trans hk4 (by simp) (by simp <;> omega)

set_option maxRecDepth 100000 in
set_option maxHeartbeats 400000 in
theorem min_zero (w : World) : Calls Tryz.prog 92 #[.float .f64 0, .float .f64 0] w fun e w' => e = .returned (.float .f64 0) ∧ w = w' := by
  have ha : ∀ w : World, (callFunc 118 #[.float .f64 0, .float .f64 0]).run Tryz.prog w = .ok (.value (.float .f64 0)) w := fun w => by kernel_rfl
  go_enter Tryz.func92, Tryz.ntmps92
  go_wp2
  go_ret
  exact ⟨rfl, rfl⟩

set_option maxRecDepth 100000 in
set_option maxHeartbeats 400000 in
theorem sort_strings_one (v : Value) (m : ByteArray) (w : World) (hown : w.ownsRow 0 9 1 v 1 (strs [m])) : ∃ g c, v = .slice (some ⟨g, 0, none⟩) 1 c ∧ g < w.heap.size ∧
    Calls Tryz.prog 91 #[v] w fun e w' => e = .returned (.tuple #[]) ∧ w'.ownsRow 0 9 1 v 1 (strs [m]) ∧ Kept [g] w w' := by
  obtain ⟨g, c, rfl, hg, hs⟩ := sort_names v 1 [m] w hown (Nat.le_refl _) (by omega)
  have h1 : sortedNames [m] = [m] := by
    have := sortedNames_perm [m]
    exact List.perm_singleton.1 this
  rw [h1] at hs
  have HS := Lib.hid hs; clear hs
  refine ⟨g, c, rfl, hg, ?_⟩
  clear hown h1
  go_enter Tryz.func91, Tryz.ntmps91
  go_wp2_with (go_at_call 48; refine HS.out.mono ?_; rintro e w1 ⟨rfl, h2, h3⟩)
  go_end0
  exact ⟨rfl, h2, h3⟩

set_option maxRecDepth 100000 in
set_option maxHeartbeats 1000000 in
theorem range_core (p : Nat) (m t : ByteArray) (v : Value) (a : Option Addr) (c : Nat) (w : World) (hp : MapAt w isStr p []) (hx : SlInts w (.slice a 2 c) [0, 1]) (hc : 2 ≤ c) (hown : w.ownsRow 0 9 1 v 1 (strs [m])) (hvp : ∀ g, v.ownBlock = some g → g ≠ p ∧ ∀ g', a.map (·.block) = some g' → g ≠ g') :
    Calls Tryz.prog 90 #[.map (some p), v, .string t, .slice a 2 c] w fun e w' => e = .returned (.tuple #[]) ∧ (∃ r u, PlanAt w' p [(m, r, [(t, u, [0, 1])])] ∧ w.heap.size ≤ r ∧ (∀ g, u.ownBlock = some g → w.heap.size ≤ g ∧ g < w'.heap.size)) ∧ Kept (p :: v.ownBlock.toList) w w' := by
  obtain ⟨g, cn, rfl, hg, hsort⟩ := sort_strings_one v m w hown
  have hcv : ∀ w : World, (convert 3 161 (.int .i64 0)).run Tryz.prog w = .ok (.float .f64 0) w := fun w => by kernel_rfl
  have hcw : ∀ w : World, (convert 161 3 (.float .f64 0)).run Tryz.prog w = .ok (.int .i64 0) w := fun w => by kernel_rfl
  have HS := Lib.hid hsort; clear hsort
  have HX := Lib.hid hx; clear hx
  have HP := Lib.hid hp; clear hp
  have hvp' := hvp g rfl
  obtain ⟨ga, off, rfl⟩ : ∃ ga off, a = some ⟨ga, off, none⟩ := by
    obtain ⟨_, hcase⟩ := HX.out.2.1.cases
    rcases hcase with ⟨_, h0, _⟩ | ⟨g', off, h, _⟩
    · simp at h0
    · exact ⟨g', off, h⟩
  have hga : g ≠ ga := hvp'.2 ga rfl
  have hgp := hvp'.1
  have hci : (2 : Int) ≤ (c : Int) := by omega
  clear hvp hvp'
  go_enter Tryz.func90, Tryz.ntmps90
  go_upto_region 3 with (first | (go_at_call 91; refine HS.out.mono ?_; rintro e w1 ⟨rfl, hown1, hk1⟩) | fail)
  have hp1 := HP.out.kept hk1 (by simp; exact fun h => hgp h.symm)
  have hx1 := HX.out.kept hk1 (fun g' hg' => by simp only [Value.ownBlock, Option.some.injEq] at hg'; subst hg'; simp; exact fun h => hga h.symm)
  have hnm : w1.cell? ⟨g, 0, none⟩ = some (.string m) := by
    have h1 := (own_sl hown1 (strs_one _)).cell (j := 0) (u := .string m) rfl
    simpa using h1
  have hadd : ∀ c', Calls Tryz.prog 93 #[.map (some p), .string m, .string t, .slice (some ⟨ga, off, none⟩) 2 c'] w1 _ := fun c' => add_one p m t (some ⟨ga, off, none⟩) c' [0, 1] w1 hp1 ⟨⟨_, _, rfl⟩, ⟨hx1.2.1.1, hx1.2.1.2.1, .inr ⟨ga, off, c', rfl, fun j u hj => hx1.2.1.cell hj⟩⟩, hx1.2.2⟩ (by simp) (by simp)
  have HADD := Lib.hid hadd; clear hadd
  have hs1 := hk1.size
  have HK1 := Lib.hid hk1; clear hk1
  clear hp1 hx1 hown1
  go_wp2_with fail
  go_loopw [29] (fun i wr => (i = .int .i64 0 ∧ wr = w1) ∨ (i = .int .i64 1 ∧ ((∃ r u, PlanAt wr p [(m, r, [(t, u, [0, 1])])] ∧ w.heap.size ≤ r ∧ (∀ g, u.ownBlock = some g → w.heap.size ≤ g ∧ g < wr.heap.size)) ∧ Kept [p, g] w wr))) (fun i _ => 1 - (intOf i).toNat)
  case atStart => exact .inl ⟨rfl, rfl⟩
  case round =>
    rcases hrel with ⟨rfl, rfl⟩ | ⟨rfl, hpost⟩
    · have hmin := min_zero
      have HMIN := Lib.hid hmin; clear hmin
      go_wp2_with (first
        | (go_at_call 92; refine (HMIN.out _).mono ?_; rintro e w2 ⟨rfl, rfl⟩)
        | (go_at_call 93; refine (HADD.out _).mono ?_; rintro e w3 ⟨rfl, ⟨r, u, hpl, hr, hu⟩, hk3⟩)
        | fail)
      refine ⟨.inr ⟨rfl, ⟨r, u, hpl, by omega, fun g' hg' => by have := hu g' hg'; omega⟩, HK1.out.trans hk3 (by simp) (by simp)⟩, by simp [intOf]⟩
    · have HPO := Lib.hid hpost; clear hpost
      go_wp2_with fail
      go_end0
      exact ⟨rfl, HPO.out.1, by simpa [Value.ownBlock] using HPO.out.2⟩
end Go.Proofs.YticcnlpfmekagaaGreat
