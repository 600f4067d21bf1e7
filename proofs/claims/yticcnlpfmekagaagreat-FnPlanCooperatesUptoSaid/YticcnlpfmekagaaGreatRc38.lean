/- Part 38 of the proof of the row: AdjP. -/
import Derived.Test.YticcnlpfmekagaaGreatRc00
import Derived.Test.YticcnlpfmekagaaGreatRc28
import Derived.Test.YticcnlpfmekagaaGreatRc37
import Derived.Test.YticcnlpfmekagaaGreatRc35
import Derived.Test.YticcnlpfmekagaaGreatRc33
set_option linter.unusedVariables false
set_option linter.unusedSimpArgs false
set_option maxRecDepth 100000
set_option maxHeartbeats 8000000
namespace Go.Proofs.YticcnlpfmekagaaGreat
section
open Go Go.Proofs Go.RowKit Go.Lib
open Classical
structure KeysAre (L : List (Value × Value)) (f : TP → Prop) : Prop where
 form : ∀ e ∈ L, ∃ q, e = (tpV q, .agg #[])
 iff : ∀ q, (tpV q, Value.agg #[]) ∈ L ↔ f q
theorem KeysAre.nil {f : TP → Prop} (h : ∀ q, ¬ f q) : KeysAre [] f := ⟨by simp, fun q => by simp [h q]⟩
theorem KeysAre.hit {L : List (Value × Value)} {f : TP → Prop} (h : KeysAre L f) {q : TP} (hq : f q) : (tpV q, Value.agg #[]) ∈ L := (h.iff q).2 hq
theorem KeysAre.miss {L : List (Value × Value)} {f : TP → Prop} (h : KeysAre L f) {q : TP} (hq : ¬ f q) : ∀ u, (tpV q, u) ∉ L := fun u hu => by
 obtain ⟨q', e⟩ := h.form _ hu
 rw [Prod.mk.injEq] at e
 rw [e.2] at hu
 exact hq ((h.iff q).1 hu)
theorem KeysAre.put {L : List (Value × Value)} {f g : TP → Prop} (h : KeysAre L f) (q : TP) (hg : ∀ x, g x ↔ (f x ∨ x = q)) : KeysAre (putE L (tpV q) (.agg #[])) g := by
 refine ⟨fun e he => ?_, fun x => ⟨fun hx => ?_, fun hx => ?_⟩⟩
 · rcases mem_putE he with h1 | h1
   · exact h.form e h1
   · exact ⟨q, h1⟩
 · rcases mem_putE hx with h1 | h1
   · exact (hg x).2 (.inl ((h.iff x).1 h1))
   · rw [Prod.mk.injEq] at h1
     exact (hg x).2 (.inr (tpV_inj h1.1))
 · by_cases e : x = q
   · subst e; exact mem_putE_self _ _ _
   · rcases (hg x).1 hx with h1 | h1
     · exact mem_putE_oth ((h.iff x).2 h1) (fun e2 => e (tpV_inj e2))
     · exact absurd h1 e
theorem KeysAre.congr {L : List (Value × Value)} {f g : TP → Prop} (h : KeysAre L f) (hg : ∀ x, g x ↔ f x) : KeysAre L g := ⟨h.form, fun q => (h.iff q).trans (hg q).symm⟩
structure OwnsAre (L : List (Value × Value)) (f : TP → ByteArray → Prop) : Prop where
 form : ∀ e ∈ L, ∃ q m, e = (tpV q, .string m)
 iff : ∀ q m, (tpV q, Value.string m) ∈ L ↔ f q m
theorem OwnsAre.nil {f : TP → ByteArray → Prop} (h : ∀ q m, ¬ f q m) : OwnsAre [] f := ⟨by simp, fun q m => by simp [h q m]⟩
theorem OwnsAre.put {L : List (Value × Value)} {f g : TP → ByteArray → Prop} (h : OwnsAre L f) (q : TP) (m : ByteArray) (hn : ∀ m', ¬ f q m') (hg : ∀ x y, g x y ↔ (f x y ∨ (x = q ∧ y = m))) : OwnsAre (putE L (tpV q) (.string m)) g := by
 refine ⟨fun e he => ?_, fun x y => ⟨fun hx => ?_, fun hx => ?_⟩⟩
 · rcases mem_putE he with h1 | h1
   · exact h.form e h1
   · exact ⟨q, m, h1⟩
 · rcases mem_putE hx with h1 | h1
   · exact (hg x y).2 (.inl ((h.iff x y).1 h1))
   · rw [Prod.mk.injEq, Value.string.injEq] at h1
     exact (hg x y).2 (.inr ⟨tpV_inj h1.1, h1.2⟩)
 · rcases (hg x y).1 hx with h1 | ⟨rfl, rfl⟩
   · refine mem_putE_oth ((h.iff x y).2 h1) (fun e2 => ?_)
     have := tpV_inj e2
     subst this
     exact hn y h1
   · exact mem_putE_self _ _ _
theorem OwnsAre.congr {L : List (Value × Value)} {f g : TP → ByteArray → Prop} (h : OwnsAre L f) (hg : ∀ x y, g x y ↔ f x y) : OwnsAre L g := ⟨h.form, fun q m => (h.iff q m).trans (hg q m).symm⟩
theorem St.split {S : List Nat} {w0 w : World} {M R : List Res} {X X1 X2 : Res} (h : St S w0 w (X :: M) R) (h1 : X.holds w → X1.holds w ∧ X2.holds w ∧ ∀ g ∈ X1.foot, g ∉ X2.foot) (hf1 : ∀ g ∈ X1.foot, g ∈ X.foot) (hf2 : ∀ g ∈ X2.foot, g ∈ X.foot) : St S w0 w (X1 :: X2 :: M) R := by
 obtain ⟨q1, q2, q3⟩ := h1 (h.m 0 rfl)
 have hlt := h.lt 0 (X := X) rfl
 have hff : ∀ g ∈ foots [X1, X2], g ∈ X.foot := fun g hg => by
  simp only [foots, List.flatMap_cons, List.flatMap_nil, List.append_nil, Zap] at hg
  rcases hg with hg | hg
  · exact hf1 g hg
  · exact hf2 g hg
 refine St.call (M1 := [X]) (M1' := [X1, X2]) (G := []) (M2 := M) h ⟨Kept.refl _ _, ⟨?_, fun g hg => hlt g (hff g (by simpa using hg)), ?_⟩, fun g hg => .inl (by simpa [foots] using hff g hg)⟩
 · intro Y hY
   simp only [List.append_nil, Zmc, Znn, or_false] at hY
   rcases hY with rfl | rfl
   · exact q1
   · exact q2
 · simp only [List.append_nil, List.pairwise_cons, Zmc, Znn, or_false, forall_eq, false_implies, implies_true, List.Pairwise.nil, and_true]
   exact q3
def footP (P : PL) : List Nat := P.flatMap fun x => x.2.1 :: footR (rowsI x.2.2)
def Rs.innerD (P : PL) : Res where
 foot := footP P
 holds := fun w => (∀ x ∈ P, RowsAt w isStr x.2.1 21 1 (rowsI x.2.2)) ∧ (footP P).Nodup
 stable := fun w w' S k hs h => ⟨fun x hx => (h.1 x hx).kept k (fun g hg => hs g (List.mem_flatMap.2 ⟨x, hx, hg⟩)), h.2⟩
theorem footP_mid (P1 P2 : PL) (m : ByteArray) (r : Nat) (I : Tops) : (footP (P1 ++ (m, r, I) :: P2)).Perm ((r :: footR (rowsI I)) ++ footP (P1 ++ P2)) := by
 simp only [footP, List.flatMap_append, List.flatMap_cons]
 rw [← List.append_assoc, ← List.append_assoc]
 exact (List.perm_append_comm).append_right _
theorem St.innerOutD {S : List Nat} {w0 w : World} {M R : List Res} {r : Nat} {I : Tops} {P1 P2 : PL} {m : ByteArray} (h : St S w0 w (Rs.innerD (P1 ++ (m, r, I) :: P2) :: M) R) : St S w0 w (Rs.inn r I :: Rs.innerD (P1 ++ P2) :: M) R := by
 have hp := footP_mid P1 P2 m r I
 refine h.split (fun ⟨h1, h2⟩ => ?_) (fun g hg => ?_) (fun g hg => ?_)
 · have h3 := hp.nodup_iff.1 h2
   rw [List.nodup_append] at h3
   refine ⟨h1 (m, r, I) (by simp), ⟨fun x hx => h1 x (by rcases Zap.1 hx with h | h <;> simp [h]), h3.2.1⟩, fun g hg hx => h3.2.2 g hg g hx rfl⟩
 · exact hp.mem_iff.2 (List.mem_append_left _ hg)
 · exact hp.mem_iff.2 (List.mem_append_right _ hg)
theorem St.innerInD {S : List Nat} {w0 w : World} {M R : List Res} {r : Nat} {I : Tops} {P1 P2 : PL} (m : ByteArray) (h : St S w0 w (Rs.inn r I :: Rs.innerD (P1 ++ P2) :: M) R) : St S w0 w (Rs.innerD (P1 ++ (m, r, I) :: P2) :: M) R := by
 have hp := footP_mid P1 P2 m r I
 refine h.join (fun h1 h2 h3 => ⟨fun x hx => ?_, ?_⟩) (fun g hg => ?_)
 · rcases Zap.1 hx with hx | hx
   · exact h2.1 x (by simp [hx])
   · rcases Zmc.1 hx with rfl | hx
     · exact h1
     · exact h2.1 x (by simp [hx])
 · refine hp.nodup_iff.2 (List.nodup_append.2 ⟨(show RowsAt w isStr r 21 1 (rowsI I) from h1).dis, h2.2, fun a ha b hb e => ?_⟩)
   subst e
   exact h3 a ha hb
 · exact Zap.1 (hp.mem_iff.1 hg)
end
end Go.Proofs.YticcnlpfmekagaaGreat
