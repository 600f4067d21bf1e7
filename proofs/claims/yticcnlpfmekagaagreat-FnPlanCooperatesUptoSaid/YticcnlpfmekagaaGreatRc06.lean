/- Part 6 of the proof of the row: Own, Ins. -/
import Derived.Test.YticcnlpfmekagaaGreatRc00
import Derived.Test.YticcnlpfmekagaaGreatRc04
set_option linter.unusedVariables false
set_option linter.unusedSimpArgs false
set_option maxRecDepth 100000
set_option maxHeartbeats 8000000
namespace Go.Proofs.YticcnlpfmekagaaGreat
section
open Go Go.RowKit
open Classical
structure Res where
 foot : List Nat
 holds : World → Prop
 stable : ∀ (w w' : World) (S : List Nat), Kept S w w' → (∀ g ∈ foot, g ∉ S) → holds w → holds w'
structure Own (B : Nat) (w : World) (F : List Res) : Prop where
 ok : ∀ R ∈ F, R.holds w
 lo : ∀ R ∈ F, ∀ g ∈ R.foot, B ≤ g ∧ g < w.heap.size
 dis : F.Pairwise (fun R Q => ∀ g ∈ R.foot, g ∉ Q.foot)
theorem Own.nil (B : Nat) (w : World) : Own B w [] := ⟨by simp, by simp, List.Pairwise.nil⟩
theorem Own.kept {B : Nat} {w w' : World} {F : List Res} {S : List Nat} (h : Own B w F) (k : Kept S w w') (hs : ∀ x ∈ S, x < B) : Own B w' F :=
 ⟨fun R hR => R.stable w w' S k (fun g hg hx => by have := (h.lo R hR g hg).1; have := hs g hx; omega) (h.ok R hR), fun R hR g hg => by have := h.lo R hR g hg; have := k.size; omega, h.dis⟩
theorem Own.kept0 {B : Nat} {w w' : World} {F : List Res} (h : Own B w F) (k : Kept [] w w') : Own B w' F := h.kept k (by simp)
theorem Own.perm {B : Nat} {w : World} {F G : List Res} (h : Own B w F) (p : F.Perm G) : Own B w G :=
 ⟨fun R hR => h.ok R (p.mem_iff.2 hR), fun R hR => h.lo R (p.mem_iff.2 hR), p.pairwise h.dis (fun {R Q} hRQ g hg hx => hRQ g hx hg)⟩
theorem Own.sub {B : Nat} {w : World} {F G : List Res} (h : Own B w F) (p : G.Sublist F) : Own B w G :=
 ⟨fun R hR => h.ok R (p.subset hR), fun R hR => h.lo R (p.subset hR), h.dis.sublist p⟩
theorem Own.low {B B' : Nat} {w : World} {F : List Res} (h : Own B w F) (hb : B' ≤ B) : Own B' w F :=
 ⟨h.ok, fun R hR g hg => by have := h.lo R hR g hg; omega, h.dis⟩
theorem Own.at {B : Nat} {w : World} {F1 F2 : List Res} {R : Res} (h : Own B w (F1 ++ R :: F2)) : R.holds w := h.ok R (by simp)
theorem Own.split {B : Nat} {w : World} {F1 F2 : List Res} {R : Res} (h : Own B w (F1 ++ R :: F2)) : Own B w (F1 ++ F2) ∧ (∀ g ∈ R.foot, B ≤ g ∧ g < w.heap.size) ∧ (∀ Q ∈ F1 ++ F2, ∀ g ∈ Q.foot, g ∉ R.foot) := by
 refine ⟨h.sub (by simp), h.lo R (by simp), fun Q hQ g hg hx => ?_⟩
 have hd := h.dis
 rw [List.pairwise_append] at hd
 obtain ⟨_, h2, h3⟩ := hd
 rcases Zap.1 hQ with hQ | hQ
 · exact h3 Q hQ R (by simp) g hg hx
 · exact (List.pairwise_cons.1 h2).1 Q hQ g hx hg
theorem Own.put {B : Nat} {w w' : World} {F1 F2 : List Res} {R R' : Res} {S : List Nat} (h : Own B w (F1 ++ R :: F2)) (k : Kept S w w') (hS : ∀ g ∈ S, g ∈ R.foot ∨ g < B ∨ w.heap.size ≤ g) (h1 : R'.holds w')
 (h2 : ∀ g ∈ R'.foot, g ∈ R.foot ∨ (w.heap.size ≤ g ∧ g < w'.heap.size)) (hB : B ≤ w.heap.size) : Own B w' (F1 ++ R' :: F2) := by
 obtain ⟨hF, hlo, hap⟩ := h.split
 have hz := k.size
 have hfr : ∀ Q ∈ F1 ++ F2, ∀ g ∈ Q.foot, g ∉ S := fun Q hQ g hg hx => by
  have := hF.lo Q hQ g hg
  rcases hS g hx with hr | hr | hr
  · exact hap Q hQ g hg hr
  · omega
  · omega
 have hap' : ∀ Q ∈ F1 ++ F2, ∀ g ∈ Q.foot, g ∉ R'.foot := fun Q hQ g hg hx => by
  rcases h2 g hx with hr | hr
  · exact hap Q hQ g hg hr
  · have := hF.lo Q hQ g hg; omega
 refine ⟨fun Q hQ => ?_, fun Q hQ g hg => ?_, ?_⟩
 · rcases Zap.1 hQ with hQ | hQ
   · exact Q.stable w w' S k (hfr Q (by simp [hQ])) (hF.ok Q (by simp [hQ]))
   · rcases Zmc.1 hQ with rfl | hQ
     · exact h1
     · exact Q.stable w w' S k (hfr Q (by simp [hQ])) (hF.ok Q (by simp [hQ]))
 · have hl : Q ∈ F1 ++ F2 ∨ Q = R' := by
    rcases Zap.1 hQ with hQ | hQ
    · exact .inl (by simp [hQ])
    · rcases Zmc.1 hQ with rfl | hQ
      · exact .inr rfl
      · exact .inl (by simp [hQ])
   rcases hl with hQ | rfl
   · have := hF.lo Q hQ g hg; omega
   · rcases h2 g hg with hr | hr
     · have := hlo g hr; omega
     · omega
 · have hd := hF.dis
   rw [List.pairwise_append] at hd ⊢
   obtain ⟨d1, d2, d3⟩ := hd
   refine ⟨d1, List.pairwise_cons.2 ⟨fun Q hQ g hg hx => hap' Q (by simp [hQ]) g hx hg, d2⟩, fun Q hQ Q' hQ' => ?_⟩
   rcases Zmc.1 hQ' with rfl | hQ'
   · exact hap' Q (by simp [hQ])
   · exact d3 Q hQ Q' hQ'
theorem Own.add {B : Nat} {w w' : World} {F : List Res} {R : Res} {S : List Nat} (h : Own B w F) (k : Kept S w w') (hS : ∀ g ∈ S, g < B ∨ w.heap.size ≤ g) (h1 : R.holds w') (h2 : ∀ g ∈ R.foot, w.heap.size ≤ g ∧ g < w'.heap.size) (hB : B ≤ w.heap.size) : Own B w' (R :: F) := by
 have hz := k.size
 have hk : ∀ Q ∈ F, ∀ g ∈ Q.foot, g ∉ S := fun Q hQ g hg hx => by have := h.lo Q hQ g hg; rcases hS g hx with h | h <;> omega
 refine ⟨fun Q hQ => ?_, fun Q hQ g hg => ?_, List.pairwise_cons.2 ⟨fun Q hQ g hg hx => by have := h.lo Q hQ g hx; have := h2 g hg; omega, h.dis⟩⟩
 · rcases Zmc.1 hQ with rfl | hQ
   · exact h1
   · exact Q.stable w w' S k (hk Q hQ) (h.ok Q hQ)
 · rcases Zmc.1 hQ with rfl | hQ
   · have := h2 g hg; omega
   · have := h.lo Q hQ g hg; omega
theorem Kept.own {B : Nat} {w0 w w' : World} {S : List Nat} (h : Kept [] w0 w) (k : Kept S w w') (hB : w0.heap.size ≤ B) (hS : ∀ g ∈ S, B ≤ g) : Kept [] w0 w' :=
 h.trans k (by simp) (fun x hx hl => by have := hS x hx; omega)
def Rs.map (r : Nat) (V : Value → Prop) (l : List (Value × Value)) : Res := ⟨[r], fun w => MapAt w V r l, fun w w' S k hs h => h.kept k (hs r (by simp))⟩
def Rs.row (E sz : Nat) (v : Value) (n : Nat) (cs : List Value) : Res := ⟨v.ownBlock.toList, fun w => w.ownsRow 0 E sz v n cs, fun w w' S k hs h => own_kept h k (fun g hg => hs g (by simp [hg]))⟩
def Rs.blk (b : Nat) (o : Obj) : Res := ⟨[b], fun w => w.heap[b]? = some o, fun w w' S k hs h => k.heap h (hs b (by simp))⟩
abbrev MRow := Value × Value × List Value
def rawR (L : List MRow) : List (Value × Value) := L.map fun x => (x.1, x.2.1)
def footR (L : List MRow) : List Nat := L.flatMap fun x => x.2.1.ownBlock.toList
structure RowsAt (w : World) (V : Value → Prop) (r E sz : Nat) (L : List MRow) : Prop where
 map : MapAt w V r (rawR L)
 each : ∀ x ∈ L, ∃ n, w.ownsRow 0 E sz x.2.1 n x.2.2
 dis : (r :: footR L).Nodup
theorem RowsAt.kept {w w' : World} {V : Value → Prop} {r E sz : Nat} {L : List MRow} {S : List Nat} (h : RowsAt w V r E sz L) (k : Kept S w w') (hs : ∀ g ∈ r :: footR L, g ∉ S) : RowsAt w' V r E sz L :=
 ⟨h.map.kept k (hs r (by simp)), fun x hx => by
   obtain ⟨n, hn⟩ := h.each x hx
   exact ⟨n, own_kept hn k (fun g hg => hs g (by
    simp only [Zmc]
    right
    unfold footR
    exact List.mem_flatMap.2 ⟨x, hx, by simp [hg]⟩))⟩, h.dis⟩
def Rs.rows (V : Value → Prop) (r E sz : Nat) (L : List MRow) : Res := ⟨r :: footR L, fun w => RowsAt w V r E sz L, fun w w' S k hs h => h.kept k hs⟩
theorem own_lt {w : World} {E sz : Nat} {v : Value} {n : Nat} {cs : List Value} (h : w.ownsRow 0 E sz v n cs) : ∀ g, v.ownBlock = some g → g < w.heap.size := by
 intro g hg
 rcases h.2 with ⟨rfl, _⟩ | ⟨g', cap, cur, rfl, _, hg', _⟩
 · simp [Value.ownBlock] at hg
 · simp only [Value.ownBlock, Option.some.injEq] at hg
   subst hg
   exact lt_of_heap hg'
theorem RowsAt.lt {w : World} {V : Value → Prop} {r E sz : Nat} {L : List MRow} (h : RowsAt w V r E sz L) : ∀ g ∈ r :: footR L, g < w.heap.size := by
 intro g hg
 rcases Zmc.1 hg with rfl | hg
 · exact h.map.lt
 · obtain ⟨x, hx, hgx⟩ := List.mem_flatMap.1 hg
   obtain ⟨n, hn⟩ := h.each x hx
   exact own_lt hn g (by simpa using hgx)
theorem RowsAt.new {w : World} (V : Value → Prop) (E sz : Nat) : RowsAt (w.alloc (.map #[] 0)) V w.heap.size E sz [] := ⟨MapAt.new w V, by simp, by simp [footR]⟩
theorem RowsAt.keys {w : World} {V : Value → Prop} {r E sz : Nat} {L : List MRow} (h : RowsAt w V r E sz L) : (L.map (·.1)).Nodup := by
 have := h.map.nodup
 simpa [rawR, Function.comp_def] using this
theorem footR_append (A B : List MRow) : footR (A ++ B) = footR A ++ footR B := by simp [footR]
theorem footR_cons (x : MRow) (B : List MRow) : footR (x :: B) = x.2.1.ownBlock.toList ++ footR B := by simp [footR]
theorem rawR_append (A B : List MRow) : rawR (A ++ B) = rawR A ++ rawR B := by simp [rawR]
theorem rawR_cons (x : MRow) (B : List MRow) : rawR (x :: B) = (x.1, x.2.1) :: rawR B := by simp [rawR]
theorem RowsAt.put {w w1 w2 : World} {V : Value → Prop} {r E sz : Nat} {A B : List MRow} {k v v' : Value} {xs ys : List Value} {n : Nat} (h : RowsAt w V r E sz (A ++ (k, v, xs) :: B)) (k1 : Kept v.ownBlock.toList w w1)
 (hown : w1.ownsRow 0 E sz v' n ys) (hv : ∀ g, v'.ownBlock = some g → v.ownBlock = some g ∨ w.heap.size ≤ g) (k2 : Kept [r] w1 w2) (hm : MapAt w2 V r (putE (rawR (A ++ (k, v, xs) :: B)) k v')) :
 RowsAt w2 V r E sz (A ++ (k, v', ys) :: B) ∧ (∀ g ∈ r :: footR (A ++ (k, v', ys) :: B), g ∈ r :: footR (A ++ (k, v, xs) :: B) ∨ (w.heap.size ≤ g ∧ g < w1.heap.size)) := by
 have hd := h.dis
 have hlt := h.lt
 have hnk : ((rawR (A ++ (k, v, xs) :: B)).map (·.1)).Nodup := h.map.nodup
 rw [rawR_append, rawR_cons] at hm hnk
 rw [putE_hit hnk] at hm
 have hfa : ∀ g ∈ footR A ++ footR B, g ∉ v.ownBlock.toList ∧ g ≠ r := by
  intro g hg
  rw [footR_append, footR_cons] at hd
  rw [List.nodup_cons, List.nodup_append, List.nodup_append] at hd
  obtain ⟨d0, d1, ⟨d2, d3, d4⟩, d5⟩ := hd
  refine ⟨fun hx => ?_, fun e => ?_⟩
  · rcases Zap.1 hg with hg | hg
    · exact d5 g hg g (by simp only [Zap]; exact .inl hx) rfl
    · exact d4 g hx g hg rfl
  · subst e
    apply d0
    simp only [Zap] at hg ⊢
    grind
 have hrv : r ∉ v.ownBlock.toList := by
  intro hx
  rw [footR_append, footR_cons, List.nodup_cons] at hd
  apply hd.1
  simp only [Zap]; grind
 have hlr := hlt r (by simp)
 have hv'r : ∀ g, v'.ownBlock = some g → g ≠ r := by
  intro g hg e
  subst e
  rcases hv g hg with h1 | h1
  · exact hrv (by simp [h1])
  · omega
 have hlo : ∀ g ∈ footR A ++ footR B, g < w.heap.size := fun g hg => hlt g (by
  rw [footR_append, footR_cons]; simp only [Zap, Zmc] at hg ⊢; grind)
 refine ⟨⟨by rw [rawR_append, rawR_cons]; exact hm, fun x hx => ?_, ?_⟩, fun g hg => ?_⟩
 · have old : ∀ x ∈ A ++ B, ∃ n, w2.ownsRow 0 E sz x.2.1 n x.2.2 := by
    intro x hx
    obtain ⟨m, hm⟩ := h.each x (by simp only [Zap, Zmc] at hx ⊢; grind)
    have hfx : ∀ g, x.2.1.ownBlock = some g → g ∈ footR A ++ footR B := fun g hg => by
     rw [← footR_append]; unfold footR; exact List.mem_flatMap.2 ⟨x, hx, by simp [hg]⟩
    exact ⟨m, own_kept (own_kept hm k1 (fun g hg => (hfa g (hfx g hg)).1)) k2 (fun g hg => by simpa using (hfa g (hfx g hg)).2)⟩
   rcases Zap.1 hx with hx | hx
   · exact old x (by simp [hx])
   · rcases Zmc.1 hx with rfl | hx
     · exact ⟨n, own_kept hown k2 (fun g hg => by simpa using hv'r g hg)⟩
     · exact old x (by simp [hx])
 · rw [footR_append, footR_cons] at hd ⊢
   rw [List.nodup_cons, List.nodup_append, List.nodup_append] at hd ⊢
   obtain ⟨d0, d1, ⟨d2, d3, d4⟩, d5⟩ := hd
   have hv'n : ∀ g ∈ footR A ++ footR B, g ∉ v'.ownBlock.toList := by
    intro g hg hx
    rcases hv g (by simpa using hx) with h1 | h1
    · exact (hfa g hg).1 (by simp [h1])
    · have := hlo g hg; omega
   refine ⟨?_, d1, ⟨?_, d3, ?_⟩, ?_⟩
   · simp only [Zap, not_or] at d0 ⊢
     exact ⟨d0.1, fun hx => hv'r r (by simpa using hx) rfl, d0.2.2⟩
   · cases v'.ownBlock <;> simp
   · intro a ha b hb e
     subst e
     exact hv'n a (by simp [hb]) ha
   · intro a ha b hb e
     subst e
     rcases Zap.1 hb with hb | hb
     · exact hv'n a (by simp [ha]) hb
     · exact d5 a ha a (by simp [hb]) rfl
 · rw [footR_append, footR_cons] at hg ⊢
   simp only [Zmc, Zap] at hg ⊢
   rcases hg with h1 | h1 | h1 | h1
   · grind
   · grind
   · have hl := own_lt hown g (by simpa using h1)
     rcases hv g (by simpa using h1) with h2 | h2
     · left; right; right; left; simp [h2]
     · right; exact ⟨h2, hl⟩
   · grind
theorem RowsAt.snoc {w w1 w2 : World} {V : Value → Prop} {r E sz : Nat} {A : List MRow} {k v : Value} {ys : List Value} {n : Nat} (h : RowsAt w V r E sz A) (k1 : Kept [] w w1)
 (hown : w1.ownsRow 0 E sz v n ys) (hv : ∀ g, v.ownBlock = some g → w.heap.size ≤ g) (k2 : Kept [r] w1 w2) (hk : k ∉ A.map (·.1)) (hm : MapAt w2 V r (putE (rawR A) k v)) :
 RowsAt w2 V r E sz (A ++ [(k, v, ys)]) ∧ (∀ g ∈ r :: footR (A ++ [(k, v, ys)]), g ∈ r :: footR A ∨ (w.heap.size ≤ g ∧ g < w1.heap.size)) := by
 have hlt := h.lt
 have hmiss : ∀ u, (k, u) ∉ rawR A := by
  intro u hu
  apply hk
  obtain ⟨x, hx, e⟩ := List.mem_map.1 hu
  exact List.mem_map.2 ⟨x, hx, (Prod.mk.inj e).1⟩
 rw [putE_miss hmiss] at hm
 have hd := h.dis
 have hlr := hlt r (by simp)
 refine ⟨⟨by rw [rawR_append]; exact hm, fun x hx => ?_, ?_⟩, fun g hg => ?_⟩
 · rcases Zap.1 hx with hx | hx
   · obtain ⟨m, hm⟩ := h.each x hx
     refine ⟨m, own_kept (own_kept hm k1 (by simp)) k2 (fun g hg e => ?_)⟩
     simp only [Zmc, Znn, or_false] at e
     subst e
     rw [List.nodup_cons] at hd
     exact hd.1 (by unfold footR; exact List.mem_flatMap.2 ⟨x, hx, by simp [hg]⟩)
   · simp only [Zmc, Znn, or_false] at hx
     subst hx
     exact ⟨n, own_kept hown k2 (fun g hg e => by simp only [Zmc, Znn, or_false] at e; have := hv g hg; omega)⟩
 · rw [footR_append, footR_cons]
   rw [List.nodup_cons] at hd ⊢
   refine ⟨fun hx => ?_, ?_⟩
   · simp only [footR, List.flatMap_nil, List.append_nil, Zap] at hx
     rcases hx with hx | hx
     · exact hd.1 hx
     · have := hv r (by simpa using hx); omega
   · rw [List.nodup_append]
     refine ⟨hd.2, by cases v.ownBlock <;> simp [footR], fun a ha b hb e => ?_⟩
     subst e
     simp only [footR, List.flatMap_nil, List.append_nil] at hb
     have := hv a (by simpa using hb)
     have := hlt a (by simp [ha])
     omega
 · rw [footR_append, footR_cons] at hg
   simp only [footR, List.flatMap_nil, List.append_nil, Zmc, Zap] at hg ⊢
   rcases hg with h1 | h1 | h1
   · grind
   · grind
   · right; exact ⟨hv g (by simpa using h1), own_lt hown g (by simpa using h1)⟩
section
variable {P : Program} {w : World} {V : Value → Prop} {r it : Nat} {l left : List (Value × Value)} {T kT eT : TypeId}
theorem map_update_iter (h : MapAt w V r l) (K : KeyT P kT V) (hT : P.underlying T = some (.map kT eT)) {k : Value} (hVk : V k) (v : Value) (hi : IterAt w it r l left) (hne : it ≠ r) (hin : ∃ u, (k, u) ∈ l) (hout : ∀ u, (k, u) ∉ left) :
 ∃ w', (Instr.mapUpdate T (.map (some r)) k v).run P w = .ok () w' ∧ MapAt w' V r (putE l k v) ∧ Kept [r] w w' ∧ w'.heap.size = w.heap.size ∧ IterAt w' it r (putE l k v) left := by
 obtain ⟨w', hrun, hm, hk, hs⟩ := map_update h K hT hVk v
 refine ⟨w', hrun, hm, hk, hs, ?_⟩
 obtain ⟨es, c, hr, hl, hb, hc, hV, hn⟩ := h
 obtain ⟨es', c', si, se, la, hit, hr', hl', hb', i1, i2, i3, hleft⟩ := hi
 rw [hr] at hr'
 cases hr'
 have hes : ∀ e ∈ es.toList, V e.key := fun e he => hV (e.key, e.val) (by rw [← hl]; exact List.mem_map_of_mem (f := fun e : MapEntry => (e.key, e.val)) he)
 cases hf : findVal k es.toList 0 with
 | none =>
   obtain ⟨u, hu⟩ := hin
   rw [← hl] at hu
   exact absurd hu (findVal_none hf u)
 | some p =>
   obtain ⟨j, u⟩ := p
   obtain ⟨l1, e, l2, h1, h2, h3, h4, h5⟩ := findVal_some hf
   have hj : j = l1.length := by omega
   subst hj
   have hei : es[l1.length]? = some e := by rw [← Array.getElem?_toList, h1]; simp
   have hl2 : l = l1.map (fun e => (e.key, e.val)) ++ (k, u) :: l2.map (fun e => (e.key, e.val)) := by rw [← hl, h1]; simp [h3, h4]
   have hrun2 : (Instr.mapUpdate T (.map (some r)) k v).run P w = .ok () { w with heap := w.heap.setIfInBounds r (.map (es.modify l1.length fun e => { e with key := k, val := v }) c) } := by
    simp only [Instr.mapUpdate, Sem.run_bind, run_underlying hT, Result.andThen_ok, run_getMap hr, K.check _ _ _ hVk, K.find _ _ _ hVk hes, hf, hei, Option.map_some, Option.getD_some, h3, K.stay _ _ hVk]
    exact run_setMap hr _
   rw [hrun2] at hrun
   cases hrun
   have hmod : (es.modify l1.length fun e => { e with key := k, val := v }).toList = l1 ++ { e with key := k, val := v } :: l2 := by
    rw [Array.toList_modify, h1, list_modify_at]
   rw [hl2] at hn
   have hseen : se.contains e.born = true := by
    cases hcs : se.contains e.born
    · exfalso
      apply hout u
      rw [hleft]
      exact List.mem_map.2 ⟨e, List.mem_filter.2 ⟨by rw [h1]; simp, by rw [hcs]; rfl⟩, by rw [h3, h4]⟩
    · rfl
   refine ⟨_, c, si, se, la, (setBlk_kept w r _).heap hit (by simpa using hne), setBlk_at w _ hr, ?_, ?_, ?_, ?_, ?_, ?_⟩
   · rw [hl2, putE_hit hn, hmod]; simp
   · rw [hmod]; rw [h1] at hb'; simpa using hb'
   all_goals try
    (intro x hx
     rw [hmod] at hx
     rw [h1] at i1 i2 i3
     rcases Zap.1 hx with hx | hx
     · first | exact i1 x (by simp [hx]) | exact i2 x (by simp [hx]) | exact i3 x (by simp [hx])
     · rcases Zmc.1 hx with rfl | hx
       · first | exact i1 e (by simp) | exact i2 e (by simp) | exact i3 e (by simp)
       · first | exact i1 x (by simp [hx]) | exact i2 x (by simp [hx]) | exact i3 x (by simp [hx]))
   rw [hleft, hmod, h1]
   have hs1 : (!se.contains e.born) = false := by rw [hseen]; rfl
   simp only [List.filter_append, List.filter_cons, hs1, Bool.false_eq_true, if_false]
end
end
section
open Go Go.RowKit
open Classical
structure Carry {α : Type} (lt : α → α → Prop) (i : Nat) (L : List α) (j : Nat) : Prop where
 ex : ∃ p x q c, L = p ++ x :: (q ++ c) ∧ p.length = j ∧ p.length + q.length = i ∧ (p ++ q).Pairwise (fun a b => ¬ lt b a) ∧ ∀ y ∈ q, lt x y
theorem carry_start {α : Type} {lt : α → α → Prop} {i : Nat} {L : List α} (h : (L.take i).Pairwise (fun a b => ¬ lt b a)) (hi : i < L.length) : Carry lt i L i := by
 refine ⟨L.take i, L[i], [], L.drop (i+1), ?_, by simp; omega, by simp; omega, by simpa using h, by simp⟩
 simp
theorem carry_swap {α : Type} {lt : α → α → Prop} {i j : Nat} {L : List α} (h : Carry lt i L j) (hj : 0 < j) (hl : j < L.length) (hlt : lt L[j] (L[j-1]'(by omega))) :
 Carry lt i ((L.set j (L[j-1]'(by omega))).set (j-1) L[j]) (j-1) := by
 obtain ⟨p, x, q, c, rfl, rfl, hi, hs, hx⟩ := h.ex
 have hne : p ≠ [] := by intro h0; subst h0; simp at hj
 obtain ⟨p', y, rfl⟩ : ∃ p' y, p = p' ++ [y] := ⟨p.dropLast, p.getLast hne, (List.dropLast_concat_getLast hne).symm⟩
 have e1 : (p' ++ [y] ++ x :: (q ++ c))[(p' ++ [y]).length]'hl = x := by simp
 have e2 : (p' ++ [y] ++ x :: (q ++ c))[(p' ++ [y]).length - 1]'(by omega) = y := by simp
 rw [e1, e2] at hlt
 refine ⟨p', x, y :: q, c, ?_, by simp, by simp at hi ⊢; omega, by simpa using hs, fun z hz => ?_⟩
 · rw [e1, e2]
   simp
 · rcases Zmc.1 hz with rfl | hz
   · exact hlt
   · exact hx z hz
theorem carry_done {α : Type} {lt : α → α → Prop} {i j : Nat} {L : List α} (asy : ∀ a b, lt a b → ¬ lt b a) (tr : ∀ a b c, ¬ lt b a → ¬ lt c b → ¬ lt c a) (h : Carry lt i L j) (hd : j = 0 ∨ ∃ (hl : j < L.length) (h0 : 0 < j), ¬ lt L[j] (L[j-1]'(by omega))) :
 (L.take (i+1)).Pairwise (fun a b => ¬ lt b a) := by
 obtain ⟨p, x, q, c, rfl, rfl, hi, hs, hx⟩ := h.ex
 have ht : (p ++ x :: (q ++ c)).take (i+1) = p ++ x :: q := by
  have : i + 1 = (p ++ x :: q).length := by simp; omega
  rw [this, show p ++ x :: (q ++ c) = (p ++ x :: q) ++ c by simp, List.take_left']
  rfl
 rw [ht]
 rw [List.pairwise_append] at hs ⊢
 obtain ⟨hp, hq, hpq⟩ := hs
 refine ⟨hp, List.pairwise_cons.2 ⟨fun y hy => asy _ _ (hx y hy), hq⟩, fun a ha b hb => ?_⟩
 rcases Zmc.1 hb with rfl | hb
 · rcases hd with h0 | ⟨hl, h0, hn⟩
   · simp only [List.length_eq_zero_iff] at h0
     subst h0
     simp at ha
   · have hne : p ≠ [] := by intro h1; subst h1; simp at h0
     obtain ⟨p', y, rfl⟩ : ∃ p' y, p = p' ++ [y] := ⟨p.dropLast, p.getLast hne, (List.dropLast_concat_getLast hne).symm⟩
     have e1 : (p' ++ [y] ++ b :: (q ++ c))[(p' ++ [y]).length]'hl = b := by simp
     have e2 : (p' ++ [y] ++ b :: (q ++ c))[(p' ++ [y]).length - 1]'(by omega) = y := by simp
     rw [e1, e2] at hn
     rcases Zap.1 ha with ha | ha
     · exact tr _ _ _ ((List.pairwise_append.1 hp).2.2 a ha y (by simp)) hn
     · simp only [List.mem_singleton] at ha
       subst ha
       exact hn
 · exact hpq a ha b hb
end
end Go.Proofs.YticcnlpfmekagaaGreat
