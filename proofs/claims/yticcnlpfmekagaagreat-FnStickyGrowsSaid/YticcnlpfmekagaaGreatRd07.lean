/- Part 7 of 51 of the proof of the row: the texts Big, Safe, Own, Ins. -/
import Derived.Test.YticcnlpfmekagaaGreatRd06
import Derived.Defers
import Derived.Recover
import Derived.Test.YticcnlpfmekagaaGreatRd04
namespace Go.Proofs.YticcnlpfmekagaaGreat
open Go Go.Proofs Go.RowKit
set_option linter.unusedVariables false
set_option linter.unusedSimpArgs false

/-! ## the reference's numbers, the highest byte first -/

theorem elU8 : Elem Tryz.prog 28 5 1 1 (.int .u8 0) := ⟨Tryz.underlying28, info_parts info5', rfl, by omega⟩

theorem be32_mod (x : Int) : be32 (x % 4294967296) = [Value.int .u8 (x / 16777216 % 256), .int .u8 (x / 65536 % 256), .int .u8 (x / 256 % 256), .int .u8 (x % 256)] := by
  have a1 : x % 4294967296 / 16777216 = x / 16777216 % 256 := by omega
  have a2 : x % 4294967296 / 65536 % 256 = x / 65536 % 256 := by omega
  have a3 : x % 4294967296 / 256 % 256 = x / 256 % 256 := by omega
  have a4 : x % 4294967296 % 256 = x % 256 := by omega
  unfold be32; rw [a1, a2, a3, a4]
theorem be16_mod (x : Int) : be16 (x % 65536) = [Value.int .u8 (x / 256 % 256), .int .u8 (x % 256)] := by
  have a1 : x % 65536 / 256 = x / 256 % 256 := by omega
  have a2 : x % 65536 % 256 = x % 256 := by omega
  unfold be16; rw [a1, a2]

theorem src_one {w : World} {g : Nat} {u : Value} {T : Nat} {fr : Nat × Nat} (hg : w.heap[g]? = some (.cells #[u] T fr)) (h1 : u.oneCell' = true) {tx e' : TypeId} (hk : Tryz.prog.underlying tx = some (.slice e')) : Src Tryz.prog 1 tx (.slice (some ⟨g, 0, none⟩) 1 1) 1 [u] w := by
  refine SlAt.src (w := w) ⟨rfl, by simpa using h1, .inr ⟨g, 0, 1, rfl, fun j u' hj => ?_⟩⟩ hk
  have : j = 0 := by
    cases j with
    | zero => rfl
    | succ j => simp at hj
  subst this
  simp at hj; subst hj
  simp [World.cell?, hg]

set_option maxRecDepth 100000 in
set_option maxHeartbeats 1000000 in
theorem big4 (x : Int) (w : World) (h0 : -9223372036854775808 ≤ x) (h1 : x ≤ 9223372036854775807) :
    Calls Tryz.prog 22 #[.int .i64 x, .int .i64 4] w fun e w' => ∃ v, e = .returned v ∧ w'.ownsRow 0 5 1 v 4 (be32 (x % 4294967296)) ∧ Kept [] w w' ∧ Fresh w v := by
  go_enter Tryz.func22, Tryz.ntmps22
  go_wp2
  refine wp_loop_rounds 5 ?_
  rw [rounds_succ]
  go_wp2_with (refine wl_app (v := .slice none 0 0) rfl rfl elU8 rfl rfl (World.ownsRow_nil _ _ _ _) (src_one (heap_alloc_new w _) rfl Tryz.underlying28) (by omega) (by omega) ?_; intro v1 w1 ho1 hk1 hd1)
  rw [rounds_succ]
  go_wp2_with (refine wl_app (v := v1) rfl rfl elU8 rfl rfl (ho1.alloc _) (src_one (heap_alloc_new w1 _) rfl Tryz.underlying28) (by omega) (by omega) ?_; intro v2 w2 ho2 hk2 hd2)
  rw [rounds_succ]
  go_wp2_with (refine wl_app (v := v2) rfl rfl elU8 rfl rfl (ho2.alloc _) (src_one (heap_alloc_new w2 _) rfl Tryz.underlying28) (by omega) (by omega) ?_; intro v3 w3 ho3 hk3 hd3)
  rw [rounds_succ]
  go_wp2_with (refine wl_app (v := v3) rfl rfl elU8 rfl rfl (ho3.alloc _) (src_one (heap_alloc_new w3 _) rfl Tryz.underlying28) (by omega) (by omega) ?_; intro v4 w4 ho4 hk4 hd4)
  rw [rounds_succ]
  go_wp2
  go_ret
  obtain ⟨f1, k1⟩ := app_step (Fresh.nil w) ((Kept.refl [] w).alloc _) hk1 hd1
  obtain ⟨f2, k2⟩ := app_step f1 (k1.alloc _) hk2 hd2
  obtain ⟨f3, k3⟩ := app_step f2 (k2.alloc _) hk3 hd3
  obtain ⟨f4, k4⟩ := app_step f3 (k3.alloc _) hk4 hd4
  refine ⟨v4, rfl, ?_, k4, f4⟩
  have e := be32_mod x
  rw [e]
  exact ho4

set_option maxRecDepth 100000 in
set_option maxHeartbeats 1000000 in
theorem big2 (x : Int) (w : World) (h0 : -9223372036854775808 ≤ x) (h1 : x ≤ 9223372036854775807) :
    Calls Tryz.prog 22 #[.int .i64 x, .int .i64 2] w fun e w' => ∃ v, e = .returned v ∧ w'.ownsRow 0 5 1 v 2 (be16 (x % 65536)) ∧ Kept [] w w' ∧ Fresh w v := by
  go_enter Tryz.func22, Tryz.ntmps22
  go_wp2
  refine wp_loop_rounds 3 ?_
  rw [rounds_succ]
  go_wp2_with (refine wl_app (v := .slice none 0 0) rfl rfl elU8 rfl rfl (World.ownsRow_nil _ _ _ _) (src_one (heap_alloc_new w _) rfl Tryz.underlying28) (by omega) (by omega) ?_; intro v1 w1 ho1 hk1 hd1)
  rw [rounds_succ]
  go_wp2_with (refine wl_app (v := v1) rfl rfl elU8 rfl rfl (ho1.alloc _) (src_one (heap_alloc_new w1 _) rfl Tryz.underlying28) (by omega) (by omega) ?_; intro v2 w2 ho2 hk2 hd2)
  rw [rounds_succ]
  go_wp2
  go_ret
  obtain ⟨f1, k1⟩ := app_step (Fresh.nil w) ((Kept.refl [] w).alloc _) hk1 hd1
  obtain ⟨f2, k2⟩ := app_step f1 (k1.alloc _) hk2 hd2
  refine ⟨v2, rfl, ?_, k2, f2⟩
  have e := be16_mod x
  rw [e]
  exact ho2
end Go.Proofs.YticcnlpfmekagaaGreat
namespace Go.Proofs.YticcnlpfmekagaaGreat
open Go Go.Proofs Go.RowKit
set_option linter.unusedVariables false
set_option linter.unusedSimpArgs false

/-! ## safe -/

def HasBody (f : FuncId) : Prop := ∀ (args : Array Value) (w : World), (callFunc f args).run Tryz.prog w = .ok (.enter f args) w

set_option maxRecDepth 100000 in
set_option maxHeartbeats 400000 in
theorem catch_idle (p : Addr) (w : World) (x : Value) (hc : w.cell? p = some x) (hz : w.frozen? p = false) :
    CallsD Tryz.prog 72 #[.pointer (some p)] .returning w fun e u' w' => e = .returned (.tuple #[]) ∧ u' = .returning ∧ w' = w.setCell p (.bool true) := by
  refine callsD_of_wpS Tryz.func72 rfl fun c₀ cs hu => ?_
  apply wpS_region
  simp [wpOpsS, go_sem, recoverD, hu, Tryz.ntmps72, Exit.thenS, hc, hz, bodyPostS, results, Tryz.results72]
  cases c₀
  simp_all

set_option maxRecDepth 100000 in
set_option maxHeartbeats 400000 in
theorem safe_any (f : FuncId) (cap : Array Value) (w : World) (R : World → Prop) (S : List Nat) (hf : HasBody f) (hS : ∀ x ∈ S, x < w.heap.size)
    (h : Calls Tryz.prog f cap (w.alloc (.cells #[.bool false] 4)) fun e w' => e = .returned (.tuple #[]) ∧ R w' ∧ Kept S (w.alloc (.cells #[.bool false] 4)) w') :
    Calls Tryz.prog 43 #[.func (.func f) #[] cap] w fun e w' => e = .returned (.bool true) ∧ ∃ w1, R w1 ∧ Kept S w w1 ∧ Kept [w.heap.size] w1 w' := by
  have HH := Lib.hid h; clear h
  unfold HasBody at hf
  go_enter_defers Tryz.func43, Tryz.ntmps43
  go_wp2_with fail
  refine HH.out.mono ?_
  rintro e w1 ⟨rfl, hR, hk⟩
  have hne : w.heap.size ∉ S := fun hx => Nat.lt_irrefl _ (hS _ hx)
  have hc : w1.cell? ⟨w.heap.size, 0, none⟩ = some (.bool false) :=
    hk.cell (p := ⟨w.heap.size, 0, none⟩) (by simp [go_sem]) hne
  have hz : w1.frozen? ⟨w.heap.size, 0, none⟩ = false :=
    hk.frz (p := ⟨w.heap.size, 0, none⟩) (by simp [go_sem]) (by simp [go_sem]) hne
  have hlt : w.heap.size < w1.heap.size := by have := hk.size; simp [go_sem] at this; omega
  go_wp2_with fail
  refine leaves_cons (f := 72) (args := #[.pointer (some ⟨w.heap.size, 0, none⟩)]) (by simp) (by simp [go_sem]) ?_
  refine (catch_idle ⟨w.heap.size, 0, none⟩ _ (.bool true) ?_ ?_).mono ?_
  · simp [go_sem, hc]
  · simp [go_sem, hz]
  rintro e u' w'' ⟨rfl, rfl, rfl⟩
  have h1 : Kept S w w1 := ((Kept.refl S w).alloc _).trans hk (fun x hx => hx) (fun x hx _ => hx)
  have h2 : Kept [w.heap.size] w1 ((w1.setCell ⟨w.heap.size, 0, none⟩ (.bool true)).setCell ⟨w.heap.size, 0, none⟩ (.bool true)) :=
    ((Kept.refl _ _).setCell _ (by simp)).setCell _ (by simp)
  simp [Leaves, settle, results, Tryz.results43, go_sem, hc]
  exact ⟨w1, hR, h1, h2⟩
end Go.Proofs.YticcnlpfmekagaaGreat
namespace Go.Proofs.YticcnlpfmekagaaGreat
open Go Go.RowKit
open Classical
set_option linter.unusedVariables false
set_option linter.unusedSimpArgs false

/-! ## What a call owns: resources with footprints that lie apart -/

structure Res where
  foot : List Nat
  holds : World → Prop
  stable : ∀ (w w' : World) (S : List Nat), Kept S w w' → (∀ g ∈ foot, g ∉ S) → holds w → holds w'

structure Own (B : Nat) (w : World) (F : List Res) : Prop where
  ok : ∀ R ∈ F, R.holds w
  lo : ∀ R ∈ F, ∀ g ∈ R.foot, B ≤ g ∧ g < w.heap.size
  dis : F.Pairwise (fun R Q => ∀ g ∈ R.foot, g ∉ Q.foot)

theorem Own.nil (B : Nat) (w : World) : Own B w [] := ⟨by simp, by simp, List.Pairwise.nil⟩
theorem Own.kept {B : Nat} {w w' : World} {F : List Res} {S : List Nat} (h : Own B w F) (k : Kept S w w') (hs : ∀ x ∈ S, x < B) : Own B w' F :=
  ⟨fun R hR => R.stable w w' S k (fun g hg hx => by have := (h.lo R hR g hg).1; have := hs g hx; omega) (h.ok R hR), fun R hR g hg => by have := h.lo R hR g hg; have := k.size; omega, h.dis⟩
theorem Own.kept0 {B : Nat} {w w' : World} {F : List Res} (h : Own B w F) (k : Kept [] w w') : Own B w' F := h.kept k (by simp)
theorem Own.perm {B : Nat} {w : World} {F G : List Res} (h : Own B w F) (p : F.Perm G) : Own B w G :=
  ⟨fun R hR => h.ok R (p.mem_iff.2 hR), fun R hR => h.lo R (p.mem_iff.2 hR), p.pairwise h.dis (fun {R Q} hRQ g hg hx => hRQ g hx hg)⟩
theorem Own.sub {B : Nat} {w : World} {F G : List Res} (h : Own B w F) (p : G.Sublist F) : Own B w G :=
  ⟨fun R hR => h.ok R (p.subset hR), fun R hR => h.lo R (p.subset hR), h.dis.sublist p⟩
theorem Own.low {B B' : Nat} {w : World} {F : List Res} (h : Own B w F) (hb : B' ≤ B) : Own B' w F :=
  ⟨h.ok, fun R hR g hg => by have := h.lo R hR g hg; omega, h.dis⟩
theorem Own.at {B : Nat} {w : World} {F1 F2 : List Res} {R : Res} (h : Own B w (F1 ++ R :: F2)) : R.holds w := h.ok R (by simp)
theorem Own.split {B : Nat} {w : World} {F1 F2 : List Res} {R : Res} (h : Own B w (F1 ++ R :: F2)) : Own B w (F1 ++ F2) ∧ (∀ g ∈ R.foot, B ≤ g ∧ g < w.heap.size) ∧ (∀ Q ∈ F1 ++ F2, ∀ g ∈ Q.foot, g ∉ R.foot) := by
  refine ⟨h.sub (by simp), h.lo R (by simp), fun Q hQ g hg hx => ?_⟩
  have hd := h.dis
  rw [List.pairwise_append] at hd
  obtain ⟨_, h2, h3⟩ := hd
  rcases List.mem_append.1 hQ with hQ | hQ
  · exact h3 Q hQ R (by simp) g hg hx
  · exact (List.pairwise_cons.1 h2).1 Q hQ g hx hg
/-- one resource turned into another one: the rest stays -/
theorem Own.put {B : Nat} {w w' : World} {F1 F2 : List Res} {R R' : Res} {S : List Nat} (h : Own B w (F1 ++ R :: F2)) (k : Kept S w w') (hS : ∀ g ∈ S, g ∈ R.foot ∨ g < B ∨ w.heap.size ≤ g) (h1 : R'.holds w')
    (h2 : ∀ g ∈ R'.foot, g ∈ R.foot ∨ (w.heap.size ≤ g ∧ g < w'.heap.size)) (hB : B ≤ w.heap.size) : Own B w' (F1 ++ R' :: F2) := by
  obtain ⟨hF, hlo, hap⟩ := h.split
  have hz := k.size
  have hfr : ∀ Q ∈ F1 ++ F2, ∀ g ∈ Q.foot, g ∉ S := fun Q hQ g hg hx => by
    have := hF.lo Q hQ g hg
    rcases hS g hx with hr | hr | hr
    · exact hap Q hQ g hg hr
    · omega
    · omega
  have hap' : ∀ Q ∈ F1 ++ F2, ∀ g ∈ Q.foot, g ∉ R'.foot := fun Q hQ g hg hx => by
    rcases h2 g hx with hr | hr
    · exact hap Q hQ g hg hr
    · have := hF.lo Q hQ g hg; omega
  refine ⟨fun Q hQ => ?_, fun Q hQ g hg => ?_, ?_⟩
  · rcases List.mem_append.1 hQ with hQ | hQ
    · exact Q.stable w w' S k (hfr Q (by simp [hQ])) (hF.ok Q (by simp [hQ]))
    · rcases List.mem_cons.1 hQ with rfl | hQ
      · exact h1
      · exact Q.stable w w' S k (hfr Q (by simp [hQ])) (hF.ok Q (by simp [hQ]))
  · have hl : Q ∈ F1 ++ F2 ∨ Q = R' := by
      rcases List.mem_append.1 hQ with hQ | hQ
      · exact .inl (by simp [hQ])
      · rcases List.mem_cons.1 hQ with rfl | hQ
        · exact .inr rfl
        · exact .inl (by simp [hQ])
    rcases hl with hQ | rfl
    · have := hF.lo Q hQ g hg; omega
    · rcases h2 g hg with hr | hr
      · have := hlo g hr; omega
      · omega
  · have hd := hF.dis
    rw [List.pairwise_append] at hd ⊢
    obtain ⟨d1, d2, d3⟩ := hd
    refine ⟨d1, List.pairwise_cons.2 ⟨fun Q hQ g hg hx => hap' Q (by simp [hQ]) g hx hg, d2⟩, fun Q hQ Q' hQ' => ?_⟩
    rcases List.mem_cons.1 hQ' with rfl | hQ'
    · exact hap' Q (by simp [hQ])
    · exact d3 Q hQ Q' hQ'
theorem Own.add {B : Nat} {w w' : World} {F : List Res} {R : Res} {S : List Nat} (h : Own B w F) (k : Kept S w w') (hS : ∀ g ∈ S, g < B ∨ w.heap.size ≤ g) (h1 : R.holds w') (h2 : ∀ g ∈ R.foot, w.heap.size ≤ g ∧ g < w'.heap.size) (hB : B ≤ w.heap.size) : Own B w' (R :: F) := by
  have hz := k.size
  have hk : ∀ Q ∈ F, ∀ g ∈ Q.foot, g ∉ S := fun Q hQ g hg hx => by have := h.lo Q hQ g hg; rcases hS g hx with h | h <;> omega
  refine ⟨fun Q hQ => ?_, fun Q hQ g hg => ?_, List.pairwise_cons.2 ⟨fun Q hQ g hg hx => by have := h.lo Q hQ g hx; have := h2 g hg; omega, h.dis⟩⟩
  · rcases List.mem_cons.1 hQ with rfl | hQ
    · exact h1
    · exact Q.stable w w' S k (hk Q hQ) (h.ok Q hQ)
  · rcases List.mem_cons.1 hQ with rfl | hQ
    · have := h2 g hg; omega
    · have := h.lo Q hQ g hg; omega
theorem Own.merge {B : Nat} {w : World} {F : List Res} {R Q M : Res} (h : Own B w (R :: Q :: F)) (h1 : R.holds w → Q.holds w → M.holds w) (h2 : ∀ g ∈ M.foot, g ∈ R.foot ∨ g ∈ Q.foot) : Own B w (M :: F) := by
  have hd := h.dis
  rw [List.pairwise_cons, List.pairwise_cons] at hd
  refine ⟨fun T hT => ?_, fun T hT g hg => ?_, List.pairwise_cons.2 ⟨fun T hT g hg hx => ?_, hd.2.2⟩⟩
  · rcases List.mem_cons.1 hT with rfl | hT
    · exact h1 (h.ok R (by simp)) (h.ok Q (by simp))
    · exact h.ok T (by simp [hT])
  · rcases List.mem_cons.1 hT with rfl | hT
    · rcases h2 g hg with h3 | h3
      · exact h.lo R (by simp) g h3
      · exact h.lo Q (by simp) g h3
    · exact h.lo T (by simp [hT]) g hg
  · rcases h2 g hg with h3 | h3
    · exact hd.1 T (by simp [hT]) g h3 hx
    · exact hd.2.1 T hT g h3 hx
/-- what the call has turned is its own: nothing older has changed -/
theorem Kept.own {B : Nat} {w0 w w' : World} {S : List Nat} (h : Kept [] w0 w) (k : Kept S w w') (hB : w0.heap.size ≤ B) (hS : ∀ g ∈ S, B ≤ g) : Kept [] w0 w' :=
  h.trans k (by simp) (fun x hx hl => by have := hS x hx; omega)

/-! ## The resources -/
def Rs.map (r : Nat) (V : Value → Prop) (l : List (Value × Value)) : Res := ⟨[r], fun w => MapAt w V r l, fun w w' S k hs h => h.kept k (hs r (by simp))⟩
def Rs.row (E sz : Nat) (v : Value) (n : Nat) (cs : List Value) : Res := ⟨v.ownBlock.toList, fun w => w.ownsRow 0 E sz v n cs, fun w w' S k hs h => own_kept h k (fun g hg => hs g (by simp [hg]))⟩
def Rs.iter (it : Nat) (since : List Value → Prop) : Res := ⟨[it], fun _ => True, fun _ _ _ _ _ _ => trivial⟩
def Rs.blk (b : Nat) (o : Obj) : Res := ⟨[b], fun w => w.heap[b]? = some o, fun w w' S k hs h => k.heap h (hs b (by simp))⟩

/-- a map of rows: key, slice, what the slice holds -/
abbrev MRow := Value × Value × List Value
def rawR (L : List MRow) : List (Value × Value) := L.map fun x => (x.1, x.2.1)
def footR (L : List MRow) : List Nat := L.flatMap fun x => x.2.1.ownBlock.toList
structure RowsAt (w : World) (V : Value → Prop) (r E sz : Nat) (L : List MRow) : Prop where
  map : MapAt w V r (rawR L)
  each : ∀ x ∈ L, ∃ n, w.ownsRow 0 E sz x.2.1 n x.2.2
  dis : (r :: footR L).Nodup
theorem RowsAt.kept {w w' : World} {V : Value → Prop} {r E sz : Nat} {L : List MRow} {S : List Nat} (h : RowsAt w V r E sz L) (k : Kept S w w') (hs : ∀ g ∈ r :: footR L, g ∉ S) : RowsAt w' V r E sz L :=
  ⟨h.map.kept k (hs r (by simp)), fun x hx => by
    obtain ⟨n, hn⟩ := h.each x hx
    exact ⟨n, own_kept hn k (fun g hg => hs g (by
      simp only [List.mem_cons]
      right
      unfold footR
      exact List.mem_flatMap.2 ⟨x, hx, by simp [hg]⟩))⟩, h.dis⟩
def Rs.rows (V : Value → Prop) (r E sz : Nat) (L : List MRow) : Res := ⟨r :: footR L, fun w => RowsAt w V r E sz L, fun w w' S k hs h => h.kept k hs⟩

theorem own_lt {w : World} {E sz : Nat} {v : Value} {n : Nat} {cs : List Value} (h : w.ownsRow 0 E sz v n cs) : ∀ g, v.ownBlock = some g → g < w.heap.size := by
  intro g hg
  rcases h.2 with ⟨rfl, _⟩ | ⟨g', cap, cur, rfl, _, hg', _⟩
  · simp [Value.ownBlock] at hg
  · simp only [Value.ownBlock, Option.some.injEq] at hg
    subst hg
    exact lt_of_heap hg'
theorem RowsAt.lt {w : World} {V : Value → Prop} {r E sz : Nat} {L : List MRow} (h : RowsAt w V r E sz L) : ∀ g ∈ r :: footR L, g < w.heap.size := by
  intro g hg
  rcases List.mem_cons.1 hg with rfl | hg
  · exact h.map.lt
  · obtain ⟨x, hx, hgx⟩ := List.mem_flatMap.1 hg
    obtain ⟨n, hn⟩ := h.each x hx
    exact own_lt hn g (by simpa using hgx)
theorem RowsAt.new {w : World} (V : Value → Prop) (E sz : Nat) : RowsAt (w.alloc (.map #[] 0)) V w.heap.size E sz [] := ⟨MapAt.new w V, by simp, by simp [footR]⟩
theorem RowsAt.keys {w : World} {V : Value → Prop} {r E sz : Nat} {L : List MRow} (h : RowsAt w V r E sz L) : (L.map (·.1)).Nodup := by
  have := h.map.nodup
  simpa [rawR, Function.comp_def] using this

theorem footR_append (A B : List MRow) : footR (A ++ B) = footR A ++ footR B := by simp [footR]
theorem footR_cons (x : MRow) (B : List MRow) : footR (x :: B) = x.2.1.ownBlock.toList ++ footR B := by simp [footR]
theorem rawR_append (A B : List MRow) : rawR (A ++ B) = rawR A ++ rawR B := by simp [rawR]
theorem rawR_cons (x : MRow) (B : List MRow) : rawR (x :: B) = (x.1, x.2.1) :: rawR B := by simp [rawR]

/-- the row of a key anew: out of its own row, or out of new memory; behind the map's update -/
theorem RowsAt.put {w w1 w2 : World} {V : Value → Prop} {r E sz : Nat} {A B : List MRow} {k v v' : Value} {xs ys : List Value} {n : Nat} (h : RowsAt w V r E sz (A ++ (k, v, xs) :: B)) (k1 : Kept v.ownBlock.toList w w1)
    (hown : w1.ownsRow 0 E sz v' n ys) (hv : ∀ g, v'.ownBlock = some g → v.ownBlock = some g ∨ w.heap.size ≤ g) (k2 : Kept [r] w1 w2) (hm : MapAt w2 V r (putE (rawR (A ++ (k, v, xs) :: B)) k v')) :
    RowsAt w2 V r E sz (A ++ (k, v', ys) :: B) ∧ (∀ g ∈ r :: footR (A ++ (k, v', ys) :: B), g ∈ r :: footR (A ++ (k, v, xs) :: B) ∨ (w.heap.size ≤ g ∧ g < w1.heap.size)) := by
  have hd := h.dis
  have hlt := h.lt
  have hnk : ((rawR (A ++ (k, v, xs) :: B)).map (·.1)).Nodup := h.map.nodup
  rw [rawR_append, rawR_cons] at hm hnk
  rw [putE_hit hnk] at hm
  have hfa : ∀ g ∈ footR A ++ footR B, g ∉ v.ownBlock.toList ∧ g ≠ r := by
    intro g hg
    rw [footR_append, footR_cons] at hd
    rw [List.nodup_cons, List.nodup_append, List.nodup_append] at hd
    obtain ⟨d0, d1, ⟨d2, d3, d4⟩, d5⟩ := hd
    refine ⟨fun hx => ?_, fun e => ?_⟩
    · rcases List.mem_append.1 hg with hg | hg
      · exact d5 g hg g (by simp only [List.mem_append]; exact .inl hx) rfl
      · exact d4 g hx g hg rfl
    · subst e
      apply d0
      simp only [List.mem_append] at hg ⊢
      grind
  have hrv : r ∉ v.ownBlock.toList := by
    intro hx
    rw [footR_append, footR_cons, List.nodup_cons] at hd
    apply hd.1
    simp only [List.mem_append]; grind
  have hlr := hlt r (by simp)
  have hv'r : ∀ g, v'.ownBlock = some g → g ≠ r := by
    intro g hg e
    subst e
    rcases hv g hg with h1 | h1
    · exact hrv (by simp [h1])
    · omega
  have hlo : ∀ g ∈ footR A ++ footR B, g < w.heap.size := fun g hg => hlt g (by
    rw [footR_append, footR_cons]; simp only [List.mem_append, List.mem_cons] at hg ⊢; grind)
  refine ⟨⟨by rw [rawR_append, rawR_cons]; exact hm, fun x hx => ?_, ?_⟩, fun g hg => ?_⟩
  · have old : ∀ x ∈ A ++ B, ∃ n, w2.ownsRow 0 E sz x.2.1 n x.2.2 := by
      intro x hx
      obtain ⟨m, hm⟩ := h.each x (by simp only [List.mem_append, List.mem_cons] at hx ⊢; grind)
      have hfx : ∀ g, x.2.1.ownBlock = some g → g ∈ footR A ++ footR B := fun g hg => by
        rw [← footR_append]; unfold footR; exact List.mem_flatMap.2 ⟨x, hx, by simp [hg]⟩
      exact ⟨m, own_kept (own_kept hm k1 (fun g hg => (hfa g (hfx g hg)).1)) k2 (fun g hg => by simpa using (hfa g (hfx g hg)).2)⟩
    rcases List.mem_append.1 hx with hx | hx
    · exact old x (by simp [hx])
    · rcases List.mem_cons.1 hx with rfl | hx
      · exact ⟨n, own_kept hown k2 (fun g hg => by simpa using hv'r g hg)⟩
      · exact old x (by simp [hx])
  · rw [footR_append, footR_cons] at hd ⊢
    rw [List.nodup_cons, List.nodup_append, List.nodup_append] at hd ⊢
    obtain ⟨d0, d1, ⟨d2, d3, d4⟩, d5⟩ := hd
    have hv'n : ∀ g ∈ footR A ++ footR B, g ∉ v'.ownBlock.toList := by
      intro g hg hx
      rcases hv g (by simpa using hx) with h1 | h1
      · exact (hfa g hg).1 (by simp [h1])
      · have := hlo g hg; omega
    refine ⟨?_, d1, ⟨?_, d3, ?_⟩, ?_⟩
    · simp only [List.mem_append, not_or] at d0 ⊢
      exact ⟨d0.1, fun hx => hv'r r (by simpa using hx) rfl, d0.2.2⟩
    · cases v'.ownBlock <;> simp
    · intro a ha b hb e
      subst e
      exact hv'n a (by simp [hb]) ha
    · intro a ha b hb e
      subst e
      rcases List.mem_append.1 hb with hb | hb
      · exact hv'n a (by simp [ha]) hb
      · exact d5 a ha a (by simp [hb]) rfl
  · rw [footR_append, footR_cons] at hg ⊢
    simp only [List.mem_cons, List.mem_append] at hg ⊢
    rcases hg with h1 | h1 | h1 | h1
    · grind
    · grind
    · have hl := own_lt hown g (by simpa using h1)
      rcases hv g (by simpa using h1) with h2 | h2
      · left; right; right; left; simp [h2]
      · right; exact ⟨h2, hl⟩
    · grind

/-- a new key's row -/
theorem RowsAt.snoc {w w1 w2 : World} {V : Value → Prop} {r E sz : Nat} {A : List MRow} {k v : Value} {ys : List Value} {n : Nat} (h : RowsAt w V r E sz A) (k1 : Kept [] w w1)
    (hown : w1.ownsRow 0 E sz v n ys) (hv : ∀ g, v.ownBlock = some g → w.heap.size ≤ g) (k2 : Kept [r] w1 w2) (hk : k ∉ A.map (·.1)) (hm : MapAt w2 V r (putE (rawR A) k v)) :
    RowsAt w2 V r E sz (A ++ [(k, v, ys)]) ∧ (∀ g ∈ r :: footR (A ++ [(k, v, ys)]), g ∈ r :: footR A ∨ (w.heap.size ≤ g ∧ g < w1.heap.size)) := by
  have hlt := h.lt
  have hmiss : ∀ u, (k, u) ∉ rawR A := by
    intro u hu
    apply hk
    obtain ⟨x, hx, e⟩ := List.mem_map.1 hu
    exact List.mem_map.2 ⟨x, hx, (Prod.mk.inj e).1⟩
  rw [putE_miss hmiss] at hm
  have hd := h.dis
  have hlr := hlt r (by simp)
  refine ⟨⟨by rw [rawR_append]; exact hm, fun x hx => ?_, ?_⟩, fun g hg => ?_⟩
  · rcases List.mem_append.1 hx with hx | hx
    · obtain ⟨m, hm⟩ := h.each x hx
      refine ⟨m, own_kept (own_kept hm k1 (by simp)) k2 (fun g hg e => ?_)⟩
      simp only [List.mem_cons, List.not_mem_nil, or_false] at e
      subst e
      rw [List.nodup_cons] at hd
      exact hd.1 (by unfold footR; exact List.mem_flatMap.2 ⟨x, hx, by simp [hg]⟩)
    · simp only [List.mem_cons, List.not_mem_nil, or_false] at hx
      subst hx
      exact ⟨n, own_kept hown k2 (fun g hg e => by simp only [List.mem_cons, List.not_mem_nil, or_false] at e; have := hv g hg; omega)⟩
  · rw [footR_append, footR_cons]
    rw [List.nodup_cons] at hd ⊢
    refine ⟨fun hx => ?_, ?_⟩
    · simp only [footR, List.flatMap_nil, List.append_nil, List.mem_append] at hx
      rcases hx with hx | hx
      · exact hd.1 hx
      · have := hv r (by simpa using hx); omega
    · rw [List.nodup_append]
      refine ⟨hd.2, by cases v.ownBlock <;> simp [footR], fun a ha b hb e => ?_⟩
      subst e
      simp only [footR, List.flatMap_nil, List.append_nil] at hb
      have := hv a (by simpa using hb)
      have := hlt a (by simp [ha])
      omega
  · rw [footR_append, footR_cons] at hg
    simp only [footR, List.flatMap_nil, List.append_nil, List.mem_cons, List.mem_append] at hg ⊢
    rcases hg with h1 | h1 | h1
    · grind
    · grind
    · right; exact ⟨hv g (by simpa using h1), own_lt hown g (by simpa using h1)⟩

/-! ## Ranging over a map that changes at keys already given -/
section
variable {P : Program} {w : World} {V : Value → Prop} {r it : Nat} {l left : List (Value × Value)} {T kT eT : TypeId}
theorem map_update_iter (h : MapAt w V r l) (K : KeyT P kT V) (hT : P.underlying T = some (.map kT eT)) {k : Value} (hVk : V k) (v : Value) (hi : IterAt w it r l left) (hne : it ≠ r) (hin : ∃ u, (k, u) ∈ l) (hout : ∀ u, (k, u) ∉ left) :
    ∃ w', (Instr.mapUpdate T (.map (some r)) k v).run P w = .ok () w' ∧ MapAt w' V r (putE l k v) ∧ Kept [r] w w' ∧ w'.heap.size = w.heap.size ∧ IterAt w' it r (putE l k v) left := by
  obtain ⟨w', hrun, hm, hk, hs⟩ := map_update h K hT hVk v
  refine ⟨w', hrun, hm, hk, hs, ?_⟩
  obtain ⟨es, c, hr, hl, hb, hc, hV, hn⟩ := h
  obtain ⟨es', c', si, se, la, hit, hr', hl', hb', i1, i2, i3, hleft⟩ := hi
  rw [hr] at hr'
  cases hr'
  have hes : ∀ e ∈ es.toList, V e.key := fun e he => hV (e.key, e.val) (by rw [← hl]; exact List.mem_map_of_mem (f := fun e : MapEntry => (e.key, e.val)) he)
  cases hf : findVal k es.toList 0 with
  | none =>
    obtain ⟨u, hu⟩ := hin
    rw [← hl] at hu
    exact absurd hu (findVal_none hf u)
  | some p =>
    obtain ⟨j, u⟩ := p
    obtain ⟨l1, e, l2, h1, h2, h3, h4, h5⟩ := findVal_some hf
    have hj : j = l1.length := by omega
    subst hj
    have hei : es[l1.length]? = some e := by rw [← Array.getElem?_toList, h1]; simp
    have hl2 : l = l1.map (fun e => (e.key, e.val)) ++ (k, u) :: l2.map (fun e => (e.key, e.val)) := by rw [← hl, h1]; simp [h3, h4]
    have hrun2 : (Instr.mapUpdate T (.map (some r)) k v).run P w = .ok () { w with heap := w.heap.setIfInBounds r (.map (es.modify l1.length fun e => { e with key := k, val := v }) c) } := by
      simp only [Instr.mapUpdate, Sem.run_bind, run_underlying hT, Result.andThen_ok, run_getMap hr, K.check _ _ _ hVk, K.find _ _ _ hVk hes, hf, hei, Option.map_some, Option.getD_some, h3, K.stay _ _ hVk]
      exact run_setMap hr _
    rw [hrun2] at hrun
    cases hrun
    have hmod : (es.modify l1.length fun e => { e with key := k, val := v }).toList = l1 ++ { e with key := k, val := v } :: l2 := by
      rw [Array.toList_modify, h1, list_modify_at]
    rw [hl2] at hn
    have hseen : se.contains e.born = true := by
      cases hcs : se.contains e.born
      · exfalso
        apply hout u
        rw [hleft]
        exact List.mem_map.2 ⟨e, List.mem_filter.2 ⟨by rw [h1]; simp, by rw [hcs]; rfl⟩, by rw [h3, h4]⟩
      · rfl
    refine ⟨_, c, si, se, la, (setBlk_kept w r _).heap hit (by simpa using hne), setBlk_at w _ hr, ?_, ?_, ?_, ?_, ?_, ?_⟩
    · rw [hl2, putE_hit hn, hmod]; simp
    · rw [hmod]; rw [h1] at hb'; simpa using hb'
    all_goals try
      (intro x hx
       rw [hmod] at hx
       rw [h1] at i1 i2 i3
       rcases List.mem_append.1 hx with hx | hx
       · first | exact i1 x (by simp [hx]) | exact i2 x (by simp [hx]) | exact i3 x (by simp [hx])
       · rcases List.mem_cons.1 hx with rfl | hx
         · first | exact i1 e (by simp) | exact i2 e (by simp) | exact i3 e (by simp)
         · first | exact i1 x (by simp [hx]) | exact i2 x (by simp [hx]) | exact i3 x (by simp [hx]))
    rw [hleft, hmod, h1]
    have hs1 : (!se.contains e.born) = false := by rw [hseen]; rfl
    simp only [List.filter_append, List.filter_cons, hs1, Bool.false_eq_true, if_false]
end
end Go.Proofs.YticcnlpfmekagaaGreat
namespace Go.Proofs.YticcnlpfmekagaaGreat
open Go Go.RowKit
open Classical
set_option linter.unusedVariables false
set_option linter.unusedSimpArgs false

/-! ## Insertion by swaps (zzSort), in plain Lean: the list p ++ x :: q ++ c, x is carried down -/

structure Carry {α : Type} (lt : α → α → Prop) (i : Nat) (L : List α) (j : Nat) : Prop where
  ex : ∃ p x q c, L = p ++ x :: (q ++ c) ∧ p.length = j ∧ p.length + q.length = i ∧ (p ++ q).Pairwise (fun a b => ¬ lt b a) ∧ ∀ y ∈ q, lt x y

theorem carry_start {α : Type} {lt : α → α → Prop} {i : Nat} {L : List α} (h : (L.take i).Pairwise (fun a b => ¬ lt b a)) (hi : i < L.length) : Carry lt i L i := by
  refine ⟨L.take i, L[i], [], L.drop (i+1), ?_, by simp; omega, by simp; omega, by simpa using h, by simp⟩
  simp

/-- a swap with the one below -/
theorem carry_swap {α : Type} {lt : α → α → Prop} {i j : Nat} {L : List α} (h : Carry lt i L j) (hj : 0 < j) (hl : j < L.length) (hlt : lt L[j] (L[j-1]'(by omega))) :
    Carry lt i ((L.set j (L[j-1]'(by omega))).set (j-1) L[j]) (j-1) := by
  obtain ⟨p, x, q, c, rfl, rfl, hi, hs, hx⟩ := h.ex
  have hne : p ≠ [] := by intro h0; subst h0; simp at hj
  obtain ⟨p', y, rfl⟩ : ∃ p' y, p = p' ++ [y] := ⟨p.dropLast, p.getLast hne, (List.dropLast_concat_getLast hne).symm⟩
  have e1 : (p' ++ [y] ++ x :: (q ++ c))[(p' ++ [y]).length]'hl = x := by simp
  have e2 : (p' ++ [y] ++ x :: (q ++ c))[(p' ++ [y]).length - 1]'(by omega) = y := by simp
  rw [e1, e2] at hlt
  refine ⟨p', x, y :: q, c, ?_, by simp, by simp at hi ⊢; omega, by simpa using hs, fun z hz => ?_⟩
  · rw [e1, e2]
    simp
  · rcases List.mem_cons.1 hz with rfl | hz
    · exact hlt
    · exact hx z hz

/-- the carried one stands -/
theorem carry_done {α : Type} {lt : α → α → Prop} {i j : Nat} {L : List α} (asy : ∀ a b, lt a b → ¬ lt b a) (tr : ∀ a b c, ¬ lt b a → ¬ lt c b → ¬ lt c a) (h : Carry lt i L j) (hd : j = 0 ∨ ∃ (hl : j < L.length) (h0 : 0 < j), ¬ lt L[j] (L[j-1]'(by omega))) :
    (L.take (i+1)).Pairwise (fun a b => ¬ lt b a) := by
  obtain ⟨p, x, q, c, rfl, rfl, hi, hs, hx⟩ := h.ex
  have ht : (p ++ x :: (q ++ c)).take (i+1) = p ++ x :: q := by
    have : i + 1 = (p ++ x :: q).length := by simp; omega
    rw [this, show p ++ x :: (q ++ c) = (p ++ x :: q) ++ c by simp, List.take_left']
    rfl
  rw [ht]
  rw [List.pairwise_append] at hs ⊢
  obtain ⟨hp, hq, hpq⟩ := hs
  refine ⟨hp, List.pairwise_cons.2 ⟨fun y hy => asy _ _ (hx y hy), hq⟩, fun a ha b hb => ?_⟩
  rcases List.mem_cons.1 hb with rfl | hb
  · rcases hd with h0 | ⟨hl, h0, hn⟩
    · simp only [List.length_eq_zero_iff] at h0
      subst h0
      simp at ha
    · have hne : p ≠ [] := by intro h1; subst h1; simp at h0
      obtain ⟨p', y, rfl⟩ : ∃ p' y, p = p' ++ [y] := ⟨p.dropLast, p.getLast hne, (List.dropLast_concat_getLast hne).symm⟩
      have e1 : (p' ++ [y] ++ b :: (q ++ c))[(p' ++ [y]).length]'hl = b := by simp
      have e2 : (p' ++ [y] ++ b :: (q ++ c))[(p' ++ [y]).length - 1]'(by omega) = y := by simp
      rw [e1, e2] at hn
      rcases List.mem_append.1 ha with ha | ha
      · exact tr _ _ _ ((List.pairwise_append.1 hp).2.2 a ha y (by simp)) hn
      · simp only [List.mem_singleton] at ha
        subst ha
        exact hn
  · exact hpq a ha b hb

end Go.Proofs.YticcnlpfmekagaaGreat
