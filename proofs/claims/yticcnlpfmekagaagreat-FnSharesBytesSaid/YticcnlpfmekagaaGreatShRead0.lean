import Derived.Test.YticcnlpfmekagaaGreatDec5
import Derived.Test.YticcnlpfmekagaaGreatSort
import Derived.Test.YticcnlpfmekagaaGreatSafe
import Derived.Test.YticcnlpfmekagaaGreatGroup
namespace Go.Proofs.YticcnlpfmekagaaGreat
open Go Go.Proofs Go.RowKit
set_option linter.unusedVariables false
set_option linter.unusedSimpArgs false

/-! ## SharesRead: what holds at its loop's head -/

def emp : ByteArray := ⟨#[]⟩
/-- what SharesRead's closure leaves -/
def SRes (lo b : Nat) (ver : Int) (D : List (ByteArray × List Int)) (data : List Value) (w : World) : Prop :=
  ∃ (L : List Shr) (v u : Value), w.cell? ⟨b + 1, 0, none⟩ = some (.int .i16 ver) ∧ w.cell? ⟨b + 2, 0, none⟩ = some v ∧ w.cell? ⟨b + 3, 0, none⟩ = some u ∧ w.cell? ⟨b + 4, 0, none⟩ = some (.bool true) ∧
    (∀ j, 1 ≤ j → j ≤ 4 → w.frozen? ⟨b + j, 0, none⟩ = false) ∧ ShrsAt w v L ∧ L.Pairwise (fun x y => topLt y.top x.top = false) ∧ (L.map topOf).Perm D ∧ (∀ x ∈ L, x.mem = emp) ∧ SlAt w 1 u data.length data ∧ (∃ a c, u = .slice a data.length c) ∧
    (∀ g, v.ownBlock = some g → lo ≤ g) ∧ (∀ x ∈ L, ∀ g, x.val.ownBlock = some g → lo ≤ g) ∧ (∀ g, u.ownBlock = some g → lo ≤ g)

def ReadRel (b r it lo : Nat) (T : Tops) (wc wr : World) (A M : Tops) (L : List Shr) (sv : Value) : Prop :=
  (A ++ M).Perm T ∧ IterAt wr it r (rawT T) (rawT M) ∧ wr.cell? ⟨b + 2, 0, none⟩ = some sv ∧ wr.frozen? ⟨b + 2, 0, none⟩ = false ∧ wr.ownsRow 0 33 3 sv L.length (L.flatMap shrCells) ∧ (∀ x ∈ L, SlInts wr x.val x.parts) ∧ L.map topOf = tops2 A ∧ (∀ x ∈ L, x.mem = emp) ∧ Kept [b + 2] wc wr ∧
      (∀ g, sv.ownBlock = some g → lo ≤ g ∧ g < wr.heap.size) ∧ (∀ x ∈ L, ∀ g, x.val.ownBlock = some g → lo ≤ g ∧ g < wr.heap.size ∧ sv.ownBlock ≠ some g) ∧ lo ≤ wr.heap.size

theorem read_step {b r it lo : Nat} {T A M L1 L2 : Tops} {L : List Shr} {wc wr w3 w5 w6 : World} {va va' pa qa : Option Addr} {vc vc' pc qc vn' : Nat} {xt : ByteArray} {xp : List Int} {l1 l2 : List (Value × Value)} {o : Obj}
    (hb : b + 2 < lo) (hbi : b + 2 ≠ it) (hbr : b + 2 ≠ r) (hit0 : it < lo) (hr0 : r < lo) (hwit : wc.heap.size ≤ it)
    (hperm : (A ++ M).Perm T) (hM : M = L1 ++ (xt, .slice pa xp.length pc, xp) :: L2) (hl1 : l1 = rawT L1) (hl2 : l2 = rawT L2) (hit3 : IterAt w3 it r (rawT T) (l1 ++ l2))
    (hown : wr.ownsRow 0 33 3 (.slice va L.length vc) L.length (L.flatMap shrCells)) (hints : ∀ x ∈ L, SlInts wr x.val x.parts) (htop : L.map topOf = tops2 A) (hmem : ∀ x ∈ L, x.mem = emp) (hkw : Kept [b + 2] wc wr)
    (hvb : ∀ g, (Value.slice va L.length vc).ownBlock = some g → lo ≤ g ∧ g < wr.heap.size) (hdis : ∀ x ∈ L, ∀ g, x.val.ownBlock = some g → lo ≤ g ∧ g < wr.heap.size ∧ (Value.slice va L.length vc).ownBlock ≠ some g) (hlo : lo ≤ wr.heap.size)
    (hk3 : Kept [it] wr w3) (hk5 : Kept [] w3.drew w5) (hsv : SlAt w5 1 (.slice qa xp.length qc) xp.length (i32s xp) ∧ ∀ x ∈ xp, isI32 x) (hg5 : ∀ g, (Value.slice qa xp.length qc).ownBlock = some g → w3.drew.heap.size ≤ g ∧ g < w5.heap.size)
    (hown6 : w6.ownsRow 0 33 3 (.slice va' vn' vc') (L.length + 1) (L.flatMap shrCells ++ [.string emp, .string xt, .slice qa xp.length qc])) (hk6 : Kept (Value.slice va L.length vc).ownBlock.toList (w5.alloc o) w6)
    (hd6 : ((Value.slice va' vn' vc').ownBlock = (Value.slice va L.length vc).ownBlock ∧ w6.heap.size = (w5.alloc o).heap.size) ∨ ((Value.slice va' vn' vc').ownBlock = some (w5.alloc o).heap.size ∧ w6.heap.size = (w5.alloc o).heap.size + 1))
    (cs6 : w6.cell? ⟨b + 2, 0, none⟩ = some (.slice va L.length vc)) (zs6 : w6.frozen? ⟨b + 2, 0, none⟩ = false) :
    ∃ A M L' sv, ReadRel b r it lo T wc (w6.setCell ⟨b + 2, 0, none⟩ (.slice va' vn' vc')) A M L' sv ∧ M.length = L1.length + L2.length := by
  have q3 := hk3.size
  have q5 := hk5.size
  have q6 := hk6.size
  simp only [World.size_drew, World.size_alloc] at q5 q6 hd6 hg5
  have hk36 : Kept (Value.slice va L.length vc).ownBlock.toList w3 w6 := (hk5.of_drew.trans ((Kept.refl [] w5).alloc o) (U := []) (by simp) (by simp)).trans hk6 (by simp) (fun y hy _ => hy)
  have hkr6 : Kept (it :: (Value.slice va L.length vc).ownBlock.toList) wr w6 := hk3.trans hk36 (by simp) (fun y hy _ => by simp [hy])
  have hk7 : Kept [b + 2] w6 (w6.setCell ⟨b + 2, 0, none⟩ (.slice va' vn' vc')) := (Kept.refl _ _).setCell _ (by simp)
  have hv' : ∀ g, (Value.slice va' vn' vc').ownBlock = some g → lo ≤ g ∧ g < w6.heap.size ∧ ((Value.slice va L.length vc).ownBlock = some g ∨ g = w5.heap.size + 1) := by
    intro g hg
    rcases hd6 with ⟨h1, h2⟩ | ⟨h1, h2⟩
    · rw [h1] at hg
      have := hvb g hg
      exact ⟨this.1, by omega, .inl hg⟩
    · rw [h1] at hg
      simp only [Option.some.injEq] at hg
      exact ⟨by omega, by omega, .inr hg.symm⟩
  refine ⟨A ++ [(xt, .slice pa xp.length pc, xp)], L1 ++ L2, L ++ [⟨emp, xt, .slice qa xp.length qc, xp⟩], .slice va' vn' vc', ⟨?_, ?_, by simp [go_sem, cs6], by simp [go_sem, zs6], ?_, ?_, ?_, ?_, ?_, ?_, ?_, ?_⟩, by simp⟩
  · refine List.Perm.trans ?_ hperm
    rw [hM, List.append_assoc, List.singleton_append]
    exact List.Perm.append_left A (List.perm_middle (a := (xt, Value.slice pa xp.length pc, xp)) (l₁ := L1) (l₂ := L2)).symm
  · have e : rawT (L1 ++ L2) = l1 ++ l2 := by rw [hl1, hl2]; simp [rawT]
    rw [e]
    refine (hit3.kept hk36 (fun h => ?_) (fun h => ?_)).kept hk7 (by simp; omega) (by simp; omega)
    · simp only [Option.mem_toList] at h; have := hvb _ h; omega
    · simp only [Option.mem_toList] at h; have := hvb _ h; omega
  · have h1 := own_kept hown6 hk7 (fun g hg => by have := hv' g hg; simp; omega)
    simpa [shrCells] using h1
  · intro x hx
    rcases List.mem_append.1 hx with hx | hx
    · have h1 := hdis x hx
      refine ((hints x hx).kept hkr6 (fun g hg h => ?_)).kept hk7 (fun g hg => ?_)
      · simp only [List.mem_cons, Option.mem_toList] at h
        rcases h with h | h
        · have := h1 g hg; omega
        · exact (h1 g hg).2.2 h
      · have := h1 g hg; simp; omega
    · simp only [List.mem_cons, List.not_mem_nil, or_false] at hx
      subst hx
      refine (SlInts.kept ⟨⟨_, _, rfl⟩, hsv⟩ (((Kept.refl [] w5).alloc o).trans hk6 (by simp) (fun y hy _ => hy)) (fun g hg h => ?_)).kept hk7 (fun g hg => ?_)
      · simp only [Option.mem_toList] at h
        have h1 := hg5 g hg
        have h2 := hvb g h
        omega
      · have h1 := hg5 g hg; simp; omega
  · rw [List.map_append, htop]; simp [tops2, topOf]
  · intro x hx
    rcases List.mem_append.1 hx with hx | hx
    · exact hmem x hx
    · simp only [List.mem_cons, List.not_mem_nil, or_false] at hx
      subst hx; rfl
  · exact (hkw.trans hkr6 (U := [b + 2]) (by simp) (fun y hy hl => by
      have q := hkw.size
      simp only [List.mem_cons, Option.mem_toList] at hy
      rcases hy with rfl | hy
      · omega
      · have := hvb y hy; omega)).trans hk7 (by simp) (by simp)
  · intro g hg
    have := hv' g hg
    exact ⟨this.1, by simp; omega⟩
  · intro x hx g hg
    rcases List.mem_append.1 hx with hx | hx
    · have h1 := hdis x hx g hg
      refine ⟨h1.1, by simp; omega, fun h => ?_⟩
      rcases (hv' g h).2.2 with h2 | h2
      · exact h1.2.2 h2
      · omega
    · simp only [List.mem_cons, List.not_mem_nil, or_false] at hx
      subst hx
      have h1 := hg5 g hg
      refine ⟨by omega, by simp; omega, fun h => ?_⟩
      rcases (hv' g h).2.2 with h2 | h2
      · have := hvb g h2; omega
      · omega
  · simp; omega

theorem read_end {b r it lo dn dc vc : Nat} {ver : Int} {D : List (ByteArray × List Int)} {data : List Value} {T A : Tops} {L L' : List Shr} {w w2 wc wr w5 : World} {va da : Option Addr}
    (hrel : ReadRel b r it lo T wc wr A [] L (.slice va L.length vc)) (hpl : L'.Perm L) (hps : L'.Pairwise (fun x y => topLt y.top x.top = false)) (hsl5 : SlAt w5 3 (.slice va L.length vc) L.length (L'.flatMap shrCells))
    (hk5 : Kept (Value.slice va L.length vc).ownBlock.toList wr w5) (hTD : tops2 T = D) (C1 : wc.cell? ⟨b + 1, 0, none⟩ = some (.int .i16 ver)) (C3 : wc.cell? ⟨b + 3, 0, none⟩ = some (.slice da dn dc)) (C4 : wc.cell? ⟨b + 4, 0, none⟩ = some (.bool true))
    (Z : ∀ j, 1 ≤ j → j ≤ 4 → wc.frozen? ⟨b + j, 0, none⟩ = false) (hdn : data.length = dn) (hds : SlAt wc 1 (.slice da dn dc) dn data) (hdo : ∀ x, (Value.slice da dn dc).ownBlock = some x → w2.heap.size ≤ x ∧ x < wc.heap.size)
    (hkx : Kept [b + 1, b + 3, b + 4] w2 wc) (hk02 : Kept [] w w2) (hb4 : b + 4 < w.heap.size) (hlo : wc.heap.size < lo) : SRes w.heap.size b ver D data w5 ∧ Kept [b + 1, b + 2, b + 3, b + 4] w w5 := by
  obtain ⟨hperm, hit, cs2, zs2, hown, hints, htop, hmem, hkw, hvb, hdis, hszw⟩ := hrel
  subst hdn
  have s1 := hk02.size
  have s2 := hkx.size
  have s3 := hkw.size
  have s4 := hk5.size
  have hno : ∀ j, j ≤ 4 → b + j ∉ (Value.slice va L.length vc).ownBlock.toList := fun j hj h => by simp only [Option.mem_toList] at h; have := hvb _ h; omega
  have hda : ∀ x, (Value.slice da data.length dc).ownBlock = some x → x ∉ (Value.slice va L.length vc).ownBlock.toList := fun x hx h => by simp only [Option.mem_toList] at h; have := hvb _ h; have := hdo x hx; omega
  have hll := hpl.length_eq
  rw [List.append_nil] at hperm
  refine ⟨⟨L', .slice va L.length vc, .slice da data.length dc, hk5.cell (hkw.cell C1 (by simp)) (hno 1 (by omega)), hk5.cell cs2 (hno 2 (by omega)), hk5.cell (hkw.cell C3 (by simp)) (hno 3 (by omega)), hk5.cell (hkw.cell C4 (by simp)) (hno 4 (by omega)), ?_, ?_, hps, ?_, ?_, ?_, ⟨_, _, rfl⟩, ?_, ?_, ?_⟩, ?_⟩
  · intro j h1 h2
    by_cases e : j = 2
    · subst e; exact hk5.frz zs2 (by simp; omega) (hno 2 (by omega))
    · exact hk5.frz (hkw.frz (Z j h1 h2) (by simp; omega) (by simp; omega)) (by simp; omega) (hno j h2)
  · refine ⟨⟨va, vc, by rw [hll]⟩, by rw [hll]; exact hsl5, fun x hx => (hints x (hpl.mem_iff.1 hx)).kept hk5 (fun g hg h => ?_)⟩
    simp only [Option.mem_toList] at h
    exact (hdis x (hpl.mem_iff.1 hx) g hg).2.2 h
  · rw [← hTD]
    refine (hpl.map topOf).trans ?_
    rw [htop]
    exact hperm.map _
  · exact fun x hx => hmem x (hpl.mem_iff.1 hx)
  · refine (hds.kept hkw (fun x hx => ?_)).kept hk5 hda
    have := hdo x hx; simp; omega
  · intro g hg; have := hvb g hg; omega
  · intro x hx g hg; have := hdis x (hpl.mem_iff.1 hx) g hg; omega
  · intro g hg; have := hdo g hg; omega
  · refine (((hk02.trans hkx (U := [b + 1, b + 2, b + 3, b + 4]) (by simp) (by simp)).trans hkw (U := [b + 1, b + 2, b + 3, b + 4]) (by simp) (by simp)).trans hk5 (by simp) (fun y hy hl => ?_))
    simp only [Option.mem_toList] at hy
    have := hvb y hy; omega
end Go.Proofs.YticcnlpfmekagaaGreat
