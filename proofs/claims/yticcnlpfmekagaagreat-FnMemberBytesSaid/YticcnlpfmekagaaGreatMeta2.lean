import Derived.Test.YticcnlpfmekagaaGreatMFits
import Derived.Test.YticcnlpfmekagaaGreatOwn
import Derived.Test.YticcnlpfmekagaaGreatAppN
import Derived.Test.YticcnlpfmekagaaGreatGroup
import Derived.Deep.RegionLaw
namespace Go.Proofs.YticcnlpfmekagaaGreat
open Go Go.Proofs Go.RowKit
set_option linter.unusedVariables false
set_option linter.unusedSimpArgs false

/-! ## a member's metadata, whole -/

theorem AppN.kept {w w' : World} {E sz m : Nat} {ys : List Value} {v : Value} (h : AppN w w' E sz m ys v) : Kept [] w w' := by
  obtain ⟨a, c, rfl, h2, h3, h4, h5, h6⟩ := h
  exact h6

theorem AppN.form {w w' : World} {E sz m : Nat} {ys : List Value} {v : Value} (h : AppN w w' E sz m ys v) : ∃ a c, v = .slice a m c := by
  obtain ⟨a, c, rfl, h2, h3, h4, h5, h6⟩ := h
  exact ⟨a, c, rfl⟩

/-- bytes whose slice is nil just where there are none -/
def DataAt (w : World) (v : Value) (data : List Value) : Prop := ∃ a c, v = .slice a data.length c ∧ SlAt w 1 v data.length data ∧ (data = [] ↔ a = none)
theorem DataAt.kept {w w' : World} {v : Value} {data : List Value} {S : List Nat} (h : DataAt w v data) (k : Kept S w w') (hs : ∀ g, v.ownBlock = some g → g ∉ S) : DataAt w' v data := by
  obtain ⟨a, c, e, h1, h2⟩ := h
  exact ⟨a, c, e, h1.kept k hs, h2⟩

/-- an owned topic: name, the block of its struct, its partitions' slice, the partitions -/
abbrev OwT := ByteArray × Nat × Value × List Int
def OwAt (w : World) (x : OwT) : Prop := w.heap[x.2.1]? = some (.cells #[.string x.1, x.2.2.1] 121 (0, 0)) ∧ SlInts w x.2.2.1 x.2.2.2
def footO (L : List OwT) : List Nat := L.flatMap fun x => x.2.1 :: x.2.2.1.ownBlock.toList
def ptrsO (L : List OwT) : List Value := L.map fun x => .pointer (some ⟨x.2.1, 0, none⟩)
def Rs.stuff (tv : Value) (tops : List ByteArray) (dv : Value) (data : List Value) (L : List OwT) : Res :=
  ⟨tv.ownBlock.toList ++ dv.ownBlock.toList ++ footO L, fun w => SlStrs w tv tops ∧ DataAt w dv data ∧ ∀ x ∈ L, OwAt w x, fun w w' S k hs h =>
    ⟨h.1.kept k (fun g hg => hs g (by simp [hg])), h.2.1.kept k (fun g hg => hs g (by simp [hg])), fun x hx =>
      ⟨k.heap (h.2.2 x hx).1 (hs _ (by
          simp only [List.mem_append]; right
          exact List.mem_flatMap.2 ⟨x, hx, by simp⟩)),
        (h.2.2 x hx).2.kept k (fun g hg => hs g (by
          simp only [List.mem_append]; right
          exact List.mem_flatMap.2 ⟨x, hx, by simp [hg]⟩))⟩⟩⟩

theorem infoOw : (Tryz.prog.info? 119).map (fun i => (i.zero, i.size, i.bytes)) = some (some (.pointer none), 1, 8) := by kernel_rfl
theorem elOw : Elem Tryz.prog 75 119 1 8 (.pointer none) := ⟨Tryz.underlying75, info_parts infoOw, rfl, by omega⟩

def owOf (x : Shr) : ByteArray × List Int := (x.top, x.parts)
def ow2 (L : List OwT) : List (ByteArray × List Int) := L.map fun x => (x.1, x.2.2.2)

/-- metadata as an aggregate, all its memory at or behind block lo -/
def MetaF (w : World) (lo : Nat) (m : Mem) (u : Value) : Prop :=
  ∃ tv dv ov ra OL, u = .agg #[.int .i16 m.ver, tv, dv, ov, .int .i32 m.gen, .pointer ra] ∧ ow2 OL = m.owned.map owOf ∧
    Own lo w [Rs.stuff tv m.tops dv m.data OL, Rs.row 119 1 ov OL.length (ptrsO OL)] ∧ (m.has = false → ra = none) ∧ (m.has = true → ∃ b, ra = some ⟨b, 0, none⟩ ∧ lo ≤ b ∧ w.cell? ⟨b, 0, none⟩ = some (.string m.rack))

/-- one more owned topic -/
theorem stuff_snoc {B : Nat} {wr w1 w2 w3 w4 : World} {X : Nat} {o o' : Obj} {tv dv ov ov' pv : Value} {tops : List ByteArray} {data : List Value} {OL : List OwT} {top : ByteArray} {parts : List Int}
    (h : Own B wr [Rs.stuff tv tops dv data OL, Rs.row 119 1 ov OL.length (ptrsO OL), Rs.blk X o]) (hB : B ≤ wr.heap.size) (k1 : Kept [] wr w1) (hpv : SlInts w1 pv parts) (hfr : ∀ g, pv.ownBlock = some g → wr.heap.size ≤ g ∧ g < w1.heap.size)
    (e2 : w2 = (w1.alloc (.cells #[.string top, pv] 121)).alloc (.cells #[.pointer (some ⟨w1.heap.size, 0, none⟩)] 119))
    (hown : w3.ownsRow 0 119 1 ov' (OL.length + 1) (ptrsO OL ++ [.pointer (some ⟨w1.heap.size, 0, none⟩)])) (k3 : Kept ov.ownBlock.toList w2 w3) (hd : (ov'.ownBlock = ov.ownBlock ∧ w3.heap.size = w2.heap.size) ∨ (ov'.ownBlock = some w2.heap.size ∧ w3.heap.size = w2.heap.size + 1))
    (k4 : Kept [X] w3 w4) (hs4 : w4.heap.size = w3.heap.size) (hX : w4.heap[X]? = some o') :
    Own B w4 [Rs.stuff tv tops dv data (OL ++ [(top, w1.heap.size, pv, parts)]), Rs.row 119 1 ov' (OL ++ [(top, w1.heap.size, pv, parts)]).length (ptrsO (OL ++ [(top, w1.heap.size, pv, parts)])), Rs.blk X o'] := by
  have k2 : Kept [] w1 w2 := by subst e2; exact ((Kept.refl _ _).alloc _).alloc _
  have hb2 : w2.heap[w1.heap.size]? = some (.cells #[.string top, pv] 121 (0, 0)) := by subst e2; exact ha (heap_alloc_new w1 _)
  have hs2 : w2.heap.size = w1.heap.size + 2 := by subst e2; simp
  have s1 := k1.size
  clear e2
  have k12 : Kept [] wr w2 := k1.trans k2 (by simp) (by simp)
  have a1 : Own B w2 [Rs.stuff tv tops dv data (OL ++ [(top, w1.heap.size, pv, parts)]), Rs.row 119 1 ov OL.length (ptrsO OL), Rs.blk X o] := by
    refine Own.put (F1 := []) h k12 (by simp) ?_ ?_ hB
    · have h0 : (Rs.stuff tv tops dv data OL).holds w2 := (Rs.stuff tv tops dv data OL).stable _ _ _ k12 (by simp) (h.ok _ (by simp))
      refine ⟨h0.1, h0.2.1, fun x hx => ?_⟩
      rcases List.mem_append.1 hx with hx | hx
      · exact h0.2.2 x hx
      · simp only [List.mem_cons, List.not_mem_nil, or_false] at hx
        subst hx
        exact ⟨hb2, hpv.kept k2 (by simp)⟩
    · intro g hg
      simp only [Rs.stuff, footO, List.flatMap_append, List.flatMap_cons, List.flatMap_nil, List.append_nil, List.mem_append, List.mem_cons] at hg ⊢
      rcases hg with (hg | hg) | hg | hg | hg
      · exact .inl (.inl (.inl hg))
      · exact .inl (.inl (.inr hg))
      · exact .inl (.inr hg)
      · right; subst hg; omega
      · right; have := hfr g (by simpa using hg); omega
  have s3 := k3.size
  have a2 : Own B w3 [Rs.stuff tv tops dv data (OL ++ [(top, w1.heap.size, pv, parts)]), Rs.row 119 1 ov' (OL.length + 1) (ptrsO OL ++ [.pointer (some ⟨w1.heap.size, 0, none⟩)]), Rs.blk X o] := by
    refine Own.put (F1 := [_]) a1 k3 (fun g hg => .inl hg) hown ?_ (by omega)
    intro g hg
    simp only [Rs.row, Option.mem_toList] at hg ⊢
    rcases hd with ⟨h1, h2⟩ | ⟨h1, h2⟩
    · rw [h1] at hg; exact .inl hg
    · rw [h1] at hg; simp only [Option.some.injEq] at hg; right; omega
  have a3 : Own B w4 [Rs.stuff tv tops dv data (OL ++ [(top, w1.heap.size, pv, parts)]), Rs.row 119 1 ov' (OL.length + 1) (ptrsO OL ++ [.pointer (some ⟨w1.heap.size, 0, none⟩)]), Rs.blk X o'] :=
    Own.put (F1 := [_, _]) a2 k4 (fun g hg => .inl hg) hX (fun g hg => .inl hg) (by omega)
  simpa [ptrsO] using a3
end Go.Proofs.YticcnlpfmekagaaGreat
