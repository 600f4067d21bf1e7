import Derived.Test.YticcnlpfmekagaaGreatShares
import Derived.Sort.OwnSorted
import Derived.Lib.OwnBridge
namespace Go.Proofs.YticcnlpfmekagaaGreat
open Go Go.Proofs Go.RowKit Go.Sort
set_option linter.unusedVariables false
set_option linter.unusedSimpArgs false

/-! ## names, sorted -/

def sortedNames (l : List ByteArray) : List ByteArray := ((l.map (·.data.toList)).mergeSort fun x y => decide (x ≤ y)).map fun b => ⟨b.toArray⟩
theorem sortedNames_perm (l : List ByteArray) : (sortedNames l).Perm l := by
  unfold sortedNames
  have h := (List.mergeSort_perm (l.map (·.data.toList)) (fun x y => decide (x ≤ y))).map (fun b : List UInt8 => (⟨b.toArray⟩ : ByteArray))
  refine h.trans ?_
  rw [List.map_map]
  have : (fun b : List UInt8 => (⟨b.toArray⟩ : ByteArray)) ∘ (fun x : ByteArray => x.data.toList) = id := by funext x; simp
  rw [this, List.map_id]

theorem sort_names (v : Value) (N : Nat) (l : List ByteArray) (w : World) (hown : w.ownsRow 0 9 1 v N (strs l)) (hN : 1 ≤ N) (hb : N ≤ 1000) :
    ∃ g c, v = .slice (some ⟨g, 0, none⟩) N c ∧ g < w.heap.size ∧ Calls Tryz.prog 48 #[v] w fun e w' => e = .returned (.tuple #[]) ∧ w'.ownsRow 0 9 1 v N (strs (sortedNames l)) ∧ Kept [g] w w' := by
  have hl : l.length = N := by have := hown.1; simpa [strs] using this
  have hcells : strs l = (l.map (·.data.toList)).map Proofs.encStr := (Lib.map_encStr l).symm
  rw [hcells] at hown
  have hown0 := hown
  rcases hown0.2 with ⟨_, h0⟩ | ⟨g0, cap0, cur, e0, _, hg, hn1, hn2, hn3, hn4⟩
  · omega
  obtain ⟨g, c, e1, _, hgl, hnc, hcm, hlen, hH⟩ := Lib.holds_of_ownsRow (enc := Proofs.encStr) hown (by rw [e0]; simp)
  rw [e0] at e1
  cases e1
  subst e0
  have hlen' : (l.map (·.data.toList)).length = N := by simpa using hl
  refine ⟨g0, cap0, rfl, hgl, ?_⟩
  have hc := Tryz.slices_Sort_string g0 0 cap0 (l.map (·.data.toList)) w hH hgl (by omega)
  rw [hlen'] at hc
  refine hc.mono ?_
  rintro e w' ⟨rfl, n, os, rfl⟩
  refine ⟨rfl, ?_, ?_⟩
  · have h1 := ownsRow_sorted (n := n) (os := os) (base := 0) (ss := l.map (·.data.toList)) (ts := (l.map (·.data.toList)).mergeSort fun x y => decide (x ≤ y)) (List.length_mergeSort _) (Nat.zero_le _) hg (by omega) hn2 hn3
    rw [hlen'] at h1
    have h2 : strs (sortedNames l) = ((l.map (·.data.toList)).mergeSort fun x y => decide (x ≤ y)).map Proofs.encStr := by
      unfold strs sortedNames
      rw [List.map_map]
      apply List.map_congr_left
      intro x _
      simp [Proofs.encStr]
    rw [h2]; exact h1
  · have hgb := grownBy_sorted (w := w) (g := g0) (n := n) (os := os) ((l.map (·.data.toList)).mergeSort fun x y => decide (x ≤ y)).toArray
    obtain ⟨h1, h2, h3, h4, h5⟩ := hgb
    exact ⟨h1, h2, h3, h4, fun k hk hs => h5 k hk (by simp at hs; simpa [Value.ownBlock] using hs)⟩
end Go.Proofs.YticcnlpfmekagaaGreat
