/- Part 52 of the proof of the row: Bulk, RowX. -/
import Derived.Test.YticcnlpfmekagaaGreatRc00
import Derived.Test.YticcnlpfmekagaaGreatRows
import Derived.Test.YticcnlpfmekagaaGreatRc43
import Derived.Test.YticcnlpfmekagaaGreatRc01
import Derived.Test.YticcnlpfmekagaaGreatRc51
set_option linter.unusedVariables false
set_option linter.unusedSimpArgs false
set_option maxRecDepth 100000
set_option maxHeartbeats 8000000
namespace Go.Proofs.YticcnlpfmekagaaGreat
section
open Go Go.Proofs Go.RowKit Go.Deep
open Go.WideShapes (add_plain)
theorem sum_leB {α : Type} {f g : α → Nat} : ∀ {l : List α}, (∀ x ∈ l, f x ≤ g x) → (l.map f).sum ≤ (l.map g).sum
 | [], _ => by simp
 | x :: l, h => by
   have h1 := h x (by simp)
   have h2 := sum_leB (f := f) (g := g) (l := l) (fun y hy => h y (by simp [hy]))
   simp only [List.map_cons, List.sum_cons]; omega
theorem len_leB {α : Type} {f : α → Nat} : ∀ {l : List α}, (∀ x ∈ l, 1 ≤ f x) → l.length ≤ (l.map f).sum
 | [], _ => by simp
 | x :: l, h => by
   have h1 := h x (by simp)
   have h2 := len_leB (f := f) (l := l) (fun y hy => h y (by simp [hy]))
   simp only [List.map_cons, List.sum_cons, List.length_cons]; omega
theorem one_leB {α : Type} {f : α → Nat} : ∀ {l : List α} {x : α}, x ∈ l → f x ≤ (l.map f).sum
 | y :: l, x, h => by
   simp only [List.map_cons, List.sum_cons]
   rcases Zmc.1 h with rfl | h
   · omega
   · have := one_leB (f := f) h; omega
section
variable {H : Type} {enc : TypeId × Value → H} {w : World}
theorem bulkAll_mem {d : DataW H} : ∀ {l : List (DataW H)}, d ∈ l → Rows.uptoBulk d ≤ Rows.uptoBulkAll l
 | x :: l, h => by
   rw [Rows.uptoBulkAll]
   rcases Zmc.1 h with rfl | h
   · omega
   · have := bulkAll_mem h; omega
theorem bulkAll_sum : ∀ (l : List (DataW H)), Rows.uptoBulkAll l = (l.map Rows.uptoBulk).sum
 | [] => by simp [Rows.uptoBulkAll]
 | x :: l => by rw [Rows.uptoBulkAll, bulkAll_sum l]; simp
theorem bulk_slice (e s : List (DataW H)) : Rows.uptoBulk (DataW.slice e s) = Rows.uptoBulkAll e + Rows.uptoBulkAll s + 1 := by rw [Rows.uptoBulk]
theorem bulk_agg (e : List (DataW H)) : Rows.uptoBulk (DataW.agg e) = Rows.uptoBulkAll e + 1 := by rw [Rows.uptoBulk]
theorem bulk_pos (d : DataW H) : 1 ≤ Rows.uptoBulk d := by
 cases d with
 | lit l => cases l <;> simp [Rows.uptoBulk]
 | _ => simp [Rows.uptoBulk]
theorem bulk_len {t e : TypeId} {fuel n c : Nat} {b : Option Addr} {x : DataW H × List MemPlace} (ht : Tryz.prog.underlying t = some (.slice e)) (h : DataW.trod enc Tryz.prog w 0 (fun _ => true) true fuel t [.slice b n c] = some x) : n + 1 ≤ Rows.uptoBulk x.1 := by
 rcases open_slice ht h with ⟨h0, rfl⟩ | ⟨ad, len, cap, m, k, D, Pl, h0, hb, hl, hm, hmm, rfl, hx⟩
 · simp only [List.cons.injEq, Value.slice.injEq, and_true] at h0
   obtain ⟨_, rfl, _⟩ := h0
   exact bulk_pos _
 · simp only [List.cons.injEq, Value.slice.injEq, and_true] at h0
   obtain ⟨_, rfl, _⟩ := h0
   show _ ≤ Rows.uptoBulk (DataW.slice _ _)
   rw [bulk_slice, bulkAll_sum]
   have h1 := len_leB (f := Rows.uptoBulk) (l := (List.range n).map D) (fun d _ => bulk_pos d)
   simp only [List.length_map, List.length_range] at h1
   omega
theorem open_slB {α : Type} [Inhabited α] {t e : TypeId} {sz fuel : Nat} {a : Value} {x : DataW H × List MemPlace} (ht : Tryz.prog.underlying t = some (.slice e)) (hc : Tryz.prog.cellsOf e = sz) (hpos : 0 < sz)
 (h : DataW.trod enc Tryz.prog w 0 (fun _ => true) true fuel t [a] = some x) (f : α → List Value) (Ok : α → Prop) (cost : α → Nat)
 (hel : ∀ (cs : List Value) (n : Nat) (y : DataW H × List MemPlace), DataW.trod enc Tryz.prog w 0 (fun _ => true) true n e cs = some y → ∃ z, cs = f z ∧ Ok z ∧ cost z ≤ Rows.uptoBulk y.1) (hone : ∀ z, Ok z → ∀ u ∈ f z, u.oneCell' = true) :
 ∃ L : List α, (∃ b c, a = .slice b L.length c) ∧ SlAt w sz a L.length (L.flatMap f) ∧ (∀ z ∈ L, Ok z) ∧ L.length ≤ maxLen ∧ (L.map cost).sum ≤ Rows.uptoBulk x.1 := by
 rcases open_slice ht h with ⟨h0, _⟩ | ⟨ad, len, cap, m, n, D, Pl, h0, hb, hl, hm, hmm, rfl, hx⟩
 · simp only [List.cons.injEq, and_true] at h0
   subst h0
   exact ⟨[], ⟨none, 0, rfl⟩, SlAt.nil _ _, by simp, by simp [maxLen], by simp⟩
 · simp only [List.cons.injEq, and_true] at h0
   subst h0
   simp only [if_true] at hmm
   obtain rfl : m = cap := hmm
   rw [hc] at hx
   obtain ⟨g, hg⟩ := choose_lt (α := α) (p := fun i z => w.cells? 0 (ad.add (i * sz)) sz = some (f z) ∧ Ok z ∧ cost z ≤ Rows.uptoBulk (D i)) (fun i hi => by
    obtain ⟨cs', h1, h2⟩ := hx i hi
    obtain ⟨z, rfl, hz, hb⟩ := hel _ _ _ h2
    exact ⟨z, h1, hz, hb⟩)
   have hlen : ∀ i, i < m → (f (g i)).length = sz := fun i hi => (World.cells?_some (hg i hi).1).2.1
   have hLl : ((List.range len).map g).length = len := by simp
   have hLf : ∀ z ∈ (List.range len).map g, (f z).length = sz ∧ Ok z := by
    intro z hz
    obtain ⟨i, hi, rfl⟩ := List.mem_map.1 hz
    have := List.mem_range.1 hi
    exact ⟨hlen i (by omega), (hg i (by omega)).2.1⟩
   refine ⟨(List.range len).map g, ⟨some ad, m, by rw [hLl]⟩, ⟨?_, ?_, ?_⟩, fun z hz => (hLf z hz).2, by omega, ?_⟩
   · exact flat_len (fun z hz => (hLf z hz).1)
   · intro u hu
     obtain ⟨z, hz, hu⟩ := List.mem_flatMap.1 hu
     exact hone z (hLf z hz).2 u hu
   · rw [hLl]
     by_cases h0 : len = 0
     · exact .inl ⟨some ad, m, by rw [h0], h0⟩
     · right
       have hcell : ∀ i r, i < len → r < sz → ∀ u, (f (g i))[r]? = some u → w.cell? (ad.add (i * sz + r)) = some u := by
        intro i r hi hr u hu
        have := (World.cells?_some (hg i (by omega)).1).2.2 r hr
        rw [add_add] at this
        rw [this, ← hu]
       have h00 : 0 < (f (g 0)).length := by rw [hlen 0 (by omega)]; exact hpos
       have hc0 := hcell 0 0 (by omega) hpos _ (List.getElem?_eq_getElem h00)
       obtain ⟨b, o, e1⟩ := spot_none hc0
       have e2 : ad = ⟨b, o, none⟩ := by simpa [Addr.add] using e1
       subst e2
       refine ⟨b, o, m, rfl, fun j u hj => ?_⟩
       obtain ⟨i, r, z, hr, rfl, hz, hu⟩ := flat_get hpos (fun z hz => (hLf z hz).1) hj
       have hi : i < len := by have := (List.getElem?_eq_some_iff.1 hz).1; simpa using this
       have : z = g i := by
        rw [List.getElem?_map, List.getElem?_range hi] at hz
        simpa using hz.symm
       subst this
       have := hcell i r hi hr u hu
       rwa [add_plain] at this
   · show _ ≤ Rows.uptoBulk (DataW.slice _ _)
     rw [bulk_slice, bulkAll_sum, List.map_map, List.map_map]
     have h1 := sum_leB (f := cost ∘ g) (g := Rows.uptoBulk ∘ D) (l := List.range len) (fun i hi => (hg i (by have := List.mem_range.1 hi; omega)).2.2)
     omega
def shrCost (z : Shr) : Nat := z.parts.length + 1
def memCost (z : Mem) : Nat := (z.owned.map shrCost).sum + 1
theorem open_shrsB {fuel : Nat} {a : Value} {x : DataW H × List MemPlace} (h : DataW.trod enc Tryz.prog w 0 (fun _ => true) true fuel 23 [a] = some x) : ∃ L : List Shr, ShrsAt w a L ∧ L.length ≤ maxLen ∧ (∀ z ∈ L, z.mem.size ≤ maxLen ∧ z.top.size ≤ maxLen ∧ z.parts.length ≤ maxLen) ∧ (L.map shrCost).sum ≤ Rows.uptoBulk x.1 := by
 obtain ⟨L, h1, h2, h3, h4, h5⟩ := open_slB (α := Shr) Tryz.underlying23 cells33 (by omega) h shrCells (fun z => SlInts w z.val z.parts ∧ z.mem.size ≤ maxLen ∧ z.top.size ≤ maxLen ∧ z.parts.length ≤ maxLen) shrCost (fun cs n y hy => by
  obtain ⟨xs, k, rfl, ey, hcl, hxl, hf⟩ := DataW.trod_struct Tryz.underlying33 hy
  rw [cells33] at hcl
  have f0 := fld hf (i := 0) (T := 9) (o := 0) _ rfl rfl rfl cells9
  have f1 := fld hf (i := 1) (T := 9) (o := 1) _ rfl rfl rfl cells9
  have f2 := fld hf (i := 2) (T := 31) (o := 2) _ rfl rfl rfl cells31
  obtain ⟨y0, hy0⟩ : ∃ y0, xs[0]? = some y0 := ⟨_, List.getElem?_eq_getElem (by simp at hxl; omega)⟩
  obtain ⟨y1, hy1⟩ : ∃ y0, xs[1]? = some y0 := ⟨_, List.getElem?_eq_getElem (by simp at hxl; omega)⟩
  obtain ⟨y2, hy2⟩ : ∃ y0, xs[2]? = some y0 := ⟨_, List.getElem?_eq_getElem (by simp at hxl; omega)⟩
  rw [hy0] at f0
  rw [hy1] at f1
  rw [hy2] at f2
  obtain ⟨c0, c1, c2, rfl⟩ := len3 hcl
  obtain ⟨s0, e0, _, z0⟩ := DataW.trod_string Tryz.underlying9 f0
  obtain ⟨s1, e1, _, z1⟩ := DataW.trod_string Tryz.underlying9 f1
  simp at e0 e1
  subst e0 e1
  have f2' : DataW.trod enc Tryz.prog w 0 (fun _ => true) true k 31 [c2] = some y2 := by simpa using f2
  obtain ⟨ps, hps, hpl⟩ := open_i32s f2'
  obtain ⟨b, c, e2⟩ := hps.1
  rw [e2] at f2'
  have hbl := bulk_len Tryz.underlying31 f2'
  have hbm := bulkAll_mem (List.mem_map_of_mem (f := Prod.fst) (List.mem_of_getElem? hy2))
  refine ⟨⟨s0, s1, c2, ps⟩, rfl, ⟨hps, z0, z1, hpl⟩, ?_⟩
  subst ey
  show ps.length + 1 ≤ Rows.uptoBulk (DataW.agg (xs.map Prod.fst))
  rw [bulk_agg]
  omega) (fun z hz u hu => by
  obtain ⟨⟨b, c, hv⟩, _⟩ := hz.1
  simp [shrCells, hv] at hu
  rcases hu with rfl | rfl | rfl <;> rfl)
 exact ⟨L, ⟨h1, h2, fun z hz => (h3 z hz).1⟩, h4, fun z hz => (h3 z hz).2, h5⟩
theorem open_memCellsB {cs : List Value} {n : Nat} {y : DataW H × List MemPlace} (hy : DataW.trod enc Tryz.prog w 0 (fun _ => true) true n 30 cs = some y) : ∃ z, cs = memCells z ∧ MemRd w z ∧ memCost z ≤ Rows.uptoBulk y.1 := by
 obtain ⟨xs, k, rfl, ey, hcl, hxl, hf⟩ := DataW.trod_struct Tryz.underlying30 hy
 rw [cells30] at hcl
 have f0 := fld hf (i := 0) (T := 9) (o := 0) _ rfl rfl rfl cells9
 have f1 := fld hf (i := 1) (T := 26) (o := 1) _ rfl rfl rfl cells26
 have f2 := fld hf (i := 2) (T := 27) (o := 2) _ rfl rfl rfl cells27
 have f3 := fld hf (i := 3) (T := 28) (o := 3) _ rfl rfl rfl cells28
 have f4 := fld hf (i := 4) (T := 23) (o := 4) _ rfl rfl rfl cells23
 have f5 := fld hf (i := 5) (T := 21) (o := 5) _ rfl rfl rfl cells21
 have f6 := fld hf (i := 6) (T := 9) (o := 6) _ rfl rfl rfl cells9
 have f7 := fld hf (i := 7) (T := 4) (o := 7) _ rfl rfl rfl cells4
 have hx : ∀ j, j < 8 → ∃ y0, xs[j]? = some y0 := fun j hj => ⟨_, List.getElem?_eq_getElem (by simp at hxl; omega)⟩
 obtain ⟨y0, hy0⟩ := hx 0 (by omega)
 obtain ⟨y1, hy1⟩ := hx 1 (by omega)
 obtain ⟨y2, hy2⟩ := hx 2 (by omega)
 obtain ⟨y3, hy3⟩ := hx 3 (by omega)
 obtain ⟨y4, hy4⟩ := hx 4 (by omega)
 obtain ⟨y5, hy5⟩ := hx 5 (by omega)
 obtain ⟨y6, hy6⟩ := hx 6 (by omega)
 obtain ⟨y7, hy7⟩ := hx 7 (by omega)
 rw [hy0] at f0
 rw [hy1] at f1
 rw [hy2] at f2
 rw [hy3] at f3
 rw [hy4] at f4
 rw [hy5] at f5
 rw [hy6] at f6
 rw [hy7] at f7
 have hbm := bulkAll_mem (List.mem_map_of_mem (f := Prod.fst) (List.mem_of_getElem? hy4))
 clear hf hx hy0 hy1 hy2 hy3 hy4 hy5 hy6 hy7
 obtain ⟨c0, c1, c2, c3, c4, c5, c6, c7, rfl⟩ := len8 hcl
 obtain ⟨s0, e0, _, z0⟩ := DataW.trod_string Tryz.underlying9 f0
 obtain ⟨s1, e1, _, z1⟩ := DataW.trod_int Tryz.underlying26 f1
 obtain ⟨s5, e5, _, z5⟩ := DataW.trod_int Tryz.underlying21 f5
 obtain ⟨s6, e6, _, z6⟩ := DataW.trod_string Tryz.underlying9 f6
 obtain ⟨s7, e7, _⟩ := DataW.trod_bool Tryz.underlying4 f7
 simp at e0 e1 e5 e6 e7
 subst e0 e1 e5 e6 e7
 obtain ⟨ts, hts, htl, htz⟩ := open_strsL (a := c2) (by simpa using f2)
 obtain ⟨ds, hds1, hds2, hds3, hdl⟩ := open_u8s (a := c3) (by simpa using f3)
 have f4' : DataW.trod enc Tryz.prog w 0 (fun _ => true) true k 23 [c4] = some y4 := by simpa using f4
 obtain ⟨os, hos, hol, hoz, hob⟩ := open_shrsB f4'
 refine ⟨⟨s0, s1, c2, ts, c3, ds.map (.int .u8), c4, os, s5, s6, s7⟩, rfl, ⟨⟨hts, ⟨by simpa using hds1, by simpa using hds2⟩, hos⟩, z0, z1, wf_i32 z5, z6, ?_, ⟨htl, by simpa using hdl, hol⟩, hoz, htz⟩, ?_⟩
 · intro u hu
   obtain ⟨q, hq, rfl⟩ := List.mem_map.1 hu
   exact ⟨q, rfl, hds3 q hq⟩
 · subst ey
   show (os.map shrCost).sum + 1 ≤ Rows.uptoBulk (DataW.agg (xs.map Prod.fst))
   rw [bulk_agg]
   omega
theorem open_memsB {fuel : Nat} {a : Value} {x : DataW H × List MemPlace} (h : DataW.trod enc Tryz.prog w 0 (fun _ => true) true fuel 22 [a] = some x) : ∃ L : List Mem, MemsAt w a L ∧ L.length ≤ maxLen ∧ (∀ z ∈ L, MemRd w z) ∧ (L.map memCost).sum ≤ Rows.uptoBulk x.1 := by
 obtain ⟨L, h1, h2, h3, h4, h5⟩ := open_slB (α := Mem) Tryz.underlying22 cells30 (by omega) h memCells (MemRd w) memCost (fun cs n y hy => open_memCellsB hy) (fun z hz => mem_one hz.at_)
 exact ⟨L, ⟨h1, h2, fun z hz => (h3 z hz).at_⟩, h4, h3, h5⟩
theorem small_fst {d0 d1 : DataW H} {gs : List (DataW H)} (h : Rows.uptoSmall H ([d0, d1] ++ gs) = true) : Rows.uptoBulk d0 ≤ 1048576 := by
 have h1 : Rows.uptoBulkAll ([d0, d1] ++ gs) ≤ 1048576 := of_decide_eq_true h
 exact Nat.le_trans (bulkAll_mem (by simp)) h1
end
end
section

end
end Go.Proofs.YticcnlpfmekagaaGreat
