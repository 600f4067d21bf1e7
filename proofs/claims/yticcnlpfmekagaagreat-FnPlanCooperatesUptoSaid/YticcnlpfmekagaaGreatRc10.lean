/- Part 10 of the proof of the row: Memb, Shelf. -/
import Derived.Test.YticcnlpfmekagaaGreatRc00
import Derived.Test.YticcnlpfmekagaaGreatRc09
import Derived.Deep.DeepCutAuto
import Derived.Deep.CutBlock
import Derived.Shelf.Small.Bits
import Derived.Shelf.Sort.Plain
import Derived.Ground.NamesProg
import Derived.Test.YticcnlpfmekagaaGreatProg
set_option linter.unusedVariables false
set_option linter.unusedSimpArgs false
set_option maxRecDepth 100000
set_option maxHeartbeats 8000000
namespace Go.Proofs.YticcnlpfmekagaaGreat
section
open Go Go.Proofs Go.RowKit
def strs (l : List ByteArray) : List Value := l.map Value.string
def SlStrs (w : World) (v : Value) (l : List ByteArray) : Prop := (∃ a c, v = .slice a l.length c) ∧ SlAt w 1 v l.length (strs l)
theorem SlStrs.kept {w w' : World} {v : Value} {l : List ByteArray} {S : List Nat} (h : SlStrs w v l) (k : Kept S w w') (hs : ∀ g, v.ownBlock = some g → g ∉ S) : SlStrs w' v l :=
 ⟨h.1, h.2.kept k hs⟩
theorem infoStr : (Tryz.prog.info? 9).map (fun i => (i.zero, i.size, i.bytes)) = some (some (.string ⟨#[]⟩), 1, 16) := by kernel_rfl
theorem elStr : Elem Tryz.prog 27 9 1 16 (.string ⟨#[]⟩) := ⟨Tryz.underlying27, info_parts infoStr, rfl, by omega⟩
theorem clone_str (v : Value) (xs : List ByteArray) (w : World) (hv : SlStrs w v xs) (hn : xs.length ≤ 1000000000) :
 Calls Tryz.prog 61 #[v] w fun e w' => ∃ v', e = .returned v' ∧ SlStrs w' v' xs ∧ Kept [] w w' ∧ (∀ g, v'.ownBlock = some g → w.heap.size ≤ g ∧ g < w'.heap.size) := by
 obtain ⟨⟨a, c, rfl⟩, hsl⟩ := hv
 obtain ⟨_, hcase⟩ := hsl.cases
 have hnil := fun w => Lib.run_eql_slice_nil (P := Tryz.prog) w 27 9 a xs.length c 0 0 Tryz.underlying27
 clear hcase
 cases a with
 | none =>
   have hxs : xs = [] := by
    rcases hsl.2.2 with ⟨a', c', h1, h2⟩ | ⟨g', off', c', h1, _⟩
    · exact List.eq_nil_of_length_eq_zero h2
    · cases h1
   subst hxs
   clear hsl
   simp only [List.length_nil] at hnil ⊢
   go_enter Tryz.func61, Tryz.ntmps61
   go_wp2
   go_ret
   exact ⟨_, rfl, ⟨⟨none, 0, rfl⟩, SlAt.nil _ _⟩, Kept.refl _ _, by simp [Value.ownBlock]⟩
 | some a =>
   have hsrc := (hsl.alloc (.cells #[] 9)).src Tryz.underlying27
   have HS := Zhd hsrc; clear hsrc
   clear hsl
   go_enter Tryz.func61, Tryz.ntmps61
   go_wp2_with (refine wl_app (v := .slice (some ⟨w.heap.size, 0, none⟩) 0 0) rfl rfl elStr rfl rfl (own_new 9 1) HS.out (by omega) (by omega) ?_; intro v' w1 hown hk hd)
   go_ret
   have hk' : Kept [] w w1 := ((Kept.refl [] w).alloc _).trans hk (by simp) (by simp [Value.ownBlock])
   rw [List.nil_append, Nat.zero_add] at hown
   have hsl' := own_sl hown (by intro u hu; obtain ⟨x, _, rfl⟩ := List.mem_map.1 hu; rfl)
   refine ⟨v', rfl, ⟨?_, hsl'⟩, hk', ?_⟩
   · rcases hsl'.2.2 with ⟨a', c', h1, h2⟩ | ⟨g', off', c', h1, _⟩
     · rw [h1, h2]; exact ⟨_, _, rfl⟩
     · rw [h1]; exact ⟨_, _, rfl⟩
   · intro g' hg'
     rcases hd with ⟨h1, h2⟩ | ⟨h1, h2⟩
     · rw [h1] at hg'; simp [Value.ownBlock] at hg'; simp only [World.size_alloc] at h2; omega
     · rw [h1] at hg'; simp only [Option.some.injEq, World.size_alloc] at hg' h2; omega
structure Mem where
 id : ByteArray
 ver : Int
 tv : Value
 tops : List ByteArray
 dv : Value
 data : List Value
 ov : Value
 owned : List Shr
 gen : Int
 rack : ByteArray
 has : Bool
def memCells (m : Mem) : List Value := [.string m.id, .int .i16 m.ver, m.tv, m.dv, m.ov, .int .i32 m.gen, .string m.rack, .bool m.has]
structure MemAt (w : World) (m : Mem) : Prop where
 tops : SlStrs w m.tv m.tops
 data : (∃ a c, m.dv = .slice a m.data.length c) ∧ SlAt w 1 m.dv m.data.length m.data
 owned : ShrsAt w m.ov m.owned
structure MemsAt (w : World) (v : Value) (L : List Mem) : Prop where
 form : ∃ a c, v = .slice a L.length c
 cells : SlAt w 8 v L.length (L.flatMap memCells)
 each : ∀ m ∈ L, MemAt w m
structure MetaAt (w : World) (lo : Nat) (m : Mem) (u : Value) : Prop where
 ex : ∃ tv dv rk, u = .agg #[.int .i16 m.ver, tv, dv, .slice none 0 0, .int .i32 m.gen, rk] ∧ (∃ ra, rk = .pointer ra) ∧ SlStrs w tv m.tops ∧ SlAt w 1 dv m.data.length m.data ∧
  (∀ g, tv.ownBlock = some g → lo ≤ g ∧ g < w.heap.size) ∧ (∀ g, dv.ownBlock = some g → lo ≤ g ∧ g < w.heap.size)
theorem cells_of {w : World} {X E : Nat} {c : Array Value} (h : w.heap[X]? = some (.cells c E (0, 0))) : (∀ k v, c[k]? = some v → w.cell? ⟨X, k, none⟩ = some v) ∧ ∀ k, w.frozen? ⟨X, k, none⟩ = false :=
 ⟨fun k v hk => by simp [World.cell?, h, hk], fun k => by simp [World.frozen?, h]⟩
theorem run_stored {P : Program} {w : World} {p : Addr} {u : Value} (v : Value) (hc : w.cell? p = some u) (hz : w.frozen? p = false) : stored P w p v .plain = .ok () (w.setCell p v) := by
 simp [stored, hc, hz]
theorem row_set {w : World} {X E : Nat} {c : Array Value} (h : w.heap[X]? = some (.cells c E (0, 0))) (k : Nat) (v : Value) : (w.setCell ⟨X, k, none⟩ v).heap[X]? = some (.cells (c.setIfInBounds k v) E (0, 0)) := by
 simp [World.setCell, Array.getElem?_modify, h]
theorem row_stored {P : Program} {w : World} {X E k : Nat} {c : Array Value} (h : w.heap[X]? = some (.cells c E (0, 0))) (hk : k < c.size) (v : Value) : stored P w ⟨X, k, none⟩ v .plain = .ok () (w.setCell ⟨X, k, none⟩ v) := by
 obtain ⟨h1, h2⟩ := cells_of h
 exact run_stored v (h1 k c[k] (by simp [hk])) (h2 k)
theorem up_store6 {P : Program} {o : Oper} {a : Act} {w : World} {K : Act → World → Prop} {Q : Exit → Act → World → Prop} {f : Unit → World → Result Next} (hf : ∀ u w', f u w' = .ok .skip w') {X E : Nat} {a0 a1 a2 a3 a4 a5 v0 v1 v2 v3 v4 v5 : Value}
 (h : w.heap[X]? = some (.cells #[a0, a1, a2, a3, a4, a5] E (0, 0)))
 (hK : ∀ w', w'.heap[X]? = some (.cells #[v0, v1, v2, v3, v4, v5] E (0, 0)) → Kept [X] w w' → w'.heap.size = w.heap.size → K (a.put o.dst undef) w') :
 Oper.upon P o a K Q (((stored P w ⟨X, 0, none⟩ v0 .plain).andThen fun _ w' => (stored P w' ⟨X, 1, none⟩ v1 .plain).andThen fun _ w' => (stored P w' ⟨X, 2, none⟩ v2 .plain).andThen fun _ w' => (stored P w' ⟨X, 3, none⟩ v3 .plain).andThen fun _ w' => (stored P w' ⟨X, 4, none⟩ v4 .plain).andThen fun _ w' => stored P w' ⟨X, 5, none⟩ v5 .plain).andThen f) := by
 have h1 := row_set h 0 v0
 have h2 := row_set h1 1 v1
 have h3 := row_set h2 2 v2
 have h4 := row_set h3 3 v3
 have h5 := row_set h4 4 v4
 have h6 := row_set h5 5 v5
 rw [row_stored h (by simp), Result.andThen_ok, row_stored h1 (by simp), Result.andThen_ok, row_stored h2 (by simp), Result.andThen_ok, row_stored h3 (by simp), Result.andThen_ok, row_stored h4 (by simp), Result.andThen_ok, row_stored h5 (by simp), Result.andThen_ok, hf, Oper.upon_skip]
 refine hK _ (by simpa using h6) ?_ (by simp)
 exact ((((((Kept.refl _ _).setCell _ (by simp)).setCell _ (by simp)).setCell _ (by simp)).setCell _ (by simp)).setCell _ (by simp)).setCell _ (by simp)
theorem wl_storeRow {P : Program} {ops : Array Oper} {o : Oper} {a : Act} {w : World} {rest : List Oper} {Q : Exit → Act → World → Prop} {T : TypeId} {x y : Operand} {X E : Nat} {c c' : Array Value} (hgd : o.guard = none) (hop : o.op = .store T x y)
 (hx : a.eval x = .pointer (some ⟨X, 0, none⟩)) (hy : a.eval y = .agg c') (h : w.heap[X]? = some (.cells c E (0, 0))) (hi : (P.info? T).map (·.size) = some c'.size) (hsz : c.size = c'.size) (h1 : c'.all (·.oneCell') = true)
 (hK : ∀ w', w'.heap[X]? = some (.cells c' E (0, 0)) → Kept [X] w w' → w'.heap.size = w.heap.size → wpList P ops Q rest (a.put o.dst undef) w') : wpList P ops Q (o :: rest) a w := by
 obtain ⟨hc, hz⟩ := cells_of h
 obtain ⟨c2, h2, h3, h4, h5, h6⟩ := setCells_block X E c'.toList 0 c w h (by simp; omega)
 have h7 : c2 = c' := by
  apply Array.toList_inj.1
  rw [h4]; simp [← hsz]
 subst h7
 refine wl_of hgd fun _ hh => wp_store_mid T x y hop X 0 c2 hx hy (fun j hj => ⟨?_, ?_⟩) hi h1 (hh _ _ (hK _ h2 h5 h6))
 · rw [Nat.zero_add, hc j c[j] (by simp [show j < c.size by omega])]; rfl
 · exact hz _
theorem info78 : (Tryz.prog.info? 78).map (·.size) = some 6 := by kernel_rfl
theorem metadata_any (m : Mem) (w : World) (hm : MemAt w m) (ho : m.owned = []) (hh : m.has = false) (hn : m.tops.length ≤ 1000000) (hd : m.data.length ≤ 1000000) :
 Calls Tryz.prog 45 #[.agg (memCells m).toArray] w fun e w' => ∃ u, e = .returned u ∧ MetaAt w' w.heap.size m u ∧ Kept [] w w' := by
 obtain ⟨id, ver, tv, tops, dv, data, ov, owned, gen, rack, has⟩ := m
 obtain ⟨ht, hda, how⟩ := hm
 simp only at ho hh hn hd ht hda how
 subst ho hh
 obtain ⟨⟨ta, tc, rfl⟩, ht2⟩ := ht
 obtain ⟨⟨da, dc, rfl⟩, hda2⟩ := hda
 obtain ⟨oa, oc, rfl⟩ := how.form
 simp only [memCells, List.length_nil] at *
 have hcl : ∀ w', Kept [] w w' → _ := fun w' k => clone_str (.slice ta tops.length tc) tops w' (SlStrs.kept ⟨⟨_, _, rfl⟩, ht2⟩ k (by simp)) (by omega)
 have HCL := Zhd hcl; clear hcl
 have hsd : ∀ w', Kept [] w w' → Src Tryz.prog 1 28 (.slice da data.length dc) data.length data w' := fun w' k => (hda2.kept k (by simp)).src Tryz.underlying28
 have HSD := Zhd hsd; clear hsd
 have hd1 := hda2.2.1
 have HD1 := Zhd hd1; clear hd1
 have HO := Zhd how; clear how
 clear ht2 hda2
 go_enter Tryz.func45, Tryz.ntmps45
 go_upto_region 1 with fail
 have hM : ∀ M : World, M = ((w.alloc (.cells #[.string id, .int .i16 ver, .slice ta tops.length tc, .slice da data.length dc, .slice oa 0 oc, .int .i32 gen, .string rack, .bool false] 30)).alloc (.cells #[.int .i16 0, .slice none 0 0, .slice none 0 0, .slice none 0 0, .int .i32 0, .pointer none] 78)) →
  (∀ w', Kept [] M w' → w'.cell? ⟨w.heap.size, 1, none⟩ = some (.int .i16 ver) ∧ w'.cell? ⟨w.heap.size, 2, none⟩ = some (.slice ta tops.length tc) ∧ w'.cell? ⟨w.heap.size, 3, none⟩ = some (.slice da data.length dc) ∧ w'.cell? ⟨w.heap.size, 5, none⟩ = some (.int .i32 gen)) ∧
  (∀ w', Kept [] M w' → w'.heap[w.heap.size]? = some (.cells #[.string id, .int .i16 ver, .slice ta tops.length tc, .slice da data.length dc, .slice oa 0 oc, .int .i32 gen, .string rack, .bool false] 30 (0, 0))) ∧
  (∀ w', Kept [] M w' → w'.heap[w.heap.size + 1]? = some (.cells #[.int .i16 0, .slice none 0 0, .slice none 0 0, .slice none 0 0, .int .i32 0, .pointer none] 78 (0, 0))) ∧ Kept [] w M ∧ M.heap.size = w.heap.size + 2 := by
  intro M e
  subst e
  refine ⟨fun w' k => ⟨k.cell (p := ⟨w.heap.size, 1, none⟩) (by simp [go_sem]) (by simp), k.cell (p := ⟨w.heap.size, 2, none⟩) (by simp [go_sem]) (by simp), k.cell (p := ⟨w.heap.size, 3, none⟩) (by simp [go_sem]) (by simp), k.cell (p := ⟨w.heap.size, 5, none⟩) (by simp [go_sem]) (by simp)⟩,
   fun w' k => k.heap (ha (heap_alloc_new w _)) (by simp), fun w' k => k.heap ?_ (by simp), ((Kept.refl _ _).alloc _).alloc _, by simp⟩
  have := heap_alloc_new (w.alloc (.cells #[.string id, .int .i16 ver, .slice ta tops.length tc, .slice da data.length dc, .slice oa 0 oc, .int .i32 gen, .string rack, .bool false] 30)) (.cells #[.int .i16 0, .slice none 0 0, .slice none 0 0, .slice none 0 0, .int .i32 0, .pointer none] 78)
  simpa using this
 generalize hMe : ((w.alloc (.cells #[.string id, .int .i16 ver, .slice ta tops.length tc, .slice da data.length dc, .slice oa 0 oc, .int .i32 gen, .string rack, .bool false] 30)).alloc (.cells #[.int .i16 0, .slice none 0 0, .slice none 0 0, .slice none 0 0, .int .i32 0, .pointer none] 78)) = M
 obtain ⟨hS, hB1, hB2, hk0, hMs⟩ := hM M hMe.symm
 clear hM hMe
 have HS := Zhd hS; clear hS
 have HB1 := Zhd hB1; clear hB1
 have HB2 := Zhd hB2; clear hB2
 have HK0 := Zhd hk0; clear hk0
 have HMS := Zhd hMs; clear hMs
 go_cut [3] (fun p wx => ∃ X tv' dv', p = .pointer (some ⟨X, 0, none⟩) ∧ M.heap.size ≤ X ∧ X < wx.heap.size ∧ wx.heap[X]? = some (.cells #[.int .i16 ver, tv', dv', .slice none 0 0, .int .i32 gen, .pointer none] 78 (0, 0)) ∧
  SlStrs wx tv' tops ∧ SlAt wx 1 dv' data.length data ∧ (∀ g, tv'.ownBlock = some g → M.heap.size ≤ g ∧ g < wx.heap.size ∧ g ≠ X) ∧ (∀ g, dv'.ownBlock = some g → M.heap.size ≤ g ∧ g < wx.heap.size ∧ g ≠ X) ∧ Kept [] M wx)
 case rest =>
  obtain ⟨X, tv', dv', rfl, hX1, hX2, hXh, htv, hdv, hft, hfd, hkm⟩ := hcut
  have hm1 := HB1.out _ hkm
  have hm2 := HB2.out _ hkm
  obtain ⟨hc1, _⟩ := cells_of hm1
  have c4 : wc.cell? ⟨w.heap.size, 4, none⟩ = some (.slice oa 0 oc) := hc1 4 _ rfl
  have c7 : wc.cell? ⟨w.heap.size, 7, none⟩ = some (.bool false) := hc1 7 _ rfl
  obtain ⟨⟨ta', tc', rfl⟩, htv2⟩ := htv
  obtain ⟨da', dn', dc', rfl⟩ := hdv.form
  obtain ⟨hcX, _⟩ := cells_of hXh
  have x0 : wc.cell? ⟨X, 0, none⟩ = some (.int .i16 ver) := hcX 0 _ rfl
  have x1 : wc.cell? ⟨X, 1, none⟩ = some (.slice ta' tops.length tc') := hcX 1 _ rfl
  have x2 : wc.cell? ⟨X, 2, none⟩ = some (.slice da' dn' dc') := hcX 2 _ rfl
  have x3 : wc.cell? ⟨X, 3, none⟩ = some (.slice none 0 0) := hcX 3 _ rfl
  have x4 : wc.cell? ⟨X, 4, none⟩ = some (.int .i32 gen) := hcX 4 _ rfl
  have x5 : wc.cell? ⟨X, 5, none⟩ = some (.pointer none) := hcX 5 _ rfl
  have HM2 := Zhd hm2
  have HTV := Zhd htv2
  have HDV := Zhd hdv
  have HFT := Zhd hft
  have HFD := Zhd hfd
  have HKM := Zhd hkm
  clear hm1 hm2 hc1 hcX htv2 hdv hft hfd hkm hXh
  go_wp2
  go_loopw [21] (fun i wr => i = .int .i64 0 ∧ wr = wc) (fun i _ => 0)
  case atStart => exact ⟨rfl, rfl⟩
  case round =>
   obtain ⟨rfl, rfl⟩ := hrel
   go_wp2_with (refine up_store6 (fun _ _ => rfl) HM2.out ?_; intro w2 hw2 hk2 hs2)
   have hms := HMS.out
   have hMw := HKM.out.size
   refine bodyPost_ret (results_cell_row rfl _ _ (w.heap.size + 1) 78 _ (0, 0) _ rfl hw2 Tryz.underlying78 rfl info78) rfl ?_
   refine ⟨_, rfl, ⟨⟨_, _, _, rfl, ⟨_, rfl⟩, SlStrs.kept ⟨⟨_, _, rfl⟩, HTV.out⟩ hk2 ?_, HDV.out.kept hk2 ?_, ?_, ?_⟩⟩, (HK0.out.trans HKM.out (U := []) (by simp) (by simp)).trans hk2 (by simp) (by simp)⟩
   · intro g hg; have := HFT.out g hg; simp; omega
   · intro g hg; have := HFD.out g hg; simp; omega
   · intro g hg; have := HFT.out g hg; omega
   · intro g hg; have := HFD.out g hg; omega
 case first =>
  go_region_held3 (fun w' => w'.cell? ⟨w.heap.size, 1, none⟩ = some (.int .i16 ver) ∧ w'.cell? ⟨w.heap.size, 2, none⟩ = some (.slice ta tops.length tc) ∧ w'.cell? ⟨w.heap.size, 3, none⟩ = some (.slice da data.length dc) ∧ w'.cell? ⟨w.heap.size, 5, none⟩ = some (.int .i32 gen))
   (first | with_reducible exact HS.out _ (Kept.refl _ _).drew | with_reducible exact HS.out _ hk1' | with_reducible exact HS.out _ hk2' | with_reducible exact HS.out _ ((Kept.refl _ _).alloc _).drew | with_reducible exact HS.out _ (hk1'.alloc _) | with_reducible exact HS.out _ (hk2'.alloc _) | with_reducible exact HS.out _ hk3' | fail)
   (first | (go_at_call 61
             refine (HCL.out _ HK0.out.drew).mono ?_
             rintro e w1 ⟨tv', rfl, ⟨⟨ta', tc', rfl⟩, htv⟩, hk1, hfr1⟩
             have hk1' : Kept [] M w1 := hk1.of_drew)
          | (go_at_call 61
             refine (HCL.out _ (HK0.out.alloc _).drew).mono ?_
             rintro e w1 ⟨tv', rfl, ⟨⟨ta', tc', rfl⟩, htv⟩, hk1, hfr1⟩
             have hk1' : Kept [] M w1 := ((Kept.refl [] M).alloc _).trans hk1.of_drew (by simp) (by simp)
             have hX : w1.heap[M.heap.size]? = some (.cells #[.int .i16 0, .slice none 0 0, .slice none 0 0, .slice none 0 0, .int .i32 0, .pointer none] 78 (0, 0)) := hk1.of_drew.heap (heap_alloc_new M _) (by simp))
          | (refine sl_app (v := .slice none 0 0) rfl rfl elU8 rfl rfl (own_nil _ _) (HSD.out _ (HK0.out.trans hk1' (by simp) (by simp))) (by omega) (by omega) ?_
             intro dv' w2 hown hk2 hd2
             obtain ⟨da', dn', dc', rfl⟩ := own_form hown
             have hk2' : Kept [] M w2 := hk1'.trans hk2 (by simp) (by simp [Value.ownBlock])
             have hX2 : w2.heap[M.heap.size]? = some (.cells #[.int .i16 0, .slice none 0 0, .slice none 0 0, .slice none 0 0, .int .i32 0, .pointer none] 78 (0, 0)) := hk2.heap hX (by simp [Value.ownBlock])
             have HX2 := Zhd hX2; clear hX2)
          | (refine sl_app (v := .slice none 0 0) rfl rfl elU8 rfl rfl (own_nil _ _) (HSD.out _ (HK0.out.trans hk1' (by simp) (by simp))) (by omega) (by omega) ?_
             intro dv' w2 hown hk2 hd2
             obtain ⟨da', dn', dc', rfl⟩ := own_form hown
             have hk2' : Kept [] M w2 := hk1'.trans hk2 (by simp) (by simp [Value.ownBlock]))
          | (refine sl_app (v := .slice none 0 0) rfl rfl elU8 rfl rfl (own_nil _ _) (HSD.out _ ((HK0.out.trans hk1' (by simp) (by simp)).alloc _)) (by omega) (by omega) ?_
             intro dv' w2 hown hk2 hd2
             obtain ⟨da', dn', dc', rfl⟩ := own_form hown
             have hk2' : Kept [] M w2 := (hk1'.alloc _).trans hk2 (by simp) (by simp [Value.ownBlock])
             have hX2 : w2.heap[w1.heap.size]? = some (.cells #[.int .i16 0, .slice none 0 0, .slice none 0 0, .slice none 0 0, .int .i32 0, .pointer none] 78 (0, 0)) := hk2.heap (heap_alloc_new w1 _) (by simp [Value.ownBlock])
             have HX2 := Zhd hX2; clear hX2)
          | (refine up_store6 (fun _ _ => rfl) HX2.out ?_
             intro w3 hX3 hk3 hs3
             have hk3' : Kept [] M w3 := hk2'.trans hk3 (by simp) (fun x hx hlt => absurd hlt (by have := hk1'.size; simp only [List.mem_singleton] at hx; omega)))
          | fail)
  · go_wp2_with fail
    go_meet
    have hs1 := hk1'.size
    have hs2 := hk2.size
    rw [List.nil_append, Nat.zero_add] at hown
    have ht2 : SlStrs w2 (.slice ta' tops.length tc') tops := (SlStrs.kept ⟨⟨_, _, rfl⟩, htv⟩ hk2 (by simp [Value.ownBlock]))
    refine ⟨w2.heap.size, _, _, rfl, by omega, by simp, heap_alloc_new _ _, ht2.kept ((Kept.refl [] _).alloc _) (by simp), (own_sl hown HD1.out).alloc _, ?_, ?_, hk2'.alloc _⟩
    · intro g hg; have := hfr1 g hg; simp only [World.size_drew, World.size_alloc] at *; omega
    · intro g hg
      rcases hd2 with ⟨h1, h2⟩ | ⟨h1, h2⟩
      · rw [h1] at hg; simp [Value.ownBlock] at hg
      · rw [h1] at hg; simp only [Option.some.injEq, World.size_drew, World.size_alloc] at *; omega
  · go_wp2_with fail
    go_meet
    have hs1 := hk1'.size
    have hs2 := hk2.size
    have hs3 := hk3.size
    rw [List.nil_append, Nat.zero_add] at hown
    simp only [World.size_alloc] at hs2
    have ht2 : SlStrs w2 (.slice ta' tops.length tc') tops := (SlStrs.kept ⟨⟨_, _, rfl⟩, htv.alloc _⟩ hk2 (by simp [Value.ownBlock]))
    refine ⟨w1.heap.size, _, _, rfl, by omega, by omega, hX3, ht2.kept hk3 ?_, (own_sl hown HD1.out).kept hk3 ?_, ?_, ?_, hk3'⟩
    · intro g hg; have := hfr1 g hg; simp only [World.size_drew, List.mem_singleton] at *; omega
    · intro g hg
      rcases hd2 with ⟨h1, h2⟩ | ⟨h1, h2⟩
      · rw [h1] at hg; simp [Value.ownBlock] at hg
      · rw [h1] at hg; simp only [Option.some.injEq, World.size_drew, World.size_alloc, List.mem_singleton] at *; omega
    · intro g hg; have := hfr1 g hg; simp only [World.size_drew, World.size_alloc] at *; omega
    · intro g hg
      rcases hd2 with ⟨h1, h2⟩ | ⟨h1, h2⟩
      · rw [h1] at hg; simp [Value.ownBlock] at hg
      · rw [h1] at hg; simp only [Option.some.injEq, World.size_drew, World.size_alloc] at *; omega
  · go_wp2_with fail
    go_meet
    have hs1 := hk1.size
    have hs2 := hk2.size
    have hs3 := hk3.size
    rw [List.nil_append, Nat.zero_add] at hown
    simp only [World.size_alloc, World.size_drew] at hs1
    have ht2 : SlStrs w2 (.slice ta' tops.length tc') tops := (SlStrs.kept ⟨⟨_, _, rfl⟩, htv⟩ hk2 (by simp [Value.ownBlock]))
    refine ⟨M.heap.size, _, _, rfl, by omega, by omega, hX3, ht2.kept hk3 ?_, (own_sl hown HD1.out).kept hk3 ?_, ?_, ?_, hk3'⟩
    · intro g hg; have := hfr1 g hg; simp only [World.size_drew, World.size_alloc, List.mem_singleton] at *; omega
    · intro g hg
      rcases hd2 with ⟨h1, h2⟩ | ⟨h1, h2⟩
      · rw [h1] at hg; simp [Value.ownBlock] at hg
      · rw [h1] at hg; simp only [Option.some.injEq, World.size_drew, World.size_alloc, List.mem_singleton] at *; omega
    · intro g hg; have := hfr1 g hg; simp only [World.size_drew, World.size_alloc] at *; omega
    · intro g hg
      rcases hd2 with ⟨h1, h2⟩ | ⟨h1, h2⟩
      · rw [h1] at hg; simp [Value.ownBlock] at hg
      · rw [h1] at hg; simp only [Option.some.injEq, World.size_drew, World.size_alloc] at *; omega
end
end Go.Proofs.YticcnlpfmekagaaGreat
namespace Go.Proofs
section
open Go.Shelf
def Tryz.lays125_ren : Go.Shelf.Ren := ⟨fun | 125 => 78 | 128 => 104 | 129 => 105 | n => n, fun | 46 => 151 | 3 => 3 | 51 => 103 | 53 => 98 | 4 => 4 | 5 => 5 | 9 => 9 | n => n, fun | n => n⟩
theorem Tryz.lays125 : Go.Proofs.Lays.n125 Tryz.prog Tryz.lays125_ren := {
 mixed := by kernel_rfl
 f125 := Tryz.func78.trans (congrArg some (by kernel_rfl))
 f128 := Tryz.func104.trans (congrArg some (by kernel_rfl))
 f129 := Tryz.func105.trans (congrArg some (by kernel_rfl))
 t3 := Tryz.underlying3
 a3 := Tryz.isAgg3
 z3 := Tryz.sizeOf3
 v3 := Tryz.zeroValue3
 t4 := Tryz.underlying4
 a4 := Tryz.isAgg4
 z4 := Tryz.sizeOf4
 v4 := Tryz.zeroValue4
 t5 := Tryz.underlying5
 a5 := Tryz.isAgg5
 z5 := Tryz.sizeOf5
 v5 := Tryz.zeroValue5
 t9 := Tryz.underlying9
 a9 := Tryz.isAgg9
 z9 := Tryz.sizeOf9
 v9 := Tryz.zeroValue9
 t46 := Tryz.underlying151
 a46 := Tryz.isAgg151
 z46 := Tryz.sizeOf151
 v46 := Tryz.zeroValue151
 t51 := Tryz.underlying103
 a51 := Tryz.isAgg103
 z51 := Tryz.sizeOf103
 v51 := Tryz.zeroValue103
 t53 := Tryz.underlying98
 a53 := Tryz.isAgg98
 z53 := Tryz.sizeOf98
 v53 := Tryz.zeroValue98 }
theorem Tryz.bits_Len (x : Int) (w : World) (h0 : 0 ≤ x) (h1 : x ≤ 18446744073709551615) :
 Calls Tryz.prog 78 #[.int .u64 x] w fun e w' => e = .returned (.int .i64 (Lib.bitLen x.toNat)) ∧ w' = w := Any.bits_Len Tryz.lays125 x w h0 h1
def Tryz.lays190_ren : Go.Shelf.Ren := ⟨fun | 190 => 48 | 125 => 78 | 258 => 77 | 128 => 104 | 129 => 105 | 302 => 95 | 303 => 96 | 304 => 97 | 305 => 98 | 306 => 99 | 307 => 100 | 308 => 101 | 309 => 102 | 310 => 103 | 333 => 120 | 329 => 121 | 330 => 122 | 334 => 123 | 335 => 124 | 336 => 125 | 344 => 134 | n => n, fun | 31 => 27 | 9 => 9 | 3 => 3 | 46 => 151 | 0 => 0 | 51 => 103 | 53 => 98 | 4 => 4 | 183 => 185 | 182 => 184 | 131 => 190 | 5 => 5 | 218 => 235 | 222 => 239 | 228 => 260 | 229 => 261 | n => n, fun | n => n⟩
theorem Tryz.lays190 : Go.Proofs.Lays.n190 Tryz.prog Tryz.lays190_ren := {
 mixed := by kernel_rfl
 f125 := Tryz.func78.trans (congrArg some (by kernel_rfl))
 f128 := Tryz.func104.trans (congrArg some (by kernel_rfl))
 f129 := Tryz.func105.trans (congrArg some (by kernel_rfl))
 f190 := Tryz.func48.trans (congrArg some (by kernel_rfl))
 f258 := Tryz.func77.trans (congrArg some (by kernel_rfl))
 f302 := Tryz.func95.trans (congrArg some (by kernel_rfl))
 f303 := Tryz.func96.trans (congrArg some (by kernel_rfl))
 f304 := Tryz.func97.trans (congrArg some (by kernel_rfl))
 f305 := Tryz.func98.trans (congrArg some (by kernel_rfl))
 f306 := Tryz.func99.trans (congrArg some (by kernel_rfl))
 f307 := Tryz.func100.trans (congrArg some (by kernel_rfl))
 f308 := Tryz.func101.trans (congrArg some (by kernel_rfl))
 f309 := Tryz.func102.trans (congrArg some (by kernel_rfl))
 f310 := Tryz.func103.trans (congrArg some (by kernel_rfl))
 f329 := Tryz.func121.trans (congrArg some (by kernel_rfl))
 f330 := Tryz.func122.trans (congrArg some (by kernel_rfl))
 f333 := Tryz.func120.trans (congrArg some (by kernel_rfl))
 f334 := Tryz.func123.trans (congrArg some (by kernel_rfl))
 f335 := Tryz.func124.trans (congrArg some (by kernel_rfl))
 f336 := Tryz.func125.trans (congrArg some (by kernel_rfl))
 f344 := Tryz.func134.trans (congrArg some (by kernel_rfl))
 t0 := Tryz.underlying0
 a0 := Tryz.isAgg0
 z0 := Tryz.sizeOf0
 v0 := Tryz.zeroValue0
 t3 := Tryz.underlying3
 a3 := Tryz.isAgg3
 z3 := Tryz.sizeOf3
 v3 := Tryz.zeroValue3
 t4 := Tryz.underlying4
 a4 := Tryz.isAgg4
 z4 := Tryz.sizeOf4
 v4 := Tryz.zeroValue4
 t5 := Tryz.underlying5
 a5 := Tryz.isAgg5
 z5 := Tryz.sizeOf5
 v5 := Tryz.zeroValue5
 t9 := Tryz.underlying9
 a9 := Tryz.isAgg9
 z9 := Tryz.sizeOf9
 v9 := Tryz.zeroValue9
 t31 := Tryz.underlying27
 a31 := Tryz.isAgg27
 z31 := Tryz.sizeOf27
 v31 := Tryz.zeroValue27
 t46 := Tryz.underlying151
 a46 := Tryz.isAgg151
 z46 := Tryz.sizeOf151
 v46 := Tryz.zeroValue151
 t51 := Tryz.underlying103
 a51 := Tryz.isAgg103
 z51 := Tryz.sizeOf103
 v51 := Tryz.zeroValue103
 t53 := Tryz.underlying98
 a53 := Tryz.isAgg98
 z53 := Tryz.sizeOf98
 v53 := Tryz.zeroValue98
 t131 := Tryz.underlying190
 a131 := Tryz.isAgg190
 z131 := Tryz.sizeOf190
 v131 := Tryz.zeroValue190
 t182 := Tryz.underlying184
 a182 := Tryz.isAgg184
 z182 := Tryz.sizeOf184
 v182 := Tryz.zeroValue184
 t183 := Tryz.underlying185
 a183 := Tryz.isAgg185
 z183 := Tryz.sizeOf185
 v183 := Tryz.zeroValue185
 t218 := Tryz.underlying235
 a218 := Tryz.isAgg235
 z218 := Tryz.sizeOf235
 v218 := Tryz.zeroValue235
 t222 := Tryz.underlying239
 a222 := Tryz.isAgg239
 z222 := Tryz.sizeOf239
 v222 := Tryz.zeroValue239
 t228 := Tryz.underlying260
 a228 := Tryz.isAgg260
 z228 := Tryz.sizeOf260
 v228 := Tryz.zeroValue260
 t229 := Tryz.underlying261
 a229 := Tryz.isAgg261
 z229 := Tryz.sizeOf261
 v229 := Tryz.zeroValue261 }
open Go.Sort Go.RowKit in
theorem Tryz.slices_Sort_string (blk off cap : Nat) (ss : List (List UInt8)) (w : World) (hH : Holds encStr w blk off ss.toArray) (hblk : blk < w.heap.size) (hsz : ss.length < 4611686018427387904) :
 Calls Tryz.prog 48 #[.slice (some ⟨blk, off, none⟩) ss.length cap] w fun e w' =>
  e = .returned (.tuple #[]) ∧ ∃ n os, w' = grow (putRow encStr (Sort.ahead w n) blk off (ss.mergeSort fun x y => decide (x ≤ y)).toArray) os := Any.slices_Sort_string Tryz.lays190 blk off cap ss w hH hblk hsz
end
end Go.Proofs
namespace Go.Proofs.YticcnlpfmekagaaGreat
end Go.Proofs.YticcnlpfmekagaaGreat
