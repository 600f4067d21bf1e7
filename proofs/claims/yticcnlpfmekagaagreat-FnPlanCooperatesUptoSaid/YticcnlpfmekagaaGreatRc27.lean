/- Part 27 of the proof of the row: GroupS. -/
import Derived.Test.YticcnlpfmekagaaGreatRc00
import Derived.Test.YticcnlpfmekagaaGreatRc25
import Derived.Test.YticcnlpfmekagaaGreatRc26
set_option linter.unusedVariables false
set_option linter.unusedSimpArgs false
set_option maxRecDepth 100000
set_option maxHeartbeats 8000000
namespace Go.Proofs.YticcnlpfmekagaaGreat
section
open Go Go.Proofs Go.RowKit
abbrev Mu := Mem × Value × List Nat
def rawMu (MU : List Mu) : List (Value × Value) := MU.map fun x => (.string x.1.id, x.2.1)
structure MetaW (w : World) (x : Mu) : Prop where
 ex : ∃ tv dv ov ra OL, x.2.1 = .agg #[.int .i16 x.1.ver, tv, dv, ov, .int .i32 x.1.gen, .pointer ra] ∧ ow2 OL = x.1.owned.map owOf ∧ SlStrs w tv x.1.tops ∧ DataAt w dv x.1.data ∧ (∀ y ∈ OL, OwAt w y) ∧ w.ownsRow 0 119 1 ov OL.length (ptrsO OL) ∧
  (∀ g ∈ tv.ownBlock.toList ++ dv.ownBlock.toList ++ footO OL ++ ov.ownBlock.toList, g ∈ x.2.2)
 lt : ∀ g ∈ x.2.2, g < w.heap.size
theorem metaF_w {w : World} {lo : Nat} {m : Mem} {u : Value} (h : MetaF w lo m u) : ∃ F, MetaW w (m, u, F) ∧ ∀ g ∈ F, lo ≤ g := by
 obtain ⟨tv, dv, ov, ra, OL, rfl, h1, h2, _, _⟩ := h
 have hb : ∀ g ∈ tv.ownBlock.toList ++ dv.ownBlock.toList ++ footO OL ++ ov.ownBlock.toList, lo ≤ g ∧ g < w.heap.size := by
  intro g hg
  rcases Zap.1 hg with hg | hg
  · exact h2.lo (Rs.stuff tv m.tops dv m.data OL) (by simp) g hg
  · exact h2.lo (Rs.row 119 1 ov OL.length (ptrsO OL)) (by simp) g hg
 obtain ⟨g1, g2, g3⟩ : (Rs.stuff tv m.tops dv m.data OL).holds w := h2.ok _ (by simp)
 exact ⟨_, ⟨⟨tv, dv, ov, ra, OL, rfl, h1, g1, g2, g3, h2.ok (Rs.row 119 1 ov OL.length (ptrsO OL)) (by simp), fun g hg => hg⟩, fun g hg => (hb g hg).2⟩, fun g hg => (hb g hg).1⟩
theorem MetaW.kept {w w' : World} {x : Mu} {S : List Nat} (h : MetaW w x) (k : Kept S w w') (hs : ∀ g ∈ x.2.2, g ∉ S) : MetaW w' x := by
 obtain ⟨⟨tv, dv, ov, ra, OL, e, h1, g1, g2, g3, g4, g5⟩, hl⟩ := h
 have hs' : ∀ g ∈ tv.ownBlock.toList ++ dv.ownBlock.toList ++ footO OL ++ ov.ownBlock.toList, g ∉ S := fun g hg => hs g (g5 g hg)
 refine ⟨⟨tv, dv, ov, ra, OL, e, h1, g1.kept k (fun g hg => hs' g (by simp [hg])), g2.kept k (fun g hg => hs' g (by simp [hg])), fun y hy => ?_, own_kept g4 k (fun g hg => hs' g (by simp [hg])), g5⟩, fun g hg => by have := hl g hg; have := k.size; omega⟩
 obtain ⟨q1, q2⟩ := g3 y hy
 have hf : ∀ g ∈ y.2.1 :: y.2.2.1.ownBlock.toList, g ∈ footO OL := fun g hg => List.mem_flatMap.2 ⟨y, hy, hg⟩
 exact ⟨k.heap q1 (hs' _ (by simp only [Zap]; exact .inl (.inr (hf _ (by simp))))), q2.kept k (fun g hg => hs' _ (by simp only [Zap]; exact .inl (.inr (hf _ (by simp [hg])))))⟩
structure MetasW (w : World) (rm lo : Nat) (MU : List Mu) : Prop where
 map : MapAt w isStr rm (rawMu MU)
 each : ∀ x ∈ MU, MetaW w x ∧ ∀ g ∈ x.2.2, lo ≤ g
theorem MetasW.kept {w w' : World} {rm lo : Nat} {MU : List Mu} {S : List Nat} (h : MetasW w rm lo MU) (k : Kept S w w') (hr : rm ∉ S) (hs : ∀ x ∈ MU, ∀ g ∈ x.2.2, g ∉ S) : MetasW w' rm lo MU :=
 ⟨h.map.kept k hr, fun x hx => ⟨(h.each x hx).1.kept k (hs x hx), (h.each x hx).2⟩⟩
structure MemOkW (m : Mem) : Prop where
 tops : m.tops.length ≤ 1000000
 data : m.data.length ≤ 1000000
 olen : m.owned.length ≤ 1000
 oparts : ∀ x ∈ m.owned, x.parts.length ≤ 1000000
def OutS (P : PL) (names : List ByteArray) (LL : List (List Shr)) : Prop :=
 LL.length = names.length ∧ ∀ (j : Nat) nm l, names[j]? = some nm → LL[j]? = some l → ∃ r D, (nm, r, D) ∈ P ∧ (l.map trip).Perm ((D.filter full).map (tripOf nm)) ∧ l.Pairwise (fun x y => topLt y.top x.top = false)
def GroupResS (B b : Nat) (Good : PL → Prop) (names : List ByteArray) (w : World) : Prop :=
 ∃ P LL a c, Good P ∧ OutS P names LL ∧ w.cell? ⟨b + 3, 0, none⟩ = some (.slice a LL.flatten.length c) ∧ ShrsAt w (.slice a LL.flatten.length c) LL.flatten ∧ w.cell? ⟨b + 4, 0, none⟩ = some (.bool true) ∧
  w.frozen? ⟨b + 3, 0, none⟩ = false ∧ w.frozen? ⟨b + 4, 0, none⟩ = false ∧ (∀ g, (Value.slice a LL.flatten.length c).ownBlock = some g → B ≤ g) ∧ (∀ x ∈ LL.flatten, ∀ g, x.val.ownBlock = some g → B ≤ g)
theorem OutS.snoc {P : PL} {names : List ByteArray} {LL : List (List Shr)} (h : OutS P names LL) {nm : ByteArray} {r : Nat} {D : Tops} {l : List Shr} (h1 : (nm, r, D) ∈ P) (h2 : (l.map trip).Perm ((D.filter full).map (tripOf nm))) (h3 : l.Pairwise (fun x y => topLt y.top x.top = false)) : OutS P (names ++ [nm]) (LL ++ [l]) := by
 refine ⟨by simp [h.1], fun j nm' l' hj hl => ?_⟩
 by_cases hjn : j < names.length
 · rw [List.getElem?_append_left hjn] at hj
   rw [List.getElem?_append_left (by rw [h.1]; exact hjn)] at hl
   exact h.2 j nm' l' hj hl
 · have hlt : j < (names ++ [nm]).length := (List.getElem?_eq_some_iff.1 hj).1
   simp only [List.length_append, List.length_cons, List.length_nil] at hlt
   obtain rfl : j = names.length := by omega
   rw [List.getElem?_append_right (Nat.le_refl _)] at hj
   rw [List.getElem?_append_right (by rw [h.1]; exact Nat.le_refl _), h.1] at hl
   simp at hj hl
   subst hj hl
   exact ⟨r, D, h1, h2, h3⟩
def PlanW (n : Nat) (f : FuncId) (w : World) (Ms : List Mem) (Ts : List Shr) (Good : PL → Prop) : Prop :=
 ∀ (w1 : World) (rm rt sp : Nat) (MU : List Mu) (D : Tops), Kept [] w w1 → MU.map (·.1) = Ms → MetasW w1 rm (rm + 1) MU → TopsAt w1 rt D → tops2 D = Ts.map topOf →
  w.heap.size ≤ rm → rm < sp → sp < rt → rt < w1.heap.size → (∀ x ∈ MU, ∀ g ∈ x.2.2, g < sp) → (∀ x ∈ D, ∀ g, x.2.1.ownBlock = some g → rt < g ∧ g < w1.heap.size) → (∀ x ∈ D, CapOk x) → w1.heap[sp]? = some (stratO n) →
  Calls Tryz.prog f #[.pointer (some ⟨sp, 0, none⟩), .map (some rm), .map (some rt)] w1 fun e w' => ∃ p P, e = .returned (.tuple #[.map (some p), .nilIface]) ∧ PlanAt w' p P ∧ PlanFresh sp w' p P ∧ Good P ∧ Kept [sp] w1 w'
theorem plan_closureW (n : Nat) (hn : n < 4) (f : FuncId) (hf : IsMeth (stratT n) "Plan" f) (b : Nat) (am : Option Addr) (cm : Nat) (Ms : List Mem) (tv : Value) (Ts : List Shr) (Good : PL → Prop) (w : World)
 (hm : MemsAt w (.slice am Ms.length cm) Ms) (hok : ∀ m ∈ Ms, MemOkW m) (hnd : (ids Ms).Nodup) (hml : Ms.length ≤ 1000) (hm1 : 1 ≤ Ms.length)
 (ht : ShrsAt w tv Ts) (htl : Ts.length ≤ 1000) (htnd : (Ts.map (·.top)).Nodup) (htsz : ∀ x ∈ Ts, x.parts.length ≤ 1000)
 (hplan : PlanW n f w Ms Ts Good) (hgood : ∀ P, Good P → ∀ m ∈ Ms, ∃ r D, (m.id, r, D) ∈ P ∧ D.length ≤ 12 ∧ ∀ x ∈ D, x.2.2.length ≤ 1000000)
 (hc : w.cell? ⟨b, 0, none⟩ = some (.int .i64 n) ∧ w.cell? ⟨b + 1, 0, none⟩ = some (.slice am Ms.length cm) ∧ w.cell? ⟨b + 2, 0, none⟩ = some tv)
 (hd : w.cell? ⟨b + 3, 0, none⟩ = some (.slice none 0 0) ∧ w.cell? ⟨b + 4, 0, none⟩ = some (.bool false) ∧ w.frozen? ⟨b + 3, 0, none⟩ = false ∧ w.frozen? ⟨b + 4, 0, none⟩ = false) (hlt : b + 4 < w.heap.size) :
 Calls Tryz.prog 44 #[.pointer (some ⟨b + 1, 0, none⟩), .pointer (some ⟨b, 0, none⟩), .pointer (some ⟨b + 2, 0, none⟩), .pointer (some ⟨b + 4, 0, none⟩), .pointer (some ⟨b + 3, 0, none⟩)] w fun e w' =>
  e = .returned (.tuple #[]) ∧ GroupResS w.heap.size b Good (sortedNames (ids Ms)) w' ∧ Kept [b + 3, b + 4] w w' := by
 have hgood' : ∀ P, Good P → (Good P ∧ ∀ m ∈ Ms, ∃ r D, (m.id, r, D) ∈ P ∧ D.length ≤ 12 ∧ ∀ x ∈ D, x.2.2.length ≤ 1000000) := fun P h => ⟨h, hgood P h⟩
 have hmm := @run_makeMap Tryz.prog
 have hcm := hc.2.1
 have HC := Zhd hc; clear hc
 have HD := Zhd hd; clear hd
 have HM := Zhd hm; clear hm
 have HT := Zhd ht; clear ht
 have HOK := Zhd hok; clear hok
 have HND := Zhd hnd; clear hnd
 have HTN := Zhd (Zan htnd htsz); clear htnd htsz
 have HPL := Zhd hplan; clear hplan
 have HGD := Zhd hgood'; clear hgood hgood'
 have HF := Zhd hf; clear hf
 generalize hMn : Ms.length = N at *
 have HMN := Zhd hMn; clear hMn
 have hcm0 : (w.alloc (.map #[] 0)).cell? ⟨b + 1, 0, none⟩ = some (.slice am N cm) := ca hcm
 clear hcm
 go_enter Tryz.func44, Tryz.ntmps44
 go_upto_block 0 with fail
 go_cut [6] (fun v wx => ∃ MU, MU.map (·.1) = Ms ∧ MetasW wx w.heap.size (w.heap.size + 1) MU ∧ wx.ownsRow 0 9 1 v N (strs (ids Ms)) ∧ Kept [] w wx ∧
  (∀ g, v.ownBlock = some g → w.heap.size < g ∧ g < wx.heap.size) ∧ w.heap.size < wx.heap.size)
 case first =>
  go_wp2_with fail
  go_loopw [6, 18] (fun v i wr => ∃ (k : Nat) (MU : List Mu), k ≤ N ∧ i = .int .i64 k ∧ MU.map (·.1) = Ms.take k ∧ MetasW wr w.heap.size (w.heap.size + 1) MU ∧ wr.ownsRow 0 9 1 v k (strs (ids (Ms.take k))) ∧ Kept [] w wr ∧
   (∀ g, v.ownBlock = some g → w.heap.size < g ∧ g < wr.heap.size ∧ ∀ x ∈ MU, g ∉ x.2.2) ∧ w.heap.size < wr.heap.size) (fun _ i _ => N - (intOf i).toNat)
  case atStart => exact ⟨0, [], Nat.zero_le _, rfl, rfl, ⟨MapAt.new w isStr, by simp⟩, own_nil _ _, (Kept.refl _ _).alloc _, by simp [Value.ownBlock], by simp⟩
  case round =>
   obtain ⟨k, MU, hk, rfl, hMU, hmet, hown, hkw, hvo, hlo⟩ := hrel
   obtain ⟨va, vn, vc, rfl⟩ := own_form hown
   by_cases hkn : k < N
   · obtain ⟨m, hkm⟩ : ∃ m, Ms[k]? = some m := ⟨_, List.getElem?_eq_getElem (by have := HMN.out; omega)⟩
     have hmM : m ∈ Ms := List.mem_of_getElem? hkm
     have hmok := HOK.out m hmM
     have hme := HM.out.each m hmM
     have hgc := mem_get hkm
     have hcells := HM.out.cells
     rw [HMN.out] at hcells
     obtain ⟨_, hcase⟩ := hcells.cases
     rcases hcase with ⟨_, h0, _⟩ | ⟨g, off, hva, hcell⟩
     · omega
     cases hva
     clear hcells
     have hmiss : ∀ u, (Value.string m.id, u) ∉ rawMu MU := by
      intro u hu
      unfold rawMu at hu
      obtain ⟨y, hy, hye⟩ := List.mem_map.1 hu
      have hyt : y.1.id = m.id := by simpa using (Prod.mk.inj hye).1
      have hmem : m.id ∈ ids (Ms.take k) := by rw [← hMU, ← hyt]; unfold ids; exact List.mem_map_of_mem (List.mem_map_of_mem hy)
      obtain ⟨hk', hx'⟩ := List.getElem?_eq_some_iff.1 hkm
      have hsplit : ids Ms = ids (Ms.take k) ++ m.id :: ids (Ms.drop (k + 1)) := by
       conv => lhs; rw [← List.take_append_drop k Ms, List.drop_eq_getElem_cons hk', hx']
       simp [ids]
      have hn := HND.out
      rw [hsplit] at hn
      exact (List.nodup_append.1 hn).2.2 _ hmem _ (by simp) rfl
     obtain ⟨id, ver, tvv, tops, dv, data, ov, owned, gen, rack, has⟩ := m
     obtain ⟨⟨ta, tc, e1⟩, _⟩ := hme.tops
     obtain ⟨⟨da, dc, e2⟩, _⟩ := hme.data
     obtain ⟨oa, oc, e3⟩ := hme.owned.form
     simp only at e1 e2 e3 hmiss
     subst e1 e2 e3
     have c0 : wr.cell? ⟨g, off + k * 8, none⟩ = some (.string id) := hkw.cell (hcell _ _ (hgc 0 (by omega))) (by simp)
     have c1 : wr.cell? ⟨g, off + k * 8 + 1, none⟩ = some (.int .i16 ver) := hkw.cell (by rw [Nat.add_assoc]; exact hcell _ _ (hgc 1 (by omega))) (by simp)
     have c2 : wr.cell? ⟨g, off + k * 8 + 2, none⟩ = some (.slice ta tops.length tc) := hkw.cell (by rw [Nat.add_assoc]; exact hcell _ _ (hgc 2 (by omega))) (by simp)
     have c3 : wr.cell? ⟨g, off + k * 8 + 3, none⟩ = some (.slice da data.length dc) := hkw.cell (by rw [Nat.add_assoc]; exact hcell _ _ (hgc 3 (by omega))) (by simp)
     have c4 : wr.cell? ⟨g, off + k * 8 + 4, none⟩ = some (.slice oa owned.length oc) := hkw.cell (by rw [Nat.add_assoc]; exact hcell _ _ (hgc 4 (by omega))) (by simp)
     have c5 : wr.cell? ⟨g, off + k * 8 + 5, none⟩ = some (.int .i32 gen) := hkw.cell (by rw [Nat.add_assoc]; exact hcell _ _ (hgc 5 (by omega))) (by simp)
     have c6 : wr.cell? ⟨g, off + k * 8 + 6, none⟩ = some (.string rack) := hkw.cell (by rw [Nat.add_assoc]; exact hcell _ _ (hgc 6 (by omega))) (by simp)
     have c7 : wr.cell? ⟨g, off + k * 8 + 7, none⟩ = some (.bool has) := hkw.cell (by rw [Nat.add_assoc]; exact hcell _ _ (hgc 7 (by omega))) (by simp)
     have hlk := map_lookup_miss (hmet.map.alloc (.cells #[.string id, .int .i16 ver, .slice ta tops.length tc, .slice da data.length dc, .slice oa owned.length oc, .int .i32 gen, .string rack, .bool has] 30)) (keyT_str Tryz.underlying9) Tryz.underlying74 ⟨_, rfl⟩ hmiss (zero78 _) true
     simp only [if_true] at hlk
     have HK := Zhd hkm; clear hkm
     have HMK := Zhd hmok; clear hmok
     have HME := Zhd hme; clear hme
     have HMI := Zhd hmiss; clear hmiss
     have HMM := Zhd hmM; clear hmM
     have HMU := Zhd hMU; clear hMU
     have HVO := Zhd hvo; clear hvo
     have HOW := Zhd hown; clear hown
     have HME2 := Zhd hmet; clear hmet
     clear hcell hgc
     go_upto_region 8 with (first | (refine wl_build1 (x := .string id) rfl rfl rfl (build_str id _) ?_) | (refine wl_app (v := .slice va vn vc) rfl rfl elStr rfl rfl (own_kept HOW.out ((((Kept.refl [] wr).alloc _).alloc _).alloc _) (by simp)) ((new_sl1 _ _ _ rfl).src Tryz.underlying27) (by omega) (by omega) ?_; intro v' w5 hown5 hk5 hd5) | fail)
     have hvb : ∀ g', (Value.slice va vn vc).ownBlock = some g' → w.heap.size < g' ∧ g' < wr.heap.size ∧ ∀ x ∈ MU, g' ∉ x.2.2 := HVO.out
     have HVB := Zhd hvb; clear hvb
     have hb1 : ((((wr.alloc (.cells #[.string id, .int .i16 ver, .slice ta tops.length tc, .slice da data.length dc, .slice oa owned.length oc, .int .i32 gen, .string rack, .bool has] 30)).alloc (.cells #[.int .i16 0, .slice none 0 0, .slice none 0 0, .slice none 0 0, .int .i32 0, .pointer none] 78)).alloc (.cells #[.string id] 9))).heap[wr.heap.size]? =
      some (.cells #[.string id, .int .i16 ver, .slice ta tops.length tc, .slice da data.length dc, .slice oa owned.length oc, .int .i32 gen, .string rack, .bool has] 30 (0, 0)) := ha (ha (heap_alloc_new wr _))
     have hk5r : Kept (Value.slice va vn vc).ownBlock.toList wr w5 := ((((Kept.refl [] wr).alloc _).alloc _).alloc _).trans hk5 (by simp) (fun y hy _ => hy)
     have hk5w : Kept [] w w5 := hkw.trans hk5r (by simp) (fun y hy hl => by simp only [Option.mem_toList] at hy; have := HVB.out y hy; omega)
     have hs5 := hk5.size
     simp only [World.size_alloc] at hs5 hd5
     have hb5 : ∀ w', Kept [w.heap.size] w5 w' → w'.heap[wr.heap.size]? = some (.cells #[.string id, .int .i16 ver, .slice ta tops.length tc, .slice da data.length dc, .slice oa owned.length oc, .int .i32 gen, .string rack, .bool has] 30 (0, 0)) :=
      fun w' k' => k'.heap (hk5.heap hb1 (fun h => by simp only [Option.mem_toList] at h; have := HVB.out _ h; omega)) (by simp; omega)
     have hS : ∀ w', Kept [w.heap.size] w5 w' → w'.cell? ⟨wr.heap.size, 0, none⟩ = some (.string id) ∧ w'.cell? ⟨wr.heap.size, 1, none⟩ = some (.int .i16 ver) ∧ w'.cell? ⟨wr.heap.size, 2, none⟩ = some (.slice ta tops.length tc) ∧ w'.cell? ⟨wr.heap.size, 3, none⟩ = some (.slice da data.length dc) ∧
      w'.cell? ⟨wr.heap.size, 4, none⟩ = some (.slice oa owned.length oc) ∧ w'.cell? ⟨wr.heap.size, 5, none⟩ = some (.int .i32 gen) ∧ w'.cell? ⟨wr.heap.size, 6, none⟩ = some (.string rack) ∧ w'.cell? ⟨wr.heap.size, 7, none⟩ = some (.bool has) := fun w' k' => by
      obtain ⟨h1, _⟩ := cells_of (hb5 w' k')
      exact ⟨h1 0 _ rfl, h1 1 _ rfl, h1 2 _ rfl, h1 3 _ rfl, h1 4 _ rfl, h1 5 _ rfl, h1 6 _ rfl, h1 7 _ rfl⟩
     have HS := Zhd hS; clear hS hb5 hb1
     have hmd := metadata_full ⟨id, ver, .slice ta tops.length tc, tops, .slice da data.length dc, data, .slice oa owned.length oc, owned, gen, rack, has⟩ w5.drew
      ⟨HME.out.tops.kept hk5w.drew (by simp), ⟨HME.out.data.1, HME.out.data.2.kept hk5w.drew (by simp)⟩, HME.out.owned.kept hk5w.drew (by simp) (by simp)⟩ HMK.out.tops HMK.out.data HMK.out.olen HMK.out.oparts
     simp only [memCells] at hmd
     have HMD := Zhd hmd; clear hmd
     have hmap5 : MapAt w5 isStr w.heap.size (rawMu MU) := HME2.out.map.kept hk5r (fun h => by simp only [Option.mem_toList] at h; have := HVB.out _ h; omega)
     have HMP := Zhd hmap5; clear hmap5
     have HO5 := Zhd (Zan hown5 (Zan hk5r (Zan hk5w (Zan hs5 hd5)))); clear hown5 hk5r hk5w hs5 hd5 hk5
     go_region_held3 (fun w' => w'.cell? ⟨wr.heap.size, 0, none⟩ = some (.string id) ∧ w'.cell? ⟨wr.heap.size, 1, none⟩ = some (.int .i16 ver) ∧ w'.cell? ⟨wr.heap.size, 2, none⟩ = some (.slice ta tops.length tc) ∧ w'.cell? ⟨wr.heap.size, 3, none⟩ = some (.slice da data.length dc) ∧
      w'.cell? ⟨wr.heap.size, 4, none⟩ = some (.slice oa owned.length oc) ∧ w'.cell? ⟨wr.heap.size, 5, none⟩ = some (.int .i32 gen) ∧ w'.cell? ⟨wr.heap.size, 6, none⟩ = some (.string rack) ∧ w'.cell? ⟨wr.heap.size, 7, none⟩ = some (.bool has))
      (first | with_reducible exact HS.out _ (Kept.refl _ _).drew | with_reducible exact HS.out _ hk6' | with_reducible exact HS.out _ hk7' | fail)
      (first
        | (go_at_call 45
           refine HMD.out.mono ?_
           rintro e w6 ⟨u, rfl, hmf, hk6⟩
           obtain ⟨F, hmeta, hmo⟩ := metaF_w hmf
           have hk6' : Kept [w.heap.size] w5 w6 := hk6.of_drew.mono (by simp))
        | (refine up_update (fun _ _ => rfl) (keyT_str Tryz.underlying9) Tryz.underlying74 (HMP.out.kept hk6.of_drew (by simp)) ⟨_, rfl⟩ ?_
           intro w7 hm7 hk7 hs7
           have hk7' : Kept [w.heap.size] w5 w7 := hk6'.trans hk7 (fun _ h => h) (fun _ h _ => h))
        | fail)
     obtain ⟨hown5, hk5r, hk5w, hs5, hd5⟩ := HO5.out
     have hs6 := hk6.size
     simp only [World.size_drew] at hs6
     have hkwv : Kept (w.heap.size :: (Value.slice va vn vc).ownBlock.toList) wr w7 := hk5r.trans hk7' (fun y hy => by simp [hy]) (fun y hy _ => by simp at hy; simp [hy])
     have hvo' : ∀ g', v'.ownBlock = some g' → w.heap.size < g' ∧ g' < w5.heap.size ∧ ∀ x ∈ MU, g' ∉ x.2.2 := by
      intro g' hg
      rcases hd5 with ⟨h1, h2⟩ | ⟨h1, h2⟩
      · rw [h1] at hg
        have := HVB.out g' hg
        exact ⟨this.1, by omega, this.2.2⟩
      · rw [h1] at hg
        simp only [Option.some.injEq] at hg
        refine ⟨by omega, by omega, fun x hx h => ?_⟩
        have := (HME2.out.each x hx).1.lt g' h
        omega
     have hmo6 : ∀ g ∈ F, w5.heap.size ≤ g ∧ g < w6.heap.size := fun g hg => ⟨by have := hmo g hg; simpa using this, hmeta.lt g hg⟩
     have hrow : MU.map (·.1) ++ [(⟨id, ver, .slice ta tops.length tc, tops, .slice da data.length dc, data, .slice oa owned.length oc, owned, gen, rack, has⟩ : Mem)] = Ms.take (k + 1) := by
      obtain ⟨hk', hx'⟩ := List.getElem?_eq_some_iff.1 HK.out
      rw [List.take_succ_eq_append_getElem hk', hx', HMU.out]
     have hMA : MetasW w7 w.heap.size (w.heap.size + 1) (MU ++ [(⟨id, ver, .slice ta tops.length tc, tops, .slice da data.length dc, data, .slice oa owned.length oc, owned, gen, rack, has⟩, u, F)]) := by
      refine ⟨?_, fun x hx => ?_⟩
      · rw [putE_miss HMI.out] at hm7
        simpa [rawMu] using hm7
      · rcases Zap.1 hx with hx | hx
        · refine ⟨(HME2.out.each x hx).1.kept hkwv (fun g' hg => ?_), (HME2.out.each x hx).2⟩
          have h1 := (HME2.out.each x hx).1.lt g' hg
          have h1' := (HME2.out.each x hx).2 g' hg
          simp only [Zmc, Option.mem_toList, not_or]
          exact ⟨by omega, fun h => (HVB.out g' h).2.2 x hx hg⟩
        · simp only [Zmc, Znn, or_false] at hx
          subst hx
          refine ⟨hmeta.kept hk7 (fun g' hg => ?_), fun g' hg => ?_⟩
          · have := hmo6 g' hg
            simp; omega
          · have := hmo6 g' hg
            omega
     have hown7 : w7.ownsRow 0 9 1 v' (k + 1) (strs (ids (Ms.take (k + 1)))) := by
      have h1 := own_kept hown5 hk7' (fun g' hg => by have := hvo' g' hg; simp; omega)
      have h2 : strs (ids (Ms.take (k + 1))) = strs (ids (Ms.take k)) ++ [.string id] := by
       rw [← hrow, HMU.out]; simp [strs, ids]
      rw [h2]; exact h1
     have hk7w : Kept [] w w7 := hk5w.trans hk7' (by simp) (by simp)
     have hkk : (k : Int) + 1 ≤ 2000 := by omega
     go_wp2_with fail
     go_roundw
     case rel =>
      refine ⟨k + 1, _, by omega, by go_num, ?_, hMA, hown7, hk7w, fun g' hg => ?_, by omega⟩
      · rw [← hrow]; simp
      · have h1 := hvo' g' hg
        refine ⟨h1.1, by omega, fun x hx h => ?_⟩
        rcases Zap.1 hx with hx | hx
        · exact h1.2.2 x hx h
        · simp only [Zmc, Znn, or_false] at hx
          subst hx
          have := hmo6 g' h
          omega
     case measure => simp [intOf]; omega
   · go_wp2_with fail
     go_meet
     have hkN : k = N := by omega
     subst hkN
     rw [List.take_of_length_le (by have := HMN.out; omega)] at hMU hown
     exact ⟨MU, hMU, hmet, hown, hkw, fun g hg => ⟨(hvo g hg).1, (hvo g hg).2.1⟩, hlo⟩
 case rest =>
  obtain ⟨MU, hMU, hmet, hown, hkw, hvo, hlo⟩ := hcut
  have hmt := HF.out.m
  have hnl := HF.out.n
  have hcf := HF.out.c
  have hS : ∀ w', Kept [] wc w' → w'.cell? ⟨b, 0, none⟩ = some (.int .i64 n) ∧ w'.cell? ⟨b + 2, 0, none⟩ = some tv := fun w' k' => ⟨(hkw.trans k' (U := []) (by simp) (by simp)).cell HC.out.1 (by simp), (hkw.trans k' (U := []) (by simp) (by simp)).cell HC.out.2.2 (by simp)⟩
  have hT : ∀ w', Kept [] wc w' → _ := fun w' k' => topicMap_any tv Ts w' (HT.out.kept (hkw.trans k' (U := []) (by simp) (by simp)) (by simp) (by simp)) (by omega) HTN.out.1 (fun x hx => by have := HTN.out.2 x hx; omega)
  have HS := Zhd hS; clear hS
  have HTT := Zhd hT; clear hT
  have HMU := Zhd hMU; clear hMU
  have HME := Zhd hmet; clear hmet
  have HOW := Zhd hown; clear hown
  have HKW := Zhd hkw; clear hkw
  have HVO := Zhd (Zan hvo hlo); clear hvo hlo
  go_upto_region 10 with fail
  go_cut [11, 12] (fun p e wx => ∃ pp P sp, p = .map (some pp) ∧ e = .nilIface ∧ PlanAt wx pp P ∧ PlanFresh sp wx pp P ∧ Good P ∧ Kept [] w wx ∧ wx.ownsRow 0 9 1 u6 N (strs (ids Ms)) ∧ (∀ g, u6.ownBlock = some g → w.heap.size < g ∧ g < sp) ∧ w.heap.size < sp)
  case first =>
   go_region_held3 (fun w' => w'.cell? ⟨b, 0, none⟩ = some (.int .i64 n) ∧ w'.cell? ⟨b + 2, 0, none⟩ = some tv)
    (first | with_reducible exact HS.out _ (Kept.refl _ _).drew | with_reducible exact HS.out _ ((Kept.refl _ _).alloc _).drew | with_reducible exact HS.out _ hk2' | with_reducible exact HS.out _ hk3' | fail)
    (first
      | (go_at_call 46
         refine (strategy_any n hn _).mono ?_
         rintro e w1 ⟨rfl, rfl⟩)
      | (go_at_call 47
         refine (HTT.out _ (((Kept.refl [] wc).drew).alloc _)).mono ?_
         rintro e w2 ⟨D, rfl, hD, hT2, hk2, hfr, hcap⟩
         have hk2' : Kept [] wc w2 := (((Kept.refl [] wc).drew).alloc _).trans hk2 (by simp) (by simp)
         have hT3 : TopsAt w2 (wc.heap.size + 1) D := by simpa using hT2
         have hfr3 : ∀ x ∈ D, ∀ g, x.2.1.ownBlock = some g → wc.heap.size + 1 < g ∧ g < w2.heap.size := by simpa using hfr
         have hsp : w2.heap[wc.heap.size]? = some (stratO n) := hk2.heap (heap_alloc_new wc.drew (stratO n)) (by simp)
         have hpl := HPL.out w2 w.heap.size (wc.heap.size + 1) wc.heap.size MU D (HKW.out.trans hk2' (by simp) (by simp)) HMU.out (HME.out.kept hk2' (by simp) (by simp)) hT3 hD (Nat.le_refl _) HVO.out.2 (by omega) hT3.map.lt (fun x hx g hg => (HME.out.each x hx).1.lt g hg) hfr3 hcap hsp
         have HPP := Zhd hpl; clear hpl hT2 hT3 hfr hfr3 hsp hD)
      | (refine HPP.out.mono ?_
         rintro e w3 ⟨p, P, rfl, hpa, hplt, hgo, hk3⟩
         have hk3' : Kept [] wc w3 := hk2'.trans hk3 (by simp) (fun x hx hl => by simp at hx; omega))
      | fail)
   all_goals
    go_wp2_with fail
    go_meet
    exact ⟨p, P, wc.heap.size, rfl, rfl, hpa, hplt, hgo, HKW.out.trans hk3' (by simp) (by simp), own_kept HOW.out hk3' (by simp), HVO.out.1, HVO.out.2⟩
  case rest =>
   obtain ⟨pp, P, sp, rfl, rfl, hpa, hpf, hgo, hkx, hown, hvo, hspw⟩ := hcut
   obtain ⟨d3, d4, f3, f4⟩ := HD.out
   have k3 := hkx.cell d3 (by simp)
   have k4 := hkx.cell d4 (by simp)
   have z3 := hkx.frz f3 (by simp; omega) (by simp)
   have z4 := hkx.frz f4 (by simp; omega) (by simp)
   have hkb : Kept [b + 4] wc (wc.setCell ⟨b + 4, 0, none⟩ (.bool true)) := (Kept.refl _ _).setCell _ (by simp)
   have hownb := own_kept hown hkb (fun g hg => by have := hvo g hg; simp; omega)
   obtain ⟨gn, cn, rfl, hgn, hsort⟩ := sort_names _ _ _ _ hownb hm1 hml
   have HSO := Zhd hsort; clear hsort
   have hgw := hvo gn rfl
   have hxs := hkx.size
   have hcb : (wc.setCell ⟨b + 4, 0, none⟩ (.bool true)).cell? ⟨b + 3, 0, none⟩ = some (.slice none 0 0) := by simp [go_sem, k3]
   have hcb4 : (wc.setCell ⟨b + 4, 0, none⟩ (.bool true)).cell? ⟨b + 4, 0, none⟩ = some (.bool true) := by simp [go_sem, k4]
   have hzb : (wc.setCell ⟨b + 4, 0, none⟩ (.bool true)).frozen? ⟨b + 3, 0, none⟩ = false := by simp [go_sem, z3]
   have hzb4 : (wc.setCell ⟨b + 4, 0, none⟩ (.bool true)).frozen? ⟨b + 4, 0, none⟩ = false := by simp [go_sem, z4]
   have HCB := Zhd (Zan hcb (Zan hcb4 (Zan hzb hzb4))); clear hcb hcb4 hzb hzb4
   have HPA := Zhd (Zan hpa hpf); clear hpa hpf
   have HGO := Zhd (HGD.out P hgo); clear hgo
   have HKX := Zhd hkx; clear hkx
   have HKB := Zhd hkb; clear hkb
   clear hown hownb hvo k3 z3
   go_upto_block 2 with (first | (go_at_call 48; refine HSO.out.mono ?_; rintro e wS ⟨rfl, hownS, hkS⟩) | fail)
   have hsz1 := hkS.size
   simp only [World.size_setCell] at hsz1
   have hpaS : PlanAt wS pp P := by
    have h1 := HPA.out.1.kept HPA.out.2 HKB.out (by simp; omega)
    exact h1.kept ⟨HPA.out.2.p, fun x hx => ⟨(HPA.out.2.each x hx).1, fun y hy g hg => by have := (HPA.out.2.each x hx).2 y hy g hg; simp only [World.size_setCell]; omega⟩⟩ hkS (by simp; omega)
   have hpfS : PlanFresh sp wS pp P := ⟨HPA.out.2.p, fun x hx => ⟨(HPA.out.2.each x hx).1, fun y hy g hg => by have := (HPA.out.2.each x hx).2 y hy g hg; omega⟩⟩
   have s3 := hkS.cell HCB.out.1 (by simp; omega)
   have s4 := hkS.cell HCB.out.2.1 (by simp; omega)
   have y3 := hkS.frz HCB.out.2.2.1 (by simp; omega) (by simp; omega)
   have y4 := hkS.frz HCB.out.2.2.2 (by simp; omega) (by simp; omega)
   have hkwS : Kept [b + 4] w wS := (HKX.out.trans HKB.out (U := [b + 4]) (by simp) (by simp)).trans hkS (by simp) (by simp; omega)
   have hslS := own_sl hownS (strs_one _)
   have HS1 := Zhd (Zan hpaS (Zan hpfS (Zan s3 (Zan s4 (Zan y3 (Zan y4 (Zan hkwS hslS))))))); clear hpaS hpfS s3 s4 y3 y4 hkwS hslS hkS hownS hsz1
   go_wp2_with fail
   go_loopw [60] (fun i wr => ∃ (k : Nat) (LL : List (List Shr)) (v : Value), k ≤ N ∧ i = .int .i64 k ∧ OutS P ((sortedNames (ids Ms)).take k) LL ∧ wr.cell? ⟨b + 3, 0, none⟩ = some v ∧ wr.frozen? ⟨b + 3, 0, none⟩ = false ∧ Kept [b + 3] wS wr ∧
    wr.ownsRow 0 33 3 v LL.flatten.length (LL.flatten.flatMap shrCells) ∧ (∀ x ∈ LL.flatten, SlInts wr x.val x.parts) ∧ (∀ x ∈ LL.flatten, ∀ g, x.val.ownBlock = some g → wS.heap.size ≤ g ∧ g < wr.heap.size ∧ v.ownBlock ≠ some g) ∧ (∀ g, v.ownBlock = some g → wS.heap.size ≤ g ∧ g < wr.heap.size) ∧ LL.flatten.length ≤ 12 * k) (fun i _ => N - (intOf i).toNat)
   case atStart => exact ⟨0, [], .slice none 0 0, Nat.zero_le _, rfl, ⟨by simp, by simp⟩, HS1.out.2.2.1, HS1.out.2.2.2.2.1, Kept.refl _ _, own_nil _ _, by simp, by simp, by simp [Value.ownBlock], by simp⟩
   case round =>
    obtain ⟨k, LL, v, hk, rfl, hout, c3, y3, hkr, hownv, hints, hdis, hvb, hlen⟩ := hrel
    obtain ⟨va, vn, vc, rfl⟩ := own_form hownv
    by_cases hkn : k < N
    · obtain ⟨hpaS, hpfS, _, _, _, _, hkwS, hslS⟩ := HS1.out
      have hlN : (sortedNames (ids Ms)).length = N := by rw [(sortedNames_perm _).length_eq]; unfold ids; rw [List.length_map]; exact HMN.out
      obtain ⟨nm, hnm⟩ : ∃ nm, (sortedNames (ids Ms))[k]? = some nm := ⟨_, List.getElem?_eq_getElem (by omega)⟩
      have hnmc : wS.cell? ⟨gn, k, none⟩ = some (.string nm) := by
       have h1 := hslS.cell (j := k) (u := .string nm) (by simp [strs, hnm])
       simpa using h1
      have cn1 := hkr.cell hnmc (by simp; omega)
      have hnmM : nm ∈ ids Ms := (sortedNames_perm _).mem_iff.1 (List.mem_of_getElem? hnm)
      obtain ⟨m, hmM, hmid⟩ := List.mem_map.1 hnmM
      obtain ⟨r, D, hPm, hD1, hDs⟩ := HGO.out.2 m hmM
      rw [hmid] at hPm
      have hpaR : PlanAt wr pp P := hpaS.kept hpfS hkr (by simp; omega)
      have hlk : ∀ w', MapAt w' isStr pp (rawP P) → (Instr.lookup 82 (.map (some pp)) (.string nm) false).run Tryz.prog w' = .ok (.map (some r)) w' := fun w' h' => by
       have h1 := map_lookup_hit (P := Tryz.prog) h' (keyT_str Tryz.underlying9) Tryz.underlying82 (k := .string nm) (v := .map (some r)) (List.mem_map.2 ⟨_, hPm, rfl⟩) false
       simpa using h1
      have hszr := hkr.size
      have hsh : ∀ w', Kept [] wr w' → _ := fun w' k' => shares_many nm r D w' ((hpaR.each _ hPm).kept k' (by simp) (by simp)) hD1 hDs (fun x hx g hg => by have := (hpfS.each _ hPm).2 x hx g hg; have := k'.size; omega)
      have HSH := Zhd hsh; clear hsh
      have hmapS : ∀ w', Kept [] wr w' → MapAt w' isStr pp (rawP P) := fun w' k' => hpaR.map.kept k' (by simp)
      have HMS := Zhd hmapS; clear hmapS
      have HNM := Zhd hnm; clear hnm
      have HPM := Zhd hPm; clear hPm
      have hl := own_len hownv
      rw [← hl] at hownv hlen
      have HLV := Zhd hl; clear hl
      have HOV := Zhd hownv; clear hownv
      have HIN := Zhd (Zan hints (Zan hdis hvb)); clear hints hdis hvb
      have HOUT := Zhd hout; clear hout
      have HLN := Zhd hlN; clear hlN
      have hwS := hkwS.size
      have hbnd : b + 3 < wS.heap.size := by omega
      have hno : b + 3 ∉ (Value.slice va vn vc).ownBlock.toList := fun h => by simp only [Option.mem_toList] at h; have := HIN.out.2.2 _ h; omega
      have hnp : ∀ g, sp ≤ g → g < wS.heap.size → g ∉ (Value.slice va vn vc).ownBlock.toList := fun g h1 h2 h => by simp only [Option.mem_toList] at h; have := HIN.out.2.2 _ h; omega
      have hppS := hpaS.map.lt
      have hppB := hpfS.p
      have HNO := Zhd (Zan hno hnp); clear hno hnp
      clear hpaS hpfS hkwS hslS hnmc hnmM hmid hmM hpaR hDs
      go_wp2_with fail
      have hm0 : MapAt wr.drew isStr pp (rawP P) := HMS.out _ (Kept.refl _ _).drew
      go_region_law
       (first
         | (go_simp
            go_at_call 49
            refine (HSH.out _ (Kept.refl _ _).drew).mono ?_
            rintro e w1 ⟨a2, c2, L2, rfl, hsh1, hpm, hso2, hk1, hf1, hf2⟩
            have hk1' : Kept [] wr w1 := hk1.of_drew
            have c31 := hk1'.cell c3 (by simp)
            have y31 := hk1'.frz y3 (by simp; omega) (by simp)
            have hL2 : L2.length ≤ 12 := by have h1 := hpm.length_eq; have h2 := List.length_filter_le full D; simp only [List.length_map] at h1; omega
            have hsrc := hsh1.cells.src Tryz.underlying23
            have HSR := Zhd hsrc; clear hsrc
            go_wp2_with fail)
         | (refine sl_app (v := .slice va vn vc) rfl rfl elSh rfl rfl (own_kept HOV.out hk1' (by simp)) HSR.out (by omega) (by omega) ?_
            intro v' w2 hown2 hk2 hd2
            obtain ⟨va', vn', vc', rfl⟩ := own_form hown2
            have c32 := hk2.cell c31 HNO.out.1
            have y32 := hk2.frz y31 (by have := hk1'.size; simp; omega) HNO.out.1)
         | fail)
      all_goals
       have hs1 := hk1'.size
       have hs2 := hk2.size
       have hkv : Kept (Value.slice va vn vc).ownBlock.toList wr w2 := hk1'.trans hk2 (by simp) (fun y hy _ => hy)
       have hvo := HIN.out.2.2
       have hv'o : ∀ g, (Value.slice va' vn' vc').ownBlock = some g → wS.heap.size ≤ g ∧ g < w2.heap.size ∧ ((Value.slice va vn vc).ownBlock = some g ∨ g = w1.heap.size) := by
        intro g hg
        rcases hd2 with ⟨h1, h2⟩ | ⟨h1, h2⟩
        · rw [h1] at hg
          have := hvo g hg
          exact ⟨this.1, by omega, .inl hg⟩
        · rw [h1] at hg
          simp only [Option.some.injEq] at hg
          exact ⟨by omega, by omega, .inr hg.symm⟩
       have hk3 : Kept [b + 3] w2 (w2.setCell ⟨b + 3, 0, none⟩ (.slice va' vn' vc')) := (Kept.refl _ _).setCell _ (by simp)
       have hend : ∃ (LL' : List (List Shr)), OutS P ((sortedNames (ids Ms)).take (k + 1)) LL' ∧ (w2.setCell ⟨b + 3, 0, none⟩ (.slice va' vn' vc')).ownsRow 0 33 3 (.slice va' vn' vc') LL'.flatten.length (LL'.flatten.flatMap shrCells) ∧
        (∀ x ∈ LL'.flatten, SlInts (w2.setCell ⟨b + 3, 0, none⟩ (.slice va' vn' vc')) x.val x.parts) ∧ (∀ x ∈ LL'.flatten, ∀ g, x.val.ownBlock = some g → wS.heap.size ≤ g ∧ g < w2.heap.size ∧ (Value.slice va' vn' vc').ownBlock ≠ some g) ∧ LL'.flatten.length ≤ 12 * (k + 1) := by
        have hfl : (LL ++ [L2]).flatten = LL.flatten ++ L2 := by simp
        refine ⟨LL ++ [L2], ?_, ?_, ?_, ?_, ?_⟩
        · obtain ⟨hk', hx'⟩ := List.getElem?_eq_some_iff.1 HNM.out
          rw [List.take_succ_eq_append_getElem hk', hx']
          exact HOUT.out.snoc HPM.out hpm hso2
        · have h1 := own_kept hown2 hk3 (fun g hg => by have := hv'o g hg; simp; omega)
          rw [hfl, List.length_append, List.flatMap_append, ← HLV.out]
          exact h1
        · intro x hx
          rw [hfl] at hx
          rcases Zap.1 hx with hx | hx
          · have h1 := HIN.out.2.1 x hx
            refine ((HIN.out.1 x hx).kept hkv (fun g hg h => ?_)).kept hk3 (fun g hg => ?_)
            · simp only [Option.mem_toList] at h; exact (h1 g hg).2.2 h
            · have := h1 g hg; simp; omega
          · refine ((hsh1.parts x hx).kept hk2 (fun g hg h => ?_)).kept hk3 (fun g hg => ?_)
            · simp only [Option.mem_toList] at h
              have h1 := hf2 x hx g hg
              have h2 := hvo g h
              simp only [World.size_drew] at h1
              omega
            · have h1 := hf2 x hx g hg
              simp only [World.size_drew] at h1
              simp; omega
        · intro x hx g hg
          rw [hfl] at hx
          rcases Zap.1 hx with hx | hx
          · have h1 := HIN.out.2.1 x hx g hg
            refine ⟨h1.1, by omega, fun h => ?_⟩
            rcases (hv'o g h).2.2 with h2 | h2
            · exact h1.2.2 h2
            · omega
          · have h1 := hf2 x hx g hg
            simp only [World.size_drew] at h1
            refine ⟨by omega, by omega, fun h => ?_⟩
            rcases (hv'o g h).2.2 with h2 | h2
            · have := hvo g h2; omega
            · omega
        · rw [hfl, List.length_append, ← HLV.out]; omega
       obtain ⟨LL', e1, e2, e3, e4, e5⟩ := hend
       have hcell3 : (w2.setCell ⟨b + 3, 0, none⟩ (.slice va' vn' vc')).cell? ⟨b + 3, 0, none⟩ = some (.slice va' vn' vc') := by simp [go_sem, c32]
       have hfz3 : (w2.setCell ⟨b + 3, 0, none⟩ (.slice va' vn' vc')).frozen? ⟨b + 3, 0, none⟩ = false := by simp [go_sem, y32]
       have hkS3 : Kept [b + 3] wS (w2.setCell ⟨b + 3, 0, none⟩ (.slice va' vn' vc')) := (hkr.trans hkv (U := [b + 3]) (by simp) (fun y hy hl => by simp only [Option.mem_toList] at hy; have := hvo y hy; omega)).trans hk3 (by simp) (by simp)
       have HE := Zhd (Zan e1 (Zan e2 (Zan e3 (Zan e4 (Zan e5 (Zan hcell3 (Zan hfz3 hkS3))))))); clear e1 e2 e3 e4 e5 hcell3 hfz3 hkS3
       go_wp2_with fail
       go_roundw
       case rel =>
        obtain ⟨e1, e2, e3, e4, e5, e6, e7, e8⟩ := HE.out
        exact ⟨k + 1, LL', _, by omega, by go_num, e1, e6, e7, e8, e2, e3, fun x hx g hg => by have := e4 x hx g hg; exact ⟨this.1, by simp; omega, this.2.2⟩, fun g hg => by have := hv'o g hg; exact ⟨this.1, by simp; omega⟩, e5⟩
       case measure => simp [intOf]; omega
    · obtain ⟨hpaS, hpfS, s3, s4, y3', y4, hkwS, hslS⟩ := HS1.out
      have hkN : k = N := by omega
      subst hkN
      have hlN : (sortedNames (ids Ms)).length = k := by rw [(sortedNames_perm _).length_eq]; unfold ids; rw [List.length_map]; exact HMN.out
      rw [List.take_of_length_le (by omega)] at hout
      have hl := own_len hownv
      have hwS := hkwS.size
      have hfin : GroupResS w.heap.size b Good (sortedNames (ids Ms)) wr := by
       refine ⟨P, LL, va, vc, HGO.out.1, hout, by rw [← hl]; exact c3, ?_, hkr.cell s4 (by simp), y3, hkr.frz y4 (by simp; omega) (by simp), fun g hg => ?_, fun x hx g hg => ?_⟩
       · rw [← hl]
         refine ⟨⟨va, vc, by rw [hl]⟩, ?_, hints⟩
         have := own_sl hownv (shrCells_one hints)
         exact this
       · rw [← hl] at hg
         have := hvb g hg; omega
       · have := hdis x hx g hg; omega
      have hkfin : Kept [b + 3, b + 4] w wr := hkwS.trans hkr (by simp) (by simp)
      have HFIN := Zhd (Zan hfin hkfin); clear hfin hkfin
      clear hout hownv hints hdis hvb hl hlN hpaS hpfS s3 s4 y3' y4 hkwS hslS
      go_wp2_with fail
      go_end0
      exact ⟨rfl, HFIN.out.1, HFIN.out.2⟩
theorem groupPlan_w (n : Nat) (hn : n < 4) (f : FuncId) (hf : IsMeth (stratT n) "Plan" f) (am : Option Addr) (cm : Nat) (Ms : List Mem) (at' : Option Addr) (ct : Nat) (Ts : List Shr) (Good : PL → Prop) (w : World)
 (hm : MemsAt w (.slice am Ms.length cm) Ms) (hok : ∀ m ∈ Ms, MemOkW m) (hnd : (ids Ms).Nodup) (hml : Ms.length ≤ 1000) (hm1 : 1 ≤ Ms.length)
 (ht : ShrsAt w (.slice at' Ts.length ct) Ts) (htl : Ts.length ≤ 1000) (htnd : (Ts.map (·.top)).Nodup) (htsz : ∀ x ∈ Ts, x.parts.length ≤ 1000)
 (hplan : ∀ w', Kept [] w w' → PlanW n f w' Ms Ts Good) (hgood : ∀ P, Good P → ∀ m ∈ Ms, ∃ r D, (m.id, r, D) ∈ P ∧ D.length ≤ 12 ∧ ∀ x ∈ D, x.2.2.length ≤ 1000000) :
 Calls Tryz.prog 18 #[.int .i64 n, .slice am Ms.length cm, .slice at' Ts.length ct] w fun e w' =>
  ∃ P LL a c, e = .returned (.tuple #[.slice a LL.flatten.length c, .bool true]) ∧ Good P ∧ OutS P (sortedNames (ids Ms)) LL ∧ ShrsAt w' (.slice a LL.flatten.length c) LL.flatten ∧
   (∀ g, (Value.slice a LL.flatten.length c).ownBlock = some g → w.heap.size ≤ g) ∧ (∀ x ∈ LL.flatten, ∀ g, x.val.ownBlock = some g → w.heap.size ≤ g) ∧ Kept [] w w' := by
 have hclo : ∀ w0 : World, w0 = (((((w.alloc (.cells #[.int .i64 n] 3)).alloc (.cells #[.slice am Ms.length cm] 22)).alloc (.cells #[.slice at' Ts.length ct] 23)).alloc (.cells #[.slice none 0 0] 23)).alloc (.cells #[.bool false] 4)) →
  Kept [] w w0 ∧ w0.heap.size = w.heap.size + 5 ∧ _ := fun w0 e => ⟨by subst e; exact (((((Kept.refl [] w).alloc _).alloc _).alloc _).alloc _).alloc _, by subst e; simp,
  safe_any 44 #[.pointer (some ⟨w.heap.size + 1, 0, none⟩), .pointer (some ⟨w.heap.size, 0, none⟩), .pointer (some ⟨w.heap.size + 2, 0, none⟩), .pointer (some ⟨w.heap.size + 4, 0, none⟩), .pointer (some ⟨w.heap.size + 3, 0, none⟩)] w0
   (fun w' => GroupResS (w.heap.size + 6) w.heap.size Good (sortedNames (ids Ms)) w') [w.heap.size + 3, w.heap.size + 4] hasBody44 (by subst e; simp) (by
     have k0 : Kept [] w (w0.alloc (.cells #[.bool false] 4)) := by subst e; exact ((((((Kept.refl [] w).alloc _).alloc _).alloc _).alloc _).alloc _).alloc _
     have hz : (w0.alloc (.cells #[.bool false] 4)).heap.size = w.heap.size + 6 := by subst e; simp
     have h1 := plan_closureW n hn f hf w.heap.size am cm Ms (.slice at' Ts.length ct) Ts Good (w0.alloc (.cells #[.bool false] 4)) (hm.kept0 k0) hok hnd hml hm1 (ht.kept k0 (by simp) (by simp)) htl htnd htsz (hplan _ k0) hgood
      (by subst e; simp [go_sem]) (by subst e; simp [go_sem]) (by subst e; simp)
     rw [hz] at h1
     exact h1)⟩
 obtain ⟨hk0, hs0, hsafe⟩ := hclo _ rfl
 have HSF := Zhd hsafe; clear hsafe hclo
 clear hm ht hplan hgood hok hnd htnd htsz
 go_enter Tryz.func18, Tryz.ntmps18
 go_wp2_with
  (go_at_call 43
   refine (HSF.out).mono ?_
   rintro e w2 ⟨rfl, w1, ⟨P, LL, a, c, hg, hout, c3, hsh, c4, f3, f4, ho1, ho2⟩, hk1, hk2⟩
   have hs1 := hk1.size
   rw [hs0] at hk2 hs1
   have d3 : w2.cell? ⟨w.heap.size + 1 + 1 + 1, 0, none⟩ = some (.slice a LL.flatten.length c) := hk2.cell c3 (by simp)
   have d4 : w2.cell? ⟨w.heap.size + 1 + 1 + 1 + 1, 0, none⟩ = some (.bool true) := hk2.cell c4 (by simp)
   have e3 : w2.frozen? ⟨w.heap.size + 1 + 1 + 1, 0, none⟩ = false := hk2.frz f3 (by simp; omega) (by simp)
   have e4 : w2.frozen? ⟨w.heap.size + 1 + 1 + 1 + 1, 0, none⟩ = false := hk2.frz f4 (by simp; omega) (by simp)
   have hsh2 := hsh.kept hk2 (fun g hg => by have := ho1 g hg; simp; omega) (fun x hx g hg => by have := ho2 x hx g hg; simp; omega)
   generalize hvl : LL.flatten.length = vl at *
   have HV := Zhd hvl; clear hvl
   have HRES := Zhd (Zan hout (Zan hsh2 (Zan ho1 ho2))); clear hout hsh hsh2 ho1 ho2
   clear c3 c4 f3 f4)
 have k12 : Kept [] w w2 := (hk0.trans hk1 (U := []) (by simp) (by simp <;> omega)).trans hk2 (by simp) (by simp <;> omega)
 have k3 : Kept [w.heap.size + 3, w.heap.size + 4] w2 ((w2.setCell ⟨w.heap.size + 1 + 1 + 1, 0, none⟩ (.slice a vl c)).setCell ⟨w.heap.size + 1 + 1 + 1 + 1, 0, none⟩ (.bool true)) :=
  ((Kept.refl _ _).setCell _ (by simp)).setCell _ (by simp)
 have hend2 := k12.trans k3 (U := []) (by simp) (by simp <;> omega)
 obtain ⟨hout, hsh2, ho1, ho2⟩ := HRES.out
 have hend := hsh2.kept k3 (fun g hg => by have := ho1 g hg; simp; omega) (fun x hx g hg => by have := ho2 x hx g hg; simp; omega)
 have hv := HV.out
 have hfin : ∃ P LL a' c', Ending.returned (.tuple #[.slice a vl c, .bool true]) = .returned (.tuple #[.slice a' (List.flatten LL).length c', .bool true]) ∧ Good P ∧ OutS P (sortedNames (ids Ms)) LL ∧ ShrsAt ((w2.setCell ⟨w.heap.size + 1 + 1 + 1, 0, none⟩ (.slice a vl c)).setCell ⟨w.heap.size + 1 + 1 + 1 + 1, 0, none⟩ (.bool true)) (.slice a' (List.flatten LL).length c') LL.flatten ∧
  (∀ g, (Value.slice a' LL.flatten.length c').ownBlock = some g → w.heap.size ≤ g) ∧ (∀ x ∈ LL.flatten, ∀ g, x.val.ownBlock = some g → w.heap.size ≤ g) ∧ Kept [] w ((w2.setCell ⟨w.heap.size + 1 + 1 + 1, 0, none⟩ (.slice a vl c)).setCell ⟨w.heap.size + 1 + 1 + 1 + 1, 0, none⟩ (.bool true)) :=
  ⟨P, LL, a, c, by rw [hv], hg, hout, by rw [hv]; exact hend, by rw [hv]; exact fun g hg => by have := ho1 g hg; omega, fun x hx g hg => by have := ho2 x hx g hg; omega, hend2⟩
 refine bodyPost_ret (v := .tuple #[.slice a vl c, .bool true]) ?_ rfl hfin
 simp [results, Tryz.results18, go_sem, d3, d4]
end
end Go.Proofs.YticcnlpfmekagaaGreat
