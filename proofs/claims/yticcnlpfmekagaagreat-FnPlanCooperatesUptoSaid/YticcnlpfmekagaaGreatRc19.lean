/- Part 19 of the proof of the row: Group. -/
import Derived.Test.YticcnlpfmekagaaGreatRc00
import Derived.Test.YticcnlpfmekagaaGreatRc18
import Derived.Deep.RegionLaw
set_option linter.unusedVariables false
set_option linter.unusedSimpArgs false
set_option maxRecDepth 100000
set_option maxHeartbeats 8000000
namespace Go.Proofs.YticcnlpfmekagaaGreat
section
open Go Go.Proofs Go.RowKit
def metaOwn : Value → List Nat
 | .agg a => (a.getD 1 undef).ownBlock.toList ++ (a.getD 2 undef).ownBlock.toList
 | _ => []
def rawM (MU : List (Mem × Value)) : List (Value × Value) := MU.map fun x => (.string x.1.id, x.2)
structure MetasAt (w : World) (rm lo : Nat) (MU : List (Mem × Value)) : Prop where
 map : MapAt w isStr rm (rawM MU)
 each : ∀ x ∈ MU, MetaAt w lo x.1 x.2
theorem MetaAt.own {w : World} {lo : Nat} {m : Mem} {u : Value} (h : MetaAt w lo m u) : ∀ g ∈ metaOwn u, lo ≤ g ∧ g < w.heap.size := by
 obtain ⟨tv, dv, rk, rfl, hr, h1, h2, h3, h4⟩ := h
 intro g hg
 simp [metaOwn] at hg
 rcases hg with hg | hg
 · exact h3 g hg
 · exact h4 g hg
theorem MetaAt.kept {w w' : World} {lo : Nat} {m : Mem} {u : Value} {S : List Nat} (h : MetaAt w lo m u) (k : Kept S w w') (hs : ∀ g ∈ metaOwn u, g ∉ S) : MetaAt w' lo m u := by
 obtain ⟨tv, dv, rk, rfl, hr, h1, h2, h3, h4⟩ := h
 have hz := k.size
 refine ⟨tv, dv, rk, rfl, hr, h1.kept k (fun g hg => hs g (by simp [metaOwn, hg])), h2.kept k (fun g hg => hs g (by simp [metaOwn, hg])), fun g hg => ?_, fun g hg => ?_⟩
 · have := h3 g hg; omega
 · have := h4 g hg; omega
theorem MetaAt.mono {w : World} {lo lo' : Nat} {m : Mem} {u : Value} (h : MetaAt w lo m u) (hl : lo' ≤ lo) : MetaAt w lo' m u := by
 obtain ⟨tv, dv, rk, rfl, hr, h1, h2, h3, h4⟩ := h
 exact ⟨tv, dv, rk, rfl, hr, h1, h2, fun g hg => by have := h3 g hg; omega, fun g hg => by have := h4 g hg; omega⟩
theorem MetasAt.kept {w w' : World} {rm lo : Nat} {MU : List (Mem × Value)} {S : List Nat} (h : MetasAt w rm lo MU) (k : Kept S w w') (hr : rm ∉ S) (hs : ∀ x ∈ MU, ∀ g ∈ metaOwn x.2, g ∉ S) : MetasAt w' rm lo MU :=
 ⟨h.map.kept k hr, fun x hx => (h.each x hx).kept k (hs x hx)⟩
theorem mem_get {L : List Mem} {k : Nat} {x : Mem} (h : L[k]? = some x) : ∀ j, j < 8 → (L.flatMap memCells)[k * 8 + j]? = (memCells x)[j]? := by
 induction L generalizing k with
 | nil => simp at h
 | cons y L ih =>
   intro j hj
   have hl : (memCells y).length = 8 := rfl
   cases k with
   | zero =>
     simp at h; subst h
     rw [List.flatMap_cons, List.getElem?_append_left (by omega)]; simp
   | succ k =>
     simp at h
     rw [List.flatMap_cons, List.getElem?_append_right (by omega)]
     have := ih h j hj
     rw [← this]; congr 1; omega
def ids (L : List Mem) : List ByteArray := L.map (·.id)
structure MemOk (m : Mem) : Prop where
 owned : m.owned = []
 has : m.has = false
 tops : m.tops.length ≤ 1000000
 data : m.data.length ≤ 1000000
abbrev PL := List (ByteArray × Nat × Tops)
def rawP (L : PL) : List (Value × Value) := L.map fun x => (.string x.1, .map (some x.2.1))
structure PlanAt (w : World) (p : Nat) (L : PL) : Prop where
 map : MapAt w isStr p (rawP L)
 each : ∀ x ∈ L, TopsAt w x.2.1 x.2.2
structure PlanFresh (B : Nat) (w : World) (p : Nat) (L : PL) : Prop where
 p : B ≤ p
 each : ∀ x ∈ L, B ≤ x.2.1 ∧ ∀ y ∈ x.2.2, ∀ g, y.2.1.ownBlock = some g → B ≤ g ∧ g < w.heap.size
theorem PlanAt.kept {w w' : World} {p B : Nat} {L : PL} {S : List Nat} (h : PlanAt w p L) (hf : PlanFresh B w p L) (k : Kept S w w') (hs : ∀ x ∈ S, x < B) : PlanAt w' p L :=
 ⟨h.map.kept k (fun hx => by have := hs _ hx; have := hf.p; omega), fun x hx => (h.each x hx).kept k (fun hx' => by have := hs _ hx'; have := (hf.each x hx).1; omega) (fun y hy g hg hx' => by have := hs _ hx'; have := (hf.each x hx).2 y hy g hg; omega)⟩
def OutOf (P : PL) (names : List ByteArray) (LL : List (List Shr)) : Prop :=
 LL.length = names.length ∧ ∀ (j : Nat) nm l, names[j]? = some nm → LL[j]? = some l → ∃ r D, (nm, r, D) ∈ P ∧ (l.map trip).Perm ((D.filter full).map (tripOf nm))
def GroupRes (B b : Nat) (Good : PL → Prop) (names : List ByteArray) (w : World) : Prop :=
 ∃ P LL a c, Good P ∧ OutOf P names LL ∧ w.cell? ⟨b + 3, 0, none⟩ = some (.slice a LL.flatten.length c) ∧ ShrsAt w (.slice a LL.flatten.length c) LL.flatten ∧ w.cell? ⟨b + 4, 0, none⟩ = some (.bool true) ∧
  w.frozen? ⟨b + 3, 0, none⟩ = false ∧ w.frozen? ⟨b + 4, 0, none⟩ = false ∧ (∀ g, (Value.slice a LL.flatten.length c).ownBlock = some g → B ≤ g) ∧ (∀ x ∈ LL.flatten, ∀ g, x.val.ownBlock = some g → B ≤ g)
theorem OutOf.snoc {P : PL} {names : List ByteArray} {LL : List (List Shr)} (h : OutOf P names LL) {nm : ByteArray} {r : Nat} {D : Tops} {l : List Shr} (h1 : (nm, r, D) ∈ P) (h2 : (l.map trip).Perm ((D.filter full).map (tripOf nm))) : OutOf P (names ++ [nm]) (LL ++ [l]) := by
 refine ⟨by simp [h.1], fun j nm' l' hj hl => ?_⟩
 by_cases hjn : j < names.length
 · rw [List.getElem?_append_left hjn] at hj
   rw [List.getElem?_append_left (by rw [h.1]; exact hjn)] at hl
   exact h.2 j nm' l' hj hl
 · have hlt : j < (names ++ [nm]).length := (List.getElem?_eq_some_iff.1 hj).1
   simp only [List.length_append, List.length_cons, List.length_nil] at hlt
   obtain rfl : j = names.length := by omega
   rw [List.getElem?_append_right (Nat.le_refl _)] at hj
   rw [List.getElem?_append_right (by rw [h.1]; exact Nat.le_refl _), h.1] at hl
   simp at hj hl
   subst hj hl
   exact ⟨r, D, h1, h2⟩
theorem zero78 : ∀ w, (zeroValue 78).run Tryz.prog w = .ok (.agg #[.int .i16 0, .slice none 0 0, .slice none 0 0, .slice none 0 0, .int .i32 0, .pointer none]) w := by
 intro w; exact Tryz.zeroValue78 w
def PlanC (n : Nat) (f : FuncId) (w : World) (Ms : List Mem) (Ts : List Shr) (Good : PL → Prop) : Prop :=
 ∀ (w1 : World) (rm rt sp : Nat) (MU : List (Mem × Value)) (D : Tops), Kept [] w w1 → MU.map (·.1) = Ms → MetasAt w1 rm (rm + 1) MU → TopsAt w1 rt D → tops2 D = Ts.map topOf →
  w.heap.size ≤ rm → rm < sp → sp < rt → rt < w1.heap.size → (∀ x ∈ MU, ∀ g ∈ metaOwn x.2, g < sp) → (∀ x ∈ D, ∀ g, x.2.1.ownBlock = some g → rt < g ∧ g < w1.heap.size) → (∀ x ∈ D, CapOk x) → w1.heap[sp]? = some (stratO n) →
  Calls Tryz.prog f #[.pointer (some ⟨sp, 0, none⟩), .map (some rm), .map (some rt)] w1 fun e w' => ∃ p P, e = .returned (.tuple #[.map (some p), .nilIface]) ∧ PlanAt w' p P ∧ PlanFresh sp w' p P ∧ Good P ∧ Kept [sp] w1 w'
theorem own_len {w : World} {E sz : Nat} {a : Option Addr} {n m c : Nat} {cs : List Value} (h : w.ownsRow 0 E sz (.slice a n c) m cs) : n = m := by
 rcases h.2 with ⟨h1, h2⟩ | ⟨g, cap, cur, h1, _⟩
 · cases h1; exact h2.symm
 · cases h1; rfl
theorem strs_one (l : List ByteArray) : ∀ u ∈ strs l, u.oneCell' = true := by intro u hu; obtain ⟨x, _, rfl⟩ := List.mem_map.1 hu; rfl
theorem new_sl1 (w : World) (E : TypeId) (a : Value) (h : a.oneCell' = true) : SlAt (w.alloc (.cells #[a] E)) 1 (.slice (some ⟨w.heap.size, 0, none⟩) 1 1) 1 [a] := by
 refine ⟨by simp, fun u hu => by simp at hu; subst hu; exact h, .inr ⟨_, 0, 1, rfl, fun j u hj => ?_⟩⟩
 have hh := heap_alloc_new w (.cells #[a] E)
 rw [Nat.zero_add]
 exact (cells_of hh).1 j u (by simpa using hj)
theorem build_str (x : ByteArray) (w : World) : (Instr.buildSlice 27 1 #[(0, .string x)]).run Tryz.prog w = .ok (.slice (some ⟨w.heap.size, 0, none⟩) 1 1) (w.alloc (.cells #[.string x] 9)) := by
 simp [Instr.buildSlice, go_sem]
theorem wl_build1 {P : Program} {ops : Array Oper} {o : Oper} {a : Act} {w w' : World} {rest : List Oper} {Q : Exit → Act → World → Prop} {T n : Nat} {y : Operand} {x v : Value} (hgd : o.guard = none) (hop : o.op = .buildSlice T n #[(0, y)]) (hx : a.eval y = x)
 (hrun : (Instr.buildSlice T n #[(0, x)]).run P w = .ok v w') (h : wpList P ops Q rest (a.put o.dst v) w') : wpList P ops Q (o :: rest) a w := by
 refine wl_val (v := v) (w' := w') hgd ?_ h
 unfold execOp
 simp only [hop, List.map_toArray, List.map_cons, List.map_nil, hx, Sem.run_bind, hrun, Result.andThen_ok]; rfl
theorem plan_closure (n : Nat) (hn : n < 4) (f : FuncId) (hf : IsMeth (stratT n) "Plan" f) (b : Nat) (am : Option Addr) (cm : Nat) (Ms : List Mem) (tv : Value) (Ts : List Shr) (Good : PL → Prop) (w : World)
 (hm : MemsAt w (.slice am Ms.length cm) Ms) (hok : ∀ m ∈ Ms, MemOk m) (hnd : (ids Ms).Nodup) (hml : Ms.length ≤ 1000) (hm1 : 1 ≤ Ms.length)
 (ht : ShrsAt w tv Ts) (htl : Ts.length ≤ 1000) (htnd : (Ts.map (·.top)).Nodup) (htsz : ∀ x ∈ Ts, x.parts.length ≤ 1000)
 (hplan : PlanC n f w Ms Ts Good) (hgood : ∀ P, Good P → ∀ m ∈ Ms, ∃ r D, (m.id, r, D) ∈ P ∧ D.length ≤ 1 ∧ ∀ x ∈ D, x.2.2.length ≤ 1000000)
 (hc : w.cell? ⟨b, 0, none⟩ = some (.int .i64 n) ∧ w.cell? ⟨b + 1, 0, none⟩ = some (.slice am Ms.length cm) ∧ w.cell? ⟨b + 2, 0, none⟩ = some tv)
 (hd : w.cell? ⟨b + 3, 0, none⟩ = some (.slice none 0 0) ∧ w.cell? ⟨b + 4, 0, none⟩ = some (.bool false) ∧ w.frozen? ⟨b + 3, 0, none⟩ = false ∧ w.frozen? ⟨b + 4, 0, none⟩ = false) (hlt : b + 4 < w.heap.size) :
 Calls Tryz.prog 44 #[.pointer (some ⟨b + 1, 0, none⟩), .pointer (some ⟨b, 0, none⟩), .pointer (some ⟨b + 2, 0, none⟩), .pointer (some ⟨b + 4, 0, none⟩), .pointer (some ⟨b + 3, 0, none⟩)] w fun e w' =>
  e = .returned (.tuple #[]) ∧ GroupRes w.heap.size b Good (sortedNames (ids Ms)) w' ∧ Kept [b + 3, b + 4] w w' := by
 have hgood' : ∀ P, Good P → (Good P ∧ ∀ m ∈ Ms, ∃ r D, (m.id, r, D) ∈ P ∧ D.length ≤ 1 ∧ ∀ x ∈ D, x.2.2.length ≤ 1000000) := fun P h => ⟨h, hgood P h⟩
 have hmm := @run_makeMap Tryz.prog
 have hcm := hc.2.1
 have HC := Zhd hc; clear hc
 have HD := Zhd hd; clear hd
 have HM := Zhd hm; clear hm
 have HT := Zhd ht; clear ht
 have HOK := Zhd hok; clear hok
 have HND := Zhd hnd; clear hnd
 have HTN := Zhd (Zan htnd htsz); clear htnd htsz
 have HPL := Zhd hplan; clear hplan
 have HGD := Zhd hgood'; clear hgood hgood'
 have HF := Zhd hf; clear hf
 generalize hMn : Ms.length = N at *
 have HMN := Zhd hMn; clear hMn
 have hcm0 : (w.alloc (.map #[] 0)).cell? ⟨b + 1, 0, none⟩ = some (.slice am N cm) := ca hcm
 clear hcm
 go_enter Tryz.func44, Tryz.ntmps44
 go_upto_block 0 with fail
 go_cut [6] (fun v wx => ∃ MU, MU.map (·.1) = Ms ∧ MetasAt wx w.heap.size (w.heap.size + 1) MU ∧ wx.ownsRow 0 9 1 v N (strs (ids Ms)) ∧ Kept [] w wx ∧
  (∀ g, v.ownBlock = some g → w.heap.size < g ∧ g < wx.heap.size) ∧ w.heap.size < wx.heap.size)
 case first =>
  go_wp2_with fail
  go_loopw [6, 18] (fun v i wr => ∃ (k : Nat) (MU : List (Mem × Value)), k ≤ N ∧ i = .int .i64 k ∧ MU.map (·.1) = Ms.take k ∧ MetasAt wr w.heap.size (w.heap.size + 1) MU ∧ wr.ownsRow 0 9 1 v k (strs (ids (Ms.take k))) ∧ Kept [] w wr ∧
   (∀ g, v.ownBlock = some g → w.heap.size < g ∧ g < wr.heap.size ∧ ∀ x ∈ MU, g ∉ metaOwn x.2) ∧ w.heap.size < wr.heap.size) (fun _ i _ => N - (intOf i).toNat)
  case atStart => exact ⟨0, [], Nat.zero_le _, rfl, rfl, ⟨MapAt.new w isStr, by simp⟩, own_nil _ _, (Kept.refl _ _).alloc _, by simp [Value.ownBlock], by simp⟩
  case round =>
   obtain ⟨k, MU, hk, rfl, hMU, hmet, hown, hkw, hvo, hlo⟩ := hrel
   obtain ⟨va, vn, vc, rfl⟩ := own_form hown
   by_cases hkn : k < N
   · obtain ⟨m, hkm⟩ : ∃ m, Ms[k]? = some m := ⟨_, List.getElem?_eq_getElem (by have := HMN.out; omega)⟩
     have hmM : m ∈ Ms := List.mem_of_getElem? hkm
     have hmok := HOK.out m hmM
     have hme := HM.out.each m hmM
     have hgc := mem_get hkm
     have hcells := HM.out.cells
     rw [HMN.out] at hcells
     obtain ⟨_, hcase⟩ := hcells.cases
     rcases hcase with ⟨_, h0, _⟩ | ⟨g, off, hva, hcell⟩
     · omega
     cases hva
     clear hcells
     have hmiss : ∀ u, (Value.string m.id, u) ∉ rawM MU := by
      intro u hu
      unfold rawM at hu
      obtain ⟨y, hy, hye⟩ := List.mem_map.1 hu
      have hyt : y.1.id = m.id := by simpa using (Prod.mk.inj hye).1
      have hmem : m.id ∈ ids (Ms.take k) := by rw [← hMU, ← hyt]; unfold ids; exact List.mem_map_of_mem (List.mem_map_of_mem hy)
      obtain ⟨hk', hx'⟩ := List.getElem?_eq_some_iff.1 hkm
      have hsplit : ids Ms = ids (Ms.take k) ++ m.id :: ids (Ms.drop (k + 1)) := by
       conv => lhs; rw [← List.take_append_drop k Ms, List.drop_eq_getElem_cons hk', hx']
       simp [ids]
      have hn := HND.out
      rw [hsplit] at hn
      exact (List.nodup_append.1 hn).2.2 _ hmem _ (by simp) rfl
     obtain ⟨id, ver, tvv, tops, dv, data, ov, owned, gen, rack, has⟩ := m
     obtain ⟨⟨ta, tc, e1⟩, _⟩ := hme.tops
     obtain ⟨⟨da, dc, e2⟩, _⟩ := hme.data
     obtain ⟨oa, oc, e3⟩ := hme.owned.form
     simp only at e1 e2 e3 hmiss
     subst e1 e2 e3
     have c0 : wr.cell? ⟨g, off + k * 8, none⟩ = some (.string id) := hkw.cell (hcell _ _ (hgc 0 (by omega))) (by simp)
     have c1 : wr.cell? ⟨g, off + k * 8 + 1, none⟩ = some (.int .i16 ver) := hkw.cell (by rw [Nat.add_assoc]; exact hcell _ _ (hgc 1 (by omega))) (by simp)
     have c2 : wr.cell? ⟨g, off + k * 8 + 2, none⟩ = some (.slice ta tops.length tc) := hkw.cell (by rw [Nat.add_assoc]; exact hcell _ _ (hgc 2 (by omega))) (by simp)
     have c3 : wr.cell? ⟨g, off + k * 8 + 3, none⟩ = some (.slice da data.length dc) := hkw.cell (by rw [Nat.add_assoc]; exact hcell _ _ (hgc 3 (by omega))) (by simp)
     have c4 : wr.cell? ⟨g, off + k * 8 + 4, none⟩ = some (.slice oa owned.length oc) := hkw.cell (by rw [Nat.add_assoc]; exact hcell _ _ (hgc 4 (by omega))) (by simp)
     have c5 : wr.cell? ⟨g, off + k * 8 + 5, none⟩ = some (.int .i32 gen) := hkw.cell (by rw [Nat.add_assoc]; exact hcell _ _ (hgc 5 (by omega))) (by simp)
     have c6 : wr.cell? ⟨g, off + k * 8 + 6, none⟩ = some (.string rack) := hkw.cell (by rw [Nat.add_assoc]; exact hcell _ _ (hgc 6 (by omega))) (by simp)
     have c7 : wr.cell? ⟨g, off + k * 8 + 7, none⟩ = some (.bool has) := hkw.cell (by rw [Nat.add_assoc]; exact hcell _ _ (hgc 7 (by omega))) (by simp)
     have hlk := map_lookup_miss (hmet.map.alloc (.cells #[.string id, .int .i16 ver, .slice ta tops.length tc, .slice da data.length dc, .slice oa owned.length oc, .int .i32 gen, .string rack, .bool has] 30)) (keyT_str Tryz.underlying9) Tryz.underlying74 ⟨_, rfl⟩ hmiss (zero78 _) true
     simp only [if_true] at hlk
     have HK := Zhd hkm; clear hkm
     have HMK := Zhd hmok; clear hmok
     have HME := Zhd hme; clear hme
     have HMI := Zhd hmiss; clear hmiss
     have HMM := Zhd hmM; clear hmM
     have HMU := Zhd hMU; clear hMU
     have HVO := Zhd hvo; clear hvo
     have HOW := Zhd hown; clear hown
     have HME2 := Zhd hmet; clear hmet
     clear hcell hgc
     go_upto_region 8 with (first | (refine wl_build1 (x := .string id) rfl rfl rfl (build_str id _) ?_) | (refine wl_app (v := .slice va vn vc) rfl rfl elStr rfl rfl (own_kept HOW.out ((((Kept.refl [] wr).alloc _).alloc _).alloc _) (by simp)) ((new_sl1 _ _ _ rfl).src Tryz.underlying27) (by omega) (by omega) ?_; intro v' w5 hown5 hk5 hd5) | fail)
     have hvb : ∀ g', (Value.slice va vn vc).ownBlock = some g' → w.heap.size < g' ∧ g' < wr.heap.size ∧ ∀ x ∈ MU, g' ∉ metaOwn x.2 := HVO.out
     have HVB := Zhd hvb; clear hvb
     have hb1 : ((((wr.alloc (.cells #[.string id, .int .i16 ver, .slice ta tops.length tc, .slice da data.length dc, .slice oa owned.length oc, .int .i32 gen, .string rack, .bool has] 30)).alloc (.cells #[.int .i16 0, .slice none 0 0, .slice none 0 0, .slice none 0 0, .int .i32 0, .pointer none] 78)).alloc (.cells #[.string id] 9))).heap[wr.heap.size]? =
      some (.cells #[.string id, .int .i16 ver, .slice ta tops.length tc, .slice da data.length dc, .slice oa owned.length oc, .int .i32 gen, .string rack, .bool has] 30 (0, 0)) := ha (ha (heap_alloc_new wr _))
     have hk5r : Kept (Value.slice va vn vc).ownBlock.toList wr w5 := ((((Kept.refl [] wr).alloc _).alloc _).alloc _).trans hk5 (by simp) (fun y hy _ => hy)
     have hk5w : Kept [] w w5 := hkw.trans hk5r (by simp) (fun y hy hl => by simp only [Option.mem_toList] at hy; have := HVB.out y hy; omega)
     have hs5 := hk5.size
     simp only [World.size_alloc] at hs5 hd5
     have hb5 : ∀ w', Kept [w.heap.size] w5 w' → w'.heap[wr.heap.size]? = some (.cells #[.string id, .int .i16 ver, .slice ta tops.length tc, .slice da data.length dc, .slice oa owned.length oc, .int .i32 gen, .string rack, .bool has] 30 (0, 0)) :=
      fun w' k' => k'.heap (hk5.heap hb1 (fun h => by simp only [Option.mem_toList] at h; have := HVB.out _ h; omega)) (by simp; omega)
     have hS : ∀ w', Kept [w.heap.size] w5 w' → w'.cell? ⟨wr.heap.size, 0, none⟩ = some (.string id) ∧ w'.cell? ⟨wr.heap.size, 1, none⟩ = some (.int .i16 ver) ∧ w'.cell? ⟨wr.heap.size, 2, none⟩ = some (.slice ta tops.length tc) ∧ w'.cell? ⟨wr.heap.size, 3, none⟩ = some (.slice da data.length dc) ∧
      w'.cell? ⟨wr.heap.size, 4, none⟩ = some (.slice oa owned.length oc) ∧ w'.cell? ⟨wr.heap.size, 5, none⟩ = some (.int .i32 gen) ∧ w'.cell? ⟨wr.heap.size, 6, none⟩ = some (.string rack) ∧ w'.cell? ⟨wr.heap.size, 7, none⟩ = some (.bool has) := fun w' k' => by
      obtain ⟨h1, _⟩ := cells_of (hb5 w' k')
      exact ⟨h1 0 _ rfl, h1 1 _ rfl, h1 2 _ rfl, h1 3 _ rfl, h1 4 _ rfl, h1 5 _ rfl, h1 6 _ rfl, h1 7 _ rfl⟩
     have HS := Zhd hS; clear hS hb5 hb1
     have hmd := metadata_any ⟨id, ver, .slice ta tops.length tc, tops, .slice da data.length dc, data, .slice oa owned.length oc, owned, gen, rack, has⟩ w5.drew
      ⟨HME.out.tops.kept hk5w.drew (by simp), ⟨HME.out.data.1, HME.out.data.2.kept hk5w.drew (by simp)⟩, HME.out.owned.kept hk5w.drew (by simp) (by simp)⟩ HMK.out.owned HMK.out.has HMK.out.tops HMK.out.data
     simp only [memCells] at hmd
     have HMD := Zhd hmd; clear hmd
     have hmap5 : MapAt w5 isStr w.heap.size (rawM MU) := HME2.out.map.kept hk5r (fun h => by simp only [Option.mem_toList] at h; have := HVB.out _ h; omega)
     have HMP := Zhd hmap5; clear hmap5
     have HO5 := Zhd (Zan hown5 (Zan hk5r (Zan hk5w (Zan hs5 hd5)))); clear hown5 hk5r hk5w hs5 hd5 hk5
     go_region_held3 (fun w' => w'.cell? ⟨wr.heap.size, 0, none⟩ = some (.string id) ∧ w'.cell? ⟨wr.heap.size, 1, none⟩ = some (.int .i16 ver) ∧ w'.cell? ⟨wr.heap.size, 2, none⟩ = some (.slice ta tops.length tc) ∧ w'.cell? ⟨wr.heap.size, 3, none⟩ = some (.slice da data.length dc) ∧
      w'.cell? ⟨wr.heap.size, 4, none⟩ = some (.slice oa owned.length oc) ∧ w'.cell? ⟨wr.heap.size, 5, none⟩ = some (.int .i32 gen) ∧ w'.cell? ⟨wr.heap.size, 6, none⟩ = some (.string rack) ∧ w'.cell? ⟨wr.heap.size, 7, none⟩ = some (.bool has))
      (first | with_reducible exact HS.out _ (Kept.refl _ _).drew | with_reducible exact HS.out _ hk6' | with_reducible exact HS.out _ hk7' | fail)
      (first
        | (go_at_call 45
           refine HMD.out.mono ?_
           rintro e w6 ⟨u, rfl, hmeta, hk6⟩
           have hk6' : Kept [w.heap.size] w5 w6 := hk6.of_drew.mono (by simp))
        | (refine up_update (fun _ _ => rfl) (keyT_str Tryz.underlying9) Tryz.underlying74 (HMP.out.kept hk6.of_drew (by simp)) ⟨_, rfl⟩ ?_
           intro w7 hm7 hk7 hs7
           have hk7' : Kept [w.heap.size] w5 w7 := hk6'.trans hk7 (fun _ h => h) (fun _ h _ => h))
        | fail)
     obtain ⟨hown5, hk5r, hk5w, hs5, hd5⟩ := HO5.out
     have hs6 := hk6.size
     simp only [World.size_drew] at hs6
     have hkwv : Kept (w.heap.size :: (Value.slice va vn vc).ownBlock.toList) wr w7 := hk5r.trans hk7' (fun y hy => by simp [hy]) (fun y hy _ => by simp at hy; simp [hy])
     have hvo' : ∀ g', v'.ownBlock = some g' → w.heap.size < g' ∧ g' < w5.heap.size ∧ ∀ x ∈ MU, g' ∉ metaOwn x.2 := by
      intro g' hg
      rcases hd5 with ⟨h1, h2⟩ | ⟨h1, h2⟩
      · rw [h1] at hg
        have := HVB.out g' hg
        exact ⟨this.1, by omega, this.2.2⟩
      · rw [h1] at hg
        simp only [Option.some.injEq] at hg
        refine ⟨by omega, by omega, fun x hx h => ?_⟩
        have := (HME2.out.each x hx).own g' h
        omega
     have hmo6 := hmeta.own
     simp only [World.size_drew] at hmo6
     have hrow : MU.map (·.1) ++ [(⟨id, ver, .slice ta tops.length tc, tops, .slice da data.length dc, data, .slice oa owned.length oc, owned, gen, rack, has⟩ : Mem)] = Ms.take (k + 1) := by
      obtain ⟨hk', hx'⟩ := List.getElem?_eq_some_iff.1 HK.out
      rw [List.take_succ_eq_append_getElem hk', hx', HMU.out]
     have hMA : MetasAt w7 w.heap.size (w.heap.size + 1) (MU ++ [(⟨id, ver, .slice ta tops.length tc, tops, .slice da data.length dc, data, .slice oa owned.length oc, owned, gen, rack, has⟩, u)]) := by
      refine ⟨?_, fun x hx => ?_⟩
      · rw [putE_miss HMI.out] at hm7
        simpa [rawM] using hm7
      · rcases Zap.1 hx with hx | hx
        · refine (HME2.out.each x hx).kept hkwv (fun g' hg => ?_)
          have h1 := (HME2.out.each x hx).own g' hg
          simp only [Zmc, Option.mem_toList, not_or]
          exact ⟨by omega, fun h => (HVB.out g' h).2.2 x hx hg⟩
        · simp only [Zmc, Znn, or_false] at hx
          subst hx
          refine (hmeta.mono (by simp only [World.size_drew]; omega)).kept hk7 (fun g' hg => ?_)
          have := hmo6 g' hg
          simp; omega
     have hown7 : w7.ownsRow 0 9 1 v' (k + 1) (strs (ids (Ms.take (k + 1)))) := by
      have h1 := own_kept hown5 hk7' (fun g' hg => by have := hvo' g' hg; simp; omega)
      have h2 : strs (ids (Ms.take (k + 1))) = strs (ids (Ms.take k)) ++ [.string id] := by
       rw [← hrow, HMU.out]; simp [strs, ids]
      rw [h2]; exact h1
     have hk7w : Kept [] w w7 := hk5w.trans hk7' (by simp) (by simp)
     have hkk : (k : Int) + 1 ≤ 2000 := by omega
     go_wp2_with fail
     go_roundw
     case rel =>
      refine ⟨k + 1, _, by omega, by go_num, ?_, hMA, hown7, hk7w, fun g' hg => ?_, by omega⟩
      · rw [← hrow]; simp
      · have h1 := hvo' g' hg
        refine ⟨h1.1, by omega, fun x hx h => ?_⟩
        rcases Zap.1 hx with hx | hx
        · exact h1.2.2 x hx h
        · simp only [Zmc, Znn, or_false] at hx
          subst hx
          have := hmo6 g' h
          omega
     case measure => simp [intOf]; omega
   · go_wp2_with fail
     go_meet
     have hkN : k = N := by omega
     subst hkN
     rw [List.take_of_length_le (by have := HMN.out; omega)] at hMU hown
     exact ⟨MU, hMU, hmet, hown, hkw, fun g hg => ⟨(hvo g hg).1, (hvo g hg).2.1⟩, hlo⟩
 case rest =>
  obtain ⟨MU, hMU, hmet, hown, hkw, hvo, hlo⟩ := hcut
  have hmt := HF.out.m
  have hnl := HF.out.n
  have hcf := HF.out.c
  have hS : ∀ w', Kept [] wc w' → w'.cell? ⟨b, 0, none⟩ = some (.int .i64 n) ∧ w'.cell? ⟨b + 2, 0, none⟩ = some tv := fun w' k' => ⟨(hkw.trans k' (U := []) (by simp) (by simp)).cell HC.out.1 (by simp), (hkw.trans k' (U := []) (by simp) (by simp)).cell HC.out.2.2 (by simp)⟩
  have hT : ∀ w', Kept [] wc w' → _ := fun w' k' => topicMap_any tv Ts w' (HT.out.kept (hkw.trans k' (U := []) (by simp) (by simp)) (by simp) (by simp)) (by omega) HTN.out.1 (fun x hx => by have := HTN.out.2 x hx; omega)
  have HS := Zhd hS; clear hS
  have HTT := Zhd hT; clear hT
  have HMU := Zhd hMU; clear hMU
  have HME := Zhd hmet; clear hmet
  have HOW := Zhd hown; clear hown
  have HKW := Zhd hkw; clear hkw
  have HVO := Zhd (Zan hvo hlo); clear hvo hlo
  go_upto_region 10 with fail
  go_cut [11, 12] (fun p e wx => ∃ pp P sp, p = .map (some pp) ∧ e = .nilIface ∧ PlanAt wx pp P ∧ PlanFresh sp wx pp P ∧ Good P ∧ Kept [] w wx ∧ wx.ownsRow 0 9 1 u6 N (strs (ids Ms)) ∧ (∀ g, u6.ownBlock = some g → w.heap.size < g ∧ g < sp) ∧ w.heap.size < sp)
  case first =>
   go_region_held3 (fun w' => w'.cell? ⟨b, 0, none⟩ = some (.int .i64 n) ∧ w'.cell? ⟨b + 2, 0, none⟩ = some tv)
    (first | with_reducible exact HS.out _ (Kept.refl _ _).drew | with_reducible exact HS.out _ ((Kept.refl _ _).alloc _).drew | with_reducible exact HS.out _ hk2' | with_reducible exact HS.out _ hk3' | fail)
    (first
      | (go_at_call 46
         refine (strategy_any n hn _).mono ?_
         rintro e w1 ⟨rfl, rfl⟩)
      | (go_at_call 47
         refine (HTT.out _ (((Kept.refl [] wc).drew).alloc _)).mono ?_
         rintro e w2 ⟨D, rfl, hD, hT2, hk2, hfr, hcap⟩
         have hk2' : Kept [] wc w2 := (((Kept.refl [] wc).drew).alloc _).trans hk2 (by simp) (by simp)
         have hT3 : TopsAt w2 (wc.heap.size + 1) D := by simpa using hT2
         have hfr3 : ∀ x ∈ D, ∀ g, x.2.1.ownBlock = some g → wc.heap.size + 1 < g ∧ g < w2.heap.size := by simpa using hfr
         have hsp : w2.heap[wc.heap.size]? = some (stratO n) := hk2.heap (heap_alloc_new wc.drew (stratO n)) (by simp)
         have hpl := HPL.out w2 w.heap.size (wc.heap.size + 1) wc.heap.size MU D (HKW.out.trans hk2' (by simp) (by simp)) HMU.out (HME.out.kept hk2' (by simp) (by simp)) hT3 hD (Nat.le_refl _) HVO.out.2 (by omega) hT3.map.lt (fun x hx g hg => ((HME.out.each x hx).own g hg).2) hfr3 hcap hsp
         have HPP := Zhd hpl; clear hpl hT2 hT3 hfr hfr3 hsp hD)
      | (refine HPP.out.mono ?_
         rintro e w3 ⟨p, P, rfl, hpa, hplt, hgo, hk3⟩
         have hk3' : Kept [] wc w3 := hk2'.trans hk3 (by simp) (fun x hx hl => by simp at hx; omega))
      | fail)
   all_goals
    go_wp2_with fail
    go_meet
    exact ⟨p, P, wc.heap.size, rfl, rfl, hpa, hplt, hgo, HKW.out.trans hk3' (by simp) (by simp), own_kept HOW.out hk3' (by simp), HVO.out.1, HVO.out.2⟩
  case rest =>
   obtain ⟨pp, P, sp, rfl, rfl, hpa, hpf, hgo, hkx, hown, hvo, hspw⟩ := hcut
   obtain ⟨d3, d4, f3, f4⟩ := HD.out
   have k3 := hkx.cell d3 (by simp)
   have k4 := hkx.cell d4 (by simp)
   have z3 := hkx.frz f3 (by simp; omega) (by simp)
   have z4 := hkx.frz f4 (by simp; omega) (by simp)
   have hkb : Kept [b + 4] wc (wc.setCell ⟨b + 4, 0, none⟩ (.bool true)) := (Kept.refl _ _).setCell _ (by simp)
   have hownb := own_kept hown hkb (fun g hg => by have := hvo g hg; simp; omega)
   obtain ⟨gn, cn, rfl, hgn, hsort⟩ := sort_names _ _ _ _ hownb hm1 hml
   have HSO := Zhd hsort; clear hsort
   have hgw := hvo gn rfl
   have hxs := hkx.size
   have hcb : (wc.setCell ⟨b + 4, 0, none⟩ (.bool true)).cell? ⟨b + 3, 0, none⟩ = some (.slice none 0 0) := by simp [go_sem, k3]
   have hcb4 : (wc.setCell ⟨b + 4, 0, none⟩ (.bool true)).cell? ⟨b + 4, 0, none⟩ = some (.bool true) := by simp [go_sem, k4]
   have hzb : (wc.setCell ⟨b + 4, 0, none⟩ (.bool true)).frozen? ⟨b + 3, 0, none⟩ = false := by simp [go_sem, z3]
   have hzb4 : (wc.setCell ⟨b + 4, 0, none⟩ (.bool true)).frozen? ⟨b + 4, 0, none⟩ = false := by simp [go_sem, z4]
   have HCB := Zhd (Zan hcb (Zan hcb4 (Zan hzb hzb4))); clear hcb hcb4 hzb hzb4
   have HPA := Zhd (Zan hpa hpf); clear hpa hpf
   have HGO := Zhd (HGD.out P hgo); clear hgo
   have HKX := Zhd hkx; clear hkx
   have HKB := Zhd hkb; clear hkb
   clear hown hownb hvo k3 z3
   go_upto_block 2 with (first | (go_at_call 48; refine HSO.out.mono ?_; rintro e wS ⟨rfl, hownS, hkS⟩) | fail)
   have hsz1 := hkS.size
   simp only [World.size_setCell] at hsz1
   have hpaS : PlanAt wS pp P := by
    have h1 := HPA.out.1.kept HPA.out.2 HKB.out (by simp; omega)
    exact h1.kept ⟨HPA.out.2.p, fun x hx => ⟨(HPA.out.2.each x hx).1, fun y hy g hg => by have := (HPA.out.2.each x hx).2 y hy g hg; simp only [World.size_setCell]; omega⟩⟩ hkS (by simp; omega)
   have hpfS : PlanFresh sp wS pp P := ⟨HPA.out.2.p, fun x hx => ⟨(HPA.out.2.each x hx).1, fun y hy g hg => by have := (HPA.out.2.each x hx).2 y hy g hg; omega⟩⟩
   have s3 := hkS.cell HCB.out.1 (by simp; omega)
   have s4 := hkS.cell HCB.out.2.1 (by simp; omega)
   have y3 := hkS.frz HCB.out.2.2.1 (by simp; omega) (by simp; omega)
   have y4 := hkS.frz HCB.out.2.2.2 (by simp; omega) (by simp; omega)
   have hkwS : Kept [b + 4] w wS := (HKX.out.trans HKB.out (U := [b + 4]) (by simp) (by simp)).trans hkS (by simp) (by simp; omega)
   have hslS := own_sl hownS (strs_one _)
   have HS1 := Zhd (Zan hpaS (Zan hpfS (Zan s3 (Zan s4 (Zan y3 (Zan y4 (Zan hkwS hslS))))))); clear hpaS hpfS s3 s4 y3 y4 hkwS hslS hkS hownS hsz1
   go_wp2_with fail
   go_loopw [60] (fun i wr => ∃ (k : Nat) (LL : List (List Shr)) (v : Value), k ≤ N ∧ i = .int .i64 k ∧ OutOf P ((sortedNames (ids Ms)).take k) LL ∧ wr.cell? ⟨b + 3, 0, none⟩ = some v ∧ wr.frozen? ⟨b + 3, 0, none⟩ = false ∧ Kept [b + 3] wS wr ∧
    wr.ownsRow 0 33 3 v LL.flatten.length (LL.flatten.flatMap shrCells) ∧ (∀ x ∈ LL.flatten, SlInts wr x.val x.parts) ∧ (∀ x ∈ LL.flatten, ∀ g, x.val.ownBlock = some g → wS.heap.size ≤ g ∧ g < wr.heap.size ∧ v.ownBlock ≠ some g) ∧ (∀ g, v.ownBlock = some g → wS.heap.size ≤ g ∧ g < wr.heap.size) ∧ LL.flatten.length ≤ k) (fun i _ => N - (intOf i).toNat)
   case atStart => exact ⟨0, [], .slice none 0 0, Nat.zero_le _, rfl, ⟨by simp, by simp⟩, HS1.out.2.2.1, HS1.out.2.2.2.2.1, Kept.refl _ _, own_nil _ _, by simp, by simp, by simp [Value.ownBlock], by simp⟩
   case round =>
    obtain ⟨k, LL, v, hk, rfl, hout, c3, y3, hkr, hownv, hints, hdis, hvb, hlen⟩ := hrel
    obtain ⟨va, vn, vc, rfl⟩ := own_form hownv
    by_cases hkn : k < N
    · obtain ⟨hpaS, hpfS, _, _, _, _, hkwS, hslS⟩ := HS1.out
      have hlN : (sortedNames (ids Ms)).length = N := by rw [(sortedNames_perm _).length_eq]; unfold ids; rw [List.length_map]; exact HMN.out
      obtain ⟨nm, hnm⟩ : ∃ nm, (sortedNames (ids Ms))[k]? = some nm := ⟨_, List.getElem?_eq_getElem (by omega)⟩
      have hnmc : wS.cell? ⟨gn, k, none⟩ = some (.string nm) := by
       have h1 := hslS.cell (j := k) (u := .string nm) (by simp [strs, hnm])
       simpa using h1
      have cn1 := hkr.cell hnmc (by simp; omega)
      have hnmM : nm ∈ ids Ms := (sortedNames_perm _).mem_iff.1 (List.mem_of_getElem? hnm)
      obtain ⟨m, hmM, hmid⟩ := List.mem_map.1 hnmM
      obtain ⟨r, D, hPm, hD1, hDs⟩ := HGO.out.2 m hmM
      rw [hmid] at hPm
      have hpaR : PlanAt wr pp P := hpaS.kept hpfS hkr (by simp; omega)
      have hlk : ∀ w', MapAt w' isStr pp (rawP P) → (Instr.lookup 82 (.map (some pp)) (.string nm) false).run Tryz.prog w' = .ok (.map (some r)) w' := fun w' h' => by
       have h1 := map_lookup_hit (P := Tryz.prog) h' (keyT_str Tryz.underlying9) Tryz.underlying82 (k := .string nm) (v := .map (some r)) (List.mem_map.2 ⟨_, hPm, rfl⟩) false
       simpa using h1
      have hszr := hkr.size
      have hsh : ∀ w', Kept [] wr w' → _ := fun w' k' => shares_any nm r D w' ((hpaR.each _ hPm).kept k' (by simp) (by simp)) hD1 hDs (fun x hx g hg => by have := (hpfS.each _ hPm).2 x hx g hg; have := k'.size; omega)
      have HSH := Zhd hsh; clear hsh
      have hmapS : ∀ w', Kept [] wr w' → MapAt w' isStr pp (rawP P) := fun w' k' => hpaR.map.kept k' (by simp)
      have HMS := Zhd hmapS; clear hmapS
      have HNM := Zhd hnm; clear hnm
      have HPM := Zhd hPm; clear hPm
      have hl := own_len hownv
      rw [← hl] at hownv hlen
      have HLV := Zhd hl; clear hl
      have HOV := Zhd hownv; clear hownv
      have HIN := Zhd (Zan hints (Zan hdis hvb)); clear hints hdis hvb
      have HOUT := Zhd hout; clear hout
      have HLN := Zhd hlN; clear hlN
      have hwS := hkwS.size
      have hbnd : b + 3 < wS.heap.size := by omega
      have hno : b + 3 ∉ (Value.slice va vn vc).ownBlock.toList := fun h => by simp only [Option.mem_toList] at h; have := HIN.out.2.2 _ h; omega
      have hnp : ∀ g, sp ≤ g → g < wS.heap.size → g ∉ (Value.slice va vn vc).ownBlock.toList := fun g h1 h2 h => by simp only [Option.mem_toList] at h; have := HIN.out.2.2 _ h; omega
      have hppS := hpaS.map.lt
      have hppB := hpfS.p
      have HNO := Zhd (Zan hno hnp); clear hno hnp
      clear hpaS hpfS hkwS hslS hnmc hnmM hmid hmM hpaR hDs
      go_wp2_with fail
      have hm0 : MapAt wr.drew isStr pp (rawP P) := HMS.out _ (Kept.refl _ _).drew
      go_region_law
       (first
         | (go_simp
            go_at_call 49
            refine (HSH.out _ (Kept.refl _ _).drew).mono ?_
            rintro e w1 ⟨a2, c2, L2, rfl, hsh1, hpm, hk1, hf1, hf2⟩
            have hk1' : Kept [] wr w1 := hk1.of_drew
            have c31 := hk1'.cell c3 (by simp)
            have y31 := hk1'.frz y3 (by simp; omega) (by simp)
            have hL2 : L2.length ≤ 1 := by have h1 := hpm.length_eq; have h2 := List.length_filter_le full D; simp only [List.length_map] at h1; omega
            have hsrc := hsh1.cells.src Tryz.underlying23
            have HSR := Zhd hsrc; clear hsrc
            go_wp2_with fail)
         | (refine sl_app (v := .slice va vn vc) rfl rfl elSh rfl rfl (own_kept HOV.out hk1' (by simp)) HSR.out (by omega) (by omega) ?_
            intro v' w2 hown2 hk2 hd2
            obtain ⟨va', vn', vc', rfl⟩ := own_form hown2
            have c32 := hk2.cell c31 HNO.out.1
            have y32 := hk2.frz y31 (by have := hk1'.size; simp; omega) HNO.out.1)
         | fail)
      all_goals
       have hs1 := hk1'.size
       have hs2 := hk2.size
       have hkv : Kept (Value.slice va vn vc).ownBlock.toList wr w2 := hk1'.trans hk2 (by simp) (fun y hy _ => hy)
       have hvo := HIN.out.2.2
       have hv'o : ∀ g, (Value.slice va' vn' vc').ownBlock = some g → wS.heap.size ≤ g ∧ g < w2.heap.size ∧ ((Value.slice va vn vc).ownBlock = some g ∨ g = w1.heap.size) := by
        intro g hg
        rcases hd2 with ⟨h1, h2⟩ | ⟨h1, h2⟩
        · rw [h1] at hg
          have := hvo g hg
          exact ⟨this.1, by omega, .inl hg⟩
        · rw [h1] at hg
          simp only [Option.some.injEq] at hg
          exact ⟨by omega, by omega, .inr hg.symm⟩
       have hk3 : Kept [b + 3] w2 (w2.setCell ⟨b + 3, 0, none⟩ (.slice va' vn' vc')) := (Kept.refl _ _).setCell _ (by simp)
       have hend : ∃ (LL' : List (List Shr)), OutOf P ((sortedNames (ids Ms)).take (k + 1)) LL' ∧ (w2.setCell ⟨b + 3, 0, none⟩ (.slice va' vn' vc')).ownsRow 0 33 3 (.slice va' vn' vc') LL'.flatten.length (LL'.flatten.flatMap shrCells) ∧
        (∀ x ∈ LL'.flatten, SlInts (w2.setCell ⟨b + 3, 0, none⟩ (.slice va' vn' vc')) x.val x.parts) ∧ (∀ x ∈ LL'.flatten, ∀ g, x.val.ownBlock = some g → wS.heap.size ≤ g ∧ g < w2.heap.size ∧ (Value.slice va' vn' vc').ownBlock ≠ some g) ∧ LL'.flatten.length ≤ k + 1 := by
        have hfl : (LL ++ [L2]).flatten = LL.flatten ++ L2 := by simp
        refine ⟨LL ++ [L2], ?_, ?_, ?_, ?_, ?_⟩
        · obtain ⟨hk', hx'⟩ := List.getElem?_eq_some_iff.1 HNM.out
          rw [List.take_succ_eq_append_getElem hk', hx']
          exact HOUT.out.snoc HPM.out hpm
        · have h1 := own_kept hown2 hk3 (fun g hg => by have := hv'o g hg; simp; omega)
          rw [hfl, List.length_append, List.flatMap_append, ← HLV.out]
          exact h1
        · intro x hx
          rw [hfl] at hx
          rcases Zap.1 hx with hx | hx
          · have h1 := HIN.out.2.1 x hx
            refine ((HIN.out.1 x hx).kept hkv (fun g hg h => ?_)).kept hk3 (fun g hg => ?_)
            · simp only [Option.mem_toList] at h; exact (h1 g hg).2.2 h
            · have := h1 g hg; simp; omega
          · refine ((hsh1.parts x hx).kept hk2 (fun g hg h => ?_)).kept hk3 (fun g hg => ?_)
            · simp only [Option.mem_toList] at h
              have h1 := hf2 x hx g hg
              have h2 := hvo g h
              simp only [World.size_drew] at h1
              omega
            · have h1 := hf2 x hx g hg
              simp only [World.size_drew] at h1
              simp; omega
        · intro x hx g hg
          rw [hfl] at hx
          rcases Zap.1 hx with hx | hx
          · have h1 := HIN.out.2.1 x hx g hg
            refine ⟨h1.1, by omega, fun h => ?_⟩
            rcases (hv'o g h).2.2 with h2 | h2
            · exact h1.2.2 h2
            · omega
          · have h1 := hf2 x hx g hg
            simp only [World.size_drew] at h1
            refine ⟨by omega, by omega, fun h => ?_⟩
            rcases (hv'o g h).2.2 with h2 | h2
            · have := hvo g h2; omega
            · omega
        · rw [hfl, List.length_append, ← HLV.out]; omega
       obtain ⟨LL', e1, e2, e3, e4, e5⟩ := hend
       have hcell3 : (w2.setCell ⟨b + 3, 0, none⟩ (.slice va' vn' vc')).cell? ⟨b + 3, 0, none⟩ = some (.slice va' vn' vc') := by simp [go_sem, c32]
       have hfz3 : (w2.setCell ⟨b + 3, 0, none⟩ (.slice va' vn' vc')).frozen? ⟨b + 3, 0, none⟩ = false := by simp [go_sem, y32]
       have hkS3 : Kept [b + 3] wS (w2.setCell ⟨b + 3, 0, none⟩ (.slice va' vn' vc')) := (hkr.trans hkv (U := [b + 3]) (by simp) (fun y hy hl => by simp only [Option.mem_toList] at hy; have := hvo y hy; omega)).trans hk3 (by simp) (by simp)
       have HE := Zhd (Zan e1 (Zan e2 (Zan e3 (Zan e4 (Zan e5 (Zan hcell3 (Zan hfz3 hkS3))))))); clear e1 e2 e3 e4 e5 hcell3 hfz3 hkS3
       go_wp2_with fail
       go_roundw
       case rel =>
        obtain ⟨e1, e2, e3, e4, e5, e6, e7, e8⟩ := HE.out
        exact ⟨k + 1, LL', _, by omega, by go_num, e1, e6, e7, e8, e2, e3, fun x hx g hg => by have := e4 x hx g hg; exact ⟨this.1, by simp; omega, this.2.2⟩, fun g hg => by have := hv'o g hg; exact ⟨this.1, by simp; omega⟩, e5⟩
       case measure => simp [intOf]; omega
    · obtain ⟨hpaS, hpfS, s3, s4, y3', y4, hkwS, hslS⟩ := HS1.out
      have hkN : k = N := by omega
      subst hkN
      have hlN : (sortedNames (ids Ms)).length = k := by rw [(sortedNames_perm _).length_eq]; unfold ids; rw [List.length_map]; exact HMN.out
      rw [List.take_of_length_le (by omega)] at hout
      have hl := own_len hownv
      have hwS := hkwS.size
      have hfin : GroupRes w.heap.size b Good (sortedNames (ids Ms)) wr := by
       refine ⟨P, LL, va, vc, HGO.out.1, hout, by rw [← hl]; exact c3, ?_, hkr.cell s4 (by simp), y3, hkr.frz y4 (by simp; omega) (by simp), fun g hg => ?_, fun x hx g hg => ?_⟩
       · rw [← hl]
         refine ⟨⟨va, vc, by rw [hl]⟩, ?_, hints⟩
         have := own_sl hownv (shrCells_one hints)
         exact this
       · rw [← hl] at hg
         have := hvb g hg; omega
       · have := hdis x hx g hg; omega
      have hkfin : Kept [b + 3, b + 4] w wr := hkwS.trans hkr (by simp) (by simp)
      have HFIN := Zhd (Zan hfin hkfin); clear hfin hkfin
      clear hout hownv hints hdis hvb hl hlN hpaS hpfS s3 s4 y3' y4 hkwS hslS
      go_wp2_with fail
      go_end0
      exact ⟨rfl, HFIN.out.1, HFIN.out.2⟩
end
end Go.Proofs.YticcnlpfmekagaaGreat
