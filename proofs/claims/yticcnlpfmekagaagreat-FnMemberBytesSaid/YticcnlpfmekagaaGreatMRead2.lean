import Derived.Test.YticcnlpfmekagaaGreatMRead
import Derived.Test.YticcnlpfmekagaaGreatMeta3
import Derived.Test.YticcnlpfmekagaaGreatSafe
namespace Go.Proofs.YticcnlpfmekagaaGreat
open Go Go.Proofs Go.RowKit
set_option linter.unusedVariables false
set_option linter.unusedSimpArgs false

/-! ## MemberRead's closure -/

theorem up_store8 {P : Program} {o : Oper} {a : Act} {w : World} {K : Act → World → Prop} {Q : Exit → Act → World → Prop} {f : Unit → World → Result Next} (hf : ∀ u w', f u w' = .ok .skip w') {X E : Nat} {a0 a1 a2 a3 a4 a5 a6 a7 v0 v1 v2 v3 v4 v5 v6 v7 : Value}
    (h : w.heap[X]? = some (.cells #[a0, a1, a2, a3, a4, a5, a6, a7] E (0, 0)))
    (hK : ∀ w', w'.heap[X]? = some (.cells #[v0, v1, v2, v3, v4, v5, v6, v7] E (0, 0)) → Kept [X] w w' → w'.heap.size = w.heap.size → K (a.put o.dst undef) w') :
    Oper.upon P o a K Q (((stored P w ⟨X, 0, none⟩ v0 .plain).andThen fun _ w' => (stored P w' ⟨X, 1, none⟩ v1 .plain).andThen fun _ w' => (stored P w' ⟨X, 2, none⟩ v2 .plain).andThen fun _ w' => (stored P w' ⟨X, 3, none⟩ v3 .plain).andThen fun _ w' => (stored P w' ⟨X, 4, none⟩ v4 .plain).andThen fun _ w' => (stored P w' ⟨X, 5, none⟩ v5 .plain).andThen fun _ w' => (stored P w' ⟨X, 6, none⟩ v6 .plain).andThen fun _ w' => stored P w' ⟨X, 7, none⟩ v7 .plain).andThen f) := by
  have h1 := row_set h 0 v0
  have h2 := row_set h1 1 v1
  have h3 := row_set h2 2 v2
  have h4 := row_set h3 3 v3
  have h5 := row_set h4 4 v4
  have h6 := row_set h5 5 v5
  have h7 := row_set h6 6 v6
  have h8 := row_set h7 7 v7
  rw [row_stored h (by simp), Result.andThen_ok, row_stored h1 (by simp), Result.andThen_ok, row_stored h2 (by simp), Result.andThen_ok, row_stored h3 (by simp), Result.andThen_ok, row_stored h4 (by simp), Result.andThen_ok, row_stored h5 (by simp), Result.andThen_ok, row_stored h6 (by simp), Result.andThen_ok, row_stored h7 (by simp), Result.andThen_ok, hf, Oper.upon_skip]
  refine hK _ (by simpa using h8) ?_ (by simp)
  exact ((((((((Kept.refl _ _).setCell _ (by simp)).setCell _ (by simp)).setCell _ (by simp)).setCell _ (by simp)).setCell _ (by simp)).setCell _ (by simp)).setCell _ (by simp)).setCell _ (by simp)

def Rs.shs (L : List Shr) : Res :=
  ⟨L.flatMap (fun x => x.val.ownBlock.toList), fun w => ∀ x ∈ L, SlInts w x.val x.parts, fun w w' S k hs h x hx => (h x hx).kept k (fun g hg => hs g (List.mem_flatMap.2 ⟨x, hx, by simp [hg]⟩))⟩

theorem shs_snoc {B : Nat} {wr w1 w2 w3 : World} {ov ov' pv : Value} {L : List Shr} {top : ByteArray} {parts : List Int}
    (h : Own B wr [Rs.shs L, Rs.row 33 3 ov L.length (L.flatMap shrCells)]) (hB : B ≤ wr.heap.size) (k1 : Kept [] wr w1) (hpv : SlInts w1 pv parts) (hfr : ∀ g, pv.ownBlock = some g → wr.heap.size ≤ g ∧ g < w1.heap.size) (k2 : Kept [] w1 w2)
    (hown : w3.ownsRow 0 33 3 ov' (L.length + 1) (L.flatMap shrCells ++ [.string ⟨#[]⟩, .string top, pv])) (k3 : Kept ov.ownBlock.toList w2 w3) (hd : (ov'.ownBlock = ov.ownBlock ∧ w3.heap.size = w2.heap.size) ∨ (ov'.ownBlock = some w2.heap.size ∧ w3.heap.size = w2.heap.size + 1)) :
    Own B w3 [Rs.shs (L ++ [⟨⟨#[]⟩, top, pv, parts⟩]), Rs.row 33 3 ov' (L ++ [(⟨⟨#[]⟩, top, pv, parts⟩ : Shr)]).length ((L ++ [(⟨⟨#[]⟩, top, pv, parts⟩ : Shr)]).flatMap shrCells)] := by
  have s1 := k1.size
  have s2 := k2.size
  have k12 : Kept [] wr w2 := k1.trans k2 (by simp) (by simp)
  have a1 : Own B w2 [Rs.shs (L ++ [⟨⟨#[]⟩, top, pv, parts⟩]), Rs.row 33 3 ov L.length (L.flatMap shrCells)] := by
    refine Own.put (F1 := []) h k12 (by simp) (fun x hx => ?_) (fun g hg => ?_) hB
    · rcases List.mem_append.1 hx with hx | hx
      · exact (Rs.shs L).stable _ _ _ k12 (by simp) (h.ok _ (by simp)) x hx
      · simp only [List.mem_cons, List.not_mem_nil, or_false] at hx
        subst hx; exact hpv.kept k2 (by simp)
    · simp only [Rs.shs, List.flatMap_append, List.flatMap_cons, List.flatMap_nil, List.append_nil, List.mem_append] at hg ⊢
      rcases hg with hg | hg
      · exact .inl hg
      · right; have := hfr g (by simpa using hg); omega
  have a2 : Own B w3 [Rs.shs (L ++ [⟨⟨#[]⟩, top, pv, parts⟩]), Rs.row 33 3 ov' (L.length + 1) (L.flatMap shrCells ++ [.string ⟨#[]⟩, .string top, pv])] := by
    refine Own.put (F1 := [_]) a1 k3 (fun g hg => .inl hg) hown ?_ (by omega)
    intro g hg
    simp only [Rs.row, Option.mem_toList] at hg ⊢
    rcases hd with ⟨h1, h2⟩ | ⟨h1, h2⟩
    · rw [h1] at hg; exact .inl hg
    · rw [h1] at hg; simp only [Option.some.injEq] at hg; right; have := k3.size; omega
  simpa [shrCells] using a2

/-- a member as MemberRead has read it -/
def MemGot (w : World) (lo : Nat) (mm : Mem) (c : Array Value) : Prop :=
  ∃ x : Mem, c = (memCells x).toArray ∧ MemAt w x ∧ x.ver = mm.ver ∧ x.tops = mm.tops ∧ x.data = mm.data ∧ (1 ≤ mm.ver → x.owned.map owOf = mm.owned.map owOf ∧ ∀ y ∈ x.owned, y.mem = ⟨#[]⟩) ∧ (2 ≤ mm.ver → x.gen = mm.gen) ∧ (3 ≤ mm.ver → x.has = mm.has ∧ (mm.has = true → x.rack = mm.rack) ∧ (mm.has = false → x.rack = ⟨#[]⟩)) ∧
    (∀ g ∈ x.tv.ownBlock.toList ++ x.dv.ownBlock.toList ++ x.ov.ownBlock.toList ++ x.owned.flatMap (fun y => y.val.ownBlock.toList), lo ≤ g)

set_option maxRecDepth 100000 in
set_option maxHeartbeats 20000000 in
theorem memberRead_closure (b g off cap : Nat) (mm : Mem) (w : World) (hb : w.cell? ⟨b, 0, none⟩ = some (.slice (some ⟨g, off, none⟩) (memBytes mm).length cap)) (hr : w.heap[b + 1]? = some (.cells #[.string ⟨#[]⟩, .int .i16 0, .slice none 0 0, .slice none 0 0, .slice none 0 0, .int .i32 0, .string ⟨#[]⟩, .bool false] 30 (0, 0)))
    (hc4 : w.cell? ⟨b + 2, 0, none⟩ = some (.bool false)) (hz : w.frozen? ⟨b + 2, 0, none⟩ = false) (hlt : b + 2 < w.heap.size) (hsl : SlAt w 1 (.slice (some ⟨g, off, none⟩) (memBytes mm).length cap) (memBytes mm).length (memBytes mm))
    (hf : MemFit mm) (hgen : isI32 mm.gen) (hpi : ∀ x ∈ mm.owned, ∀ y ∈ x.parts, isI32 y) (hu : U8L mm.data) :
    Calls Tryz.prog 59 #[.pointer (some ⟨b, 0, none⟩), .pointer (some ⟨b + 2, 0, none⟩), .pointer (some ⟨b + 1, 0, none⟩)] w fun e w' =>
      e = .returned (.tuple #[]) ∧ ∃ c, w'.heap[b + 1]? = some (.cells c 30 (0, 0)) ∧ MemGot w' w.heap.size mm c ∧ w'.cell? ⟨b + 2, 0, none⟩ = some (.bool true) ∧ w'.frozen? ⟨b + 2, 0, none⟩ = false ∧ Kept [b + 1, b + 2] w w' := by
  obtain ⟨hle, hge⟩ := memBytes_le mm hf
  have hcp := copied_any _ _ _ w hsl (by omega) (by omega)
  have HCP := Lib.hid hcp; clear hcp hsl
  have HF := Lib.hid (And.intro hf (And.intro hgen (And.intro hpi hu))); clear hf hgen hpi hu
  have HR := Lib.hid hr; clear hr
  generalize hlen : (memBytes mm).length = len at *
  have HLEN := Lib.hid hlen; clear hlen
  go_enter Tryz.func59, Tryz.ntmps59
  have hneq : ∀ (ra : Option Addr) (w : World), (binOp .neq 76 (.pointer ra) (.pointer none)).run Tryz.prog w = .ok (.bool ra.isSome) w := fun ra w => by cases ra <;> kernel_rfl
  go_upto_region 3 with (first
    | (go_at_call 58
       refine HCP.out.mono ?_
       rintro e w1 ⟨g1, c1, rfl, hc1, hsl1, hg1, hgl1, hk1⟩
       have hw1 : ∀ W1, W1 = w1.alloc (.cells #[.int .i16 0, .string ⟨#[]⟩, .pointer none, .string ⟨#[]⟩, .string ⟨#[]⟩, .slice (some ⟨g1, 0, none⟩) len c1, .slice none 0 0] 115) → Kept [] w W1 ∧ W1.heap.size = w1.heap.size + 1 ∧ _ := fun W1 e => ⟨by subst e; exact hk1.alloc _, by subst e; simp,
         getMem_any w1.heap.size g1 0 c1 mm W1 (by subst e; rw [HLEN.out]; exact (cells_of (heap_alloc_new w1 _)).1 5 _ rfl) (by subst e; rw [HLEN.out]; exact hsl1.alloc _) (by subst e; simp; omega) (by rw [HLEN.out]; exact hc1) HF.out.1 HF.out.2.1 HF.out.2.2.1 HF.out.2.2.2⟩
       have H1 := Lib.hid (hw1 _ rfl)
       have HG1 := hg1; clear hc1 hsl1 hw1)
    | (go_at_call 60
       refine H1.out.2.2.mono ?_
       rintro e w2 ⟨rfl, hdec, hk2⟩
       have hkw2 : Kept [] w w2 := H1.out.1.trans hk2 (by simp) (by simp)
       have hX := H1.out.2.1
       have c4 := hkw2.cell hc4 (by simp)
       have z4 := hkw2.frz hz (by simp; omega) (by simp)
       have H2 := Lib.hid (And.intro hdec hkw2); clear hdec hkw2 hk2)
    | fail)
  go_upto_region 4 with fail
  rw [hX] at H2
  have hg1s := H1.out.1.size
  generalize hXX : w1.heap.size + 1 = X at *
  have hXw : w.heap.size ≤ X := by omega
  have hst : ∀ W3, W3 = w2.setCell ⟨b + 2, 0, none⟩ (.bool true) → MemDec W3 X X g1 mm ∧ Kept [b + 2] w W3 ∧ W3.cell? ⟨b + 2, 0, none⟩ = some (.bool true) ∧ W3.frozen? ⟨b + 2, 0, none⟩ = false ∧ X < W3.heap.size := by
    rintro W3 rfl
    obtain ⟨⟨tv, dv, ov, rk, OL, h1, h2, h3, h4, h5, h6, h7, h8, h9, h10, h11⟩, hk⟩ := H2.out
    have hk3 : Kept [b + 2] w2 (w2.setCell ⟨b + 2, 0, none⟩ (.bool true)) := (Kept.refl _ _).setCell _ (by simp)
    have hg1 : w.heap.size ≤ g1 := HG1
    have hl := lt_of_heap h1
    have ho : ∀ y ∈ tv.ownBlock.toList ++ ov.ownBlock.toList ++ footO OL, y ≠ b + 2 := fun y hy => by have := h10 y hy; omega
    refine ⟨⟨tv, dv, ov, rk, OL, hk3.heap h1 (by simp; omega), h2.kept hk3 (fun y hy => by have := ho y (by simp [hy]); simpa using this), ⟨h3.1.kept hk3 (fun y hy => by have := h4 y hy; simp; omega), h3.2⟩, h4, h5, h6, h7.kept hk3 (fun y hy => by have := ho y (by simp [hy]); simpa using this), fun x hx => ?_, ?_, h10, h11⟩, (hk.mono (by simp)).trans hk3 (fun _ h => h) (fun _ h _ => h), by simp [go_sem, c4], by simp [go_sem, z4], by simpa using hl⟩
    · refine (Rs.ows OL).stable _ _ _ hk3 (fun y hy h => ?_) h8 x hx
      have := ho y (by simp only [List.mem_append]; right; exact hy)
      simp at h; exact this h
    · rcases h9 with h9 | ⟨gR, oR, st, e1, e2, e3⟩
      · exact .inl h9
      · exact .inr ⟨gR, oR, st, e1, e2, hk3.cell e3 (by have := h11 _ e1; simp only at this; simp; omega)⟩
  have H3 := Lib.hid (hst _ rfl); clear hst
  generalize w2.setCell ⟨b + 2, 0, none⟩ (.bool true) = W3 at *
  obtain ⟨⟨tv, dv, ov, rk, OL, h1, h2, h3, h4, h5, h6, h7, h8, h9, h10, h11⟩, hk3, q4, y4, hXl⟩ := H3.out
  obtain ⟨⟨ta, tc, rfl⟩, htv⟩ := h2
  obtain ⟨hdv, da, dc, rfl, hdn⟩ := h3
  obtain ⟨oa, oc, rfl⟩ := h6
  obtain ⟨ra, rfl⟩ : ∃ ra, rk = .pointer ra := by
    rcases h9 with ⟨e, _⟩ | ⟨gR, oR, st, e1, _⟩
    · exact ⟨_, e⟩
    · exact ⟨_, e1⟩
  generalize hgv : (if 2 ≤ mm.ver then mm.gen else 0) = gv at *
  have HGV := Lib.hid hgv; clear hgv
  have hS : ∀ w', Kept [b + 1] W3 w' → w'.cell? ⟨X, 0, none⟩ = some (.int .i16 mm.ver) ∧ w'.cell? ⟨X, 1, none⟩ = some (.slice ta mm.tops.length tc) ∧ w'.cell? ⟨X, 2, none⟩ = some (.slice da mm.data.length dc) ∧ w'.cell? ⟨X, 4, none⟩ = some (.int .i32 gv) ∧ w'.cell? ⟨X, 5, none⟩ = some (.pointer ra) := fun w' k => by
    obtain ⟨hh, _⟩ := cells_of (k.heap h1 (by simp; omega))
    exact ⟨hh 0 _ rfl, hh 1 _ rfl, hh 2 _ rfl, hh 4 _ rfl, hh 5 _ rfl⟩
  have HS := Lib.hid hS; clear hS
  have hcl : ∀ w', Kept [] W3 w' → _ := fun w' k => clone_str (.slice ta mm.tops.length tc) mm.tops w' (SlStrs.kept ⟨⟨_, _, rfl⟩, htv⟩ k (by simp)) (by have := HF.out.1.tops.1; omega)
  have HCL := Lib.hid hcl; clear hcl
  have hsd : ∀ w', Kept [] W3 w' → Src Tryz.prog 1 28 (.slice da mm.data.length dc) mm.data.length mm.data w' := fun w' k => (hdv.kept k (by simp)).src Tryz.underlying28
  have HSD := Lib.hid hsd; clear hsd
  have hdl : mm.data.length ≤ 100 := HF.out.1.data
  have hrr := hk3.heap HR.out (by simp)
  have HRR := Lib.hid hrr; clear hrr
  have HD1 := Lib.hid hdv.2.1
  have HM := Lib.hid (And.intro h1 (And.intro h5 (And.intro h7 (And.intro h8 (And.intro h9 (And.intro h10 (And.intro h11 hk3))))))); clear h1 h5 h7 h8 h9 h10 h11 hk3 htv hdv hdn h4
  generalize htn : mm.tops.length = tn at *
  generalize hdn : mm.data.length = dn at *
  have HTN := Lib.hid (And.intro htn hdn); clear htn hdn
  go_cut [] (fun wx => ∃ ta' tc' xa xc, wx.heap[b + 1]? = some (.cells #[.string ⟨#[]⟩, .int .i16 mm.ver, .slice ta' tn tc', .slice xa dn xc, .slice none 0 0, .int .i32 gv, .string ⟨#[]⟩, .bool ra.isSome] 30 (0, 0)) ∧ SlStrs wx (.slice ta' tn tc') mm.tops ∧ SlAt wx 1 (.slice xa dn xc) dn mm.data ∧
    (∀ y ∈ (Value.slice ta' tn tc').ownBlock.toList ++ (Value.slice xa dn xc).ownBlock.toList, W3.heap.size ≤ y) ∧ Kept [b + 1] W3 wx)
  case first =>
    go_region_held3 (fun w' => w'.cell? ⟨X, 0, none⟩ = some (.int .i16 mm.ver) ∧ w'.cell? ⟨X, 1, none⟩ = some (.slice ta tn tc) ∧ w'.cell? ⟨X, 2, none⟩ = some (.slice da dn dc) ∧ w'.cell? ⟨X, 4, none⟩ = some (.int .i32 gv) ∧ w'.cell? ⟨X, 5, none⟩ = some (.pointer ra))
      (first | with_reducible exact HS.out _ (Kept.refl _ _).drew | with_reducible exact HS.out _ (hk5'.mono (by simp)) | with_reducible exact HS.out _ (hk6'.mono (by simp)) | with_reducible exact HS.out _ hk7' | fail)
      (first
        | (go_at_call 61
           refine (HCL.out _ (Kept.refl _ _).drew).mono ?_
           rintro e w5 ⟨tv', rfl, ⟨⟨ta', tc', rfl⟩, htv'⟩, hk5, hfr5⟩
           have hk5' : Kept [] W3 w5 := hk5.of_drew)
        | (refine sl_appN rfl rfl elU8 rfl rfl (HSD.out _ hk5') (by omega) (by omega) ?_
           rintro dv' w6 happ
           have hk6 := happ.kept
           obtain ⟨xa, xc, rfl⟩ := happ.form
           have hk6' : Kept [] W3 w6 := hk5'.trans hk6 (by simp) (by simp)
           have hr6 := hk6'.heap HRR.out (by simp)
           have HR6 := Lib.hid hr6; clear hr6)
        | (refine up_store8 (fun _ _ => rfl) HR6.out ?_
           intro w7 hw7 hk7 hs7
           have hk7' : Kept [b + 1] W3 w7 := hk6'.trans hk7 (by simp) (fun x hx _ => hx))
        | fail)
    all_goals
      have hda : SlAt w6 1 (.slice xa dn xc) dn mm.data ∧ (∀ g, (Value.slice xa dn xc).ownBlock = some g → g = w5.heap.size ∧ g < w6.heap.size) := by
        obtain ⟨a, c, e, p1, p2, p3, p4, p5⟩ := happ
        refine ⟨own_sl p4 HD1.out, fun y hy => ⟨?_, own_lt p4 y hy⟩⟩
        by_cases h : dn = 0
        · rw [e, (p1 h).1] at hy; simp [Value.ownBlock] at hy
        · rw [e, p2 h] at hy; simpa [Value.ownBlock] using hy.symm
      have HE := Lib.hid (And.intro hda (And.intro htv' hw7)); clear hda htv' hw7 happ
      have hs5 := hk5'.size
      go_wp2_with fail
      go_meet
      obtain ⟨⟨hda, hdf⟩, htv', hw7⟩ := HE.out
      have hb1 : ∀ y, W3.heap.size ≤ y → y ∉ [b + 1] := fun y hy => by simp; omega
      refine ⟨ta', tc', xa, xc, by rw [HTN.out.1] at hw7; exact hw7, ?_, hda.kept hk7 (fun y hy => hb1 y (by have := hdf y hy; omega)), fun y hy => ?_, hk7'⟩
      · have h1 : SlStrs w5 (.slice ta' mm.tops.length tc') mm.tops := ⟨⟨_, _, rfl⟩, htv'⟩
        have h2 := (h1.kept hk6 (by simp)).kept hk7 (fun y hy => hb1 y (by have := hfr5 y hy; simp only [World.size_drew] at this; omega))
        rw [HTN.out.1] at h2
        exact h2
      · simp only [List.mem_append, Option.mem_toList] at hy
        rcases hy with hy | hy
        · have := hfr5 y (by rw [HTN.out.1]; exact hy); simp only [World.size_drew] at this; omega
        · have := hdf y hy; omega
  case rest =>
    obtain ⟨ta', tc', xa, xc, hR5, htv5, hdv5, hfr5, hk5⟩ := hcut
    obtain ⟨x0, x1, x2, x4, x5⟩ := HS.out _ hk5
    have HC5 := Lib.hid (And.intro hR5 (And.intro htv5 (And.intro hdv5 (And.intro hfr5 hk5)))); clear hR5 htv5 hdv5 hfr5 hk5
    go_upto_if 49 with fail
    generalize hrs : (if ra.isSome then mm.rack else ⟨#[]⟩) = rs
    have HRS := Lib.hid hrs; clear hrs
    go_cut [] (fun wx => wx.heap[b + 1]? = some (.cells #[.string ⟨#[]⟩, .int .i16 mm.ver, .slice ta' tn tc', .slice xa dn xc, .slice none 0 0, .int .i32 gv, .string rs, .bool ra.isSome] 30 (0, 0)) ∧ Kept [b + 1] wc wx)
    case first =>
      cases ra with
      | none =>
        go_wp2_with fail
        go_meet
        refine ⟨?_, Kept.refl _ _⟩
        rw [← HRS.out]; exact HC5.out.1
      | some a =>
        rcases HM.out.2.2.2.2.1 with ⟨e, _⟩ | ⟨gR, oR, st, e1, e2, e3⟩
        · cases e
        cases e1
        have hst : st = mm.rack := by
          split at e2
          · split at e2
            · exact (Option.some.inj e2).symm
            · cases e2
          · cases e2
        subst hst
        have hgR := HM.out.2.2.2.2.2.2.1 _ rfl
        simp only at hgR
        have cr := HC5.out.2.2.2.2.cell e3 (by simp; omega)
        have c6 := (cells_of HC5.out.1).1 6 _ rfl
        have z6 := (cells_of HC5.out.1).2 6
        have hw := row_set HC5.out.1 6 (.string mm.rack)
        have HW := Lib.hid hw; clear hw e2 e3
        go_wp2_with fail
        go_meet
        refine ⟨?_, (Kept.refl _ _).setCell _ (by simp)⟩
        have h := HW.out
        rw [← HRS.out]
        exact h
    case rest =>
      obtain ⟨hR6, hk6⟩ := hcut
      have hk36 : Kept [b + 1] W3 wc := HC5.out.2.2.2.2.trans hk6 (fun _ h => h) (fun _ h _ => h)
      have x3 : wc.cell? ⟨X, 3, none⟩ = some (.slice oa OL.length oc) := (cells_of (hk36.heap HM.out.1 (by simp; omega))).1 3 _ rfl
      have hstb : ∀ w', Kept [b + 1] wc w' → SlStrs w' (.slice ta' tn tc') mm.tops ∧ SlAt w' 1 (.slice xa dn xc) dn mm.data ∧ SlAt w' 1 (.slice oa OL.length oc) OL.length (ptrsO OL) ∧ (∀ x ∈ OL, OwAt w' x) := fun w' kw => by
        have hb1 : ∀ y, W3.heap.size ≤ y → y ∉ [b + 1] := fun y hy => by simp; omega
        have hb2 : ∀ y ∈ (Value.slice oa OL.length oc).ownBlock.toList ++ footO OL, y ∉ [b + 1] := fun y hy => by
          have := HM.out.2.2.2.2.2.1 y (by simp only [List.mem_append] at hy ⊢; rcases hy with hy | hy; exact .inl (.inr hy); exact .inr hy)
          simp; omega
        have hk5w := hk6.trans kw (U := [b + 1]) (fun _ h => h) (fun _ h _ => h)
        have hk3w := hk36.trans kw (U := [b + 1]) (fun _ h => h) (fun _ h _ => h)
        refine ⟨HC5.out.2.1.kept hk5w (fun y hy => hb1 y (HC5.out.2.2.2.1 y (by simp [hy]))), HC5.out.2.2.1.kept hk5w (fun y hy => hb1 y (HC5.out.2.2.2.1 y (by simp [hy]))), HM.out.2.2.1.kept hk3w (fun y hy => hb2 y (by simp [hy])), ?_⟩
        exact (Rs.ows OL).stable _ _ _ hk3w (fun y hy => hb2 y (by simp only [List.mem_append]; right; exact hy)) HM.out.2.2.2.1
      have HS6 := Lib.hid (And.intro hstb (And.intro hR6 hk36)); clear hstb hR6 hk36 hk6 x0 x1 x2 x4 x5
      have hbl : b + 1 < wc.heap.size := lt_of_heap HS6.out.2.1
      generalize hon : OL.length = on at *
      have HON := Lib.hid hon; clear hon
      have hon10 : on ≤ 10 := by
        have h2 := congrArg List.length HM.out.2.1
        have h3 := HF.out.1.owned.2
        have h4 := HON.out
        simp only [ow2, List.length_map] at h2
        split at h2
        · rw [List.length_map] at h2; omega
        · have h5 : OL.length = 0 := by simpa using h2
          omega
      go_wp2_with fail
      go_loopw [62] (fun i wr => ∃ (k : Nat) (L : List Shr) (v : Value), i = .int .i64 k ∧ k ≤ on ∧ L.map owOf = ow2 (OL.take k) ∧ (∀ x ∈ L, x.mem = ⟨#[]⟩) ∧ Own wc.heap.size wr [Rs.shs L, Rs.row 33 3 v L.length (L.flatMap shrCells)] ∧
        wr.heap[b + 1]? = some (.cells #[.string ⟨#[]⟩, .int .i16 mm.ver, .slice ta' tn tc', .slice xa dn xc, v, .int .i32 gv, .string rs, .bool ra.isSome] 30 (0, 0)) ∧ Kept [b + 1] wc wr) (fun i _ => on - (intOf i).toNat)
      case atStart =>
        refine ⟨0, [], .slice none 0 0, rfl, Nat.zero_le _, rfl, by simp, ⟨fun T hT => ?_, fun T hT y hy => ?_, by simp [Rs.shs, Rs.row]⟩, HS6.out.2.1, Kept.refl _ _⟩
        · simp only [List.mem_cons, List.not_mem_nil, or_false] at hT
          rcases hT with rfl | rfl
          · intro x hx; simp at hx
          · exact own_nil _ _
        · simp only [List.mem_cons, List.not_mem_nil, or_false] at hT
          rcases hT with rfl | rfl
          · simp [Rs.shs] at hy
          · simp [Rs.row, Value.ownBlock] at hy
      case round =>
        obtain ⟨k, L, v, rfl, hk, hL, hmem, hown, hRr, hkr⟩ := hrel
        by_cases hlt : k < on
        · obtain ⟨x, hkx⟩ : ∃ x, OL[k]? = some x := ⟨_, List.getElem?_eq_getElem (by have := HON.out; omega)⟩
          have hxm := List.mem_of_getElem? hkx
          obtain ⟨_, _, hso, how⟩ := HS6.out.1 wr hkr
          obtain ⟨_, hcase⟩ := hso.cases
          rcases hcase with ⟨_, h0, _⟩ | ⟨go, oo, hva, hcell⟩
          · omega
          cases hva
          have cx := hcell k (.pointer (some ⟨x.2.1, 0, none⟩)) (by simp [ptrsO, hkx])
          obtain ⟨hxh, hxi⟩ := how x hxm
          obtain ⟨top, q, pv, parts⟩ := x
          simp only at hxh hxi cx
          obtain ⟨pa, pc, rfl⟩ := hxi.1
          have q0 := (cells_of hxh).1 0 _ rfl
          have q1 := (cells_of hxh).1 1 _ rfl
          have r4 := (cells_of hRr).1 4 _ rfl
          have hpl : parts.length ≤ 20 := by
            have h1 : (top, parts) ∈ ow2 OL := List.mem_map.2 ⟨_, hxm, rfl⟩
            rw [HM.out.2.1] at h1
            split at h1
            · obtain ⟨z, hz, ez⟩ := List.mem_map.1 h1
              have := (HF.out.1.owned.1 z hz).2.2
              have e : z.parts = parts := congrArg Prod.snd ez
              rw [← e]; exact this
            · simp at h1
          have hcl2 := fun w' (k' : Kept [] wr w') => clone_i32 _ _ w' (SlInts.kept hxi k' (by simp)) (by omega)
          have HCL2 := Lib.hid hcl2; clear hcl2
          have hrow := hown.ok (Rs.row 33 3 v L.length (L.flatMap shrCells)) (by simp)
          have hlo := hown.lo (Rs.row 33 3 v L.length (L.flatMap shrCells)) (by simp)
          have hne : ∀ y, v.ownBlock = some y → wc.heap.size ≤ y ∧ y < wr.heap.size ∧ y ≠ b + 1 := fun y hy => by have := hlo y (by simp [Rs.row, hy]); omega
          have hLl : L.length ≤ 100 := by
            have := congrArg List.length hL
            simp only [ow2, List.length_map, List.length_take] at this
            omega
          have hwr := hkr.size
          have HROW := Lib.hid hrow; clear hrow
          have HNE := Lib.hid hne; clear hne
          have HI := Lib.hid (And.intro hkx (And.intro hL (And.intro hmem (And.intro hown (And.intro hRr hkr))))); clear hkx hL hmem hown hRr hkr hlo
          have HXH := Lib.hid hxh; clear hxh hxi hso how hcell hxm
          have hq : q < wr.heap.size := lt_of_heap HXH.out
          generalize parts.length = pn at *
          go_upto_block 1 with fail
          go_cut [] (fun wx => ∃ (L2 : List Shr) (v2 : Value), L2.map owOf = ow2 (OL.take (k + 1)) ∧ (∀ x ∈ L2, x.mem = ⟨#[]⟩) ∧ Own wc.heap.size wx [Rs.shs L2, Rs.row 33 3 v2 L2.length (L2.flatMap shrCells)] ∧
            wx.heap[b + 1]? = some (.cells #[.string ⟨#[]⟩, .int .i16 mm.ver, .slice ta' tn tc', .slice xa dn xc, v2, .int .i32 gv, .string rs, .bool ra.isSome] 30 (0, 0)) ∧ Kept [b + 1] wc wx)
          case first =>
            go_upto_region 10 with fail
            go_region_law
              (first
                | (go_simp
                   go_at_call 62
                   refine (HCL2.out _ (Kept.refl [] wr).drew).mono ?_
                   rintro e w5 ⟨v1, rfl, hsl1, hk1, hg1', ⟨a1, c1, rfl, hc1⟩⟩
                   have hk1' : Kept [] wr w5 := hk1.of_drew
                   have r41 : w5.cell? ⟨b + 1, 4, none⟩ = some v := hk1'.cell r4 (by simp)
                   have q01 : w5.cell? ⟨q, 0, none⟩ = some (.string top) := hk1'.cell q0 (by simp)
                   have r4a : ∀ o, (w5.alloc o).cell? ⟨b + 1, 4, none⟩ = some v := fun o => ca r41
                   go_wp2_with fail)
                | (refine sl_app (v := v) rfl rfl elSh rfl rfl (own_kept HROW.out (hk1'.alloc _) (by simp)) ((new_sl3 _ _ _ _ _ rfl).src Tryz.underlying23) (by omega) (by omega) ?_
                   intro v' w7 hown7 hk7 hd7
                   have hk17 : Kept v.ownBlock.toList wr w7 := (hk1'.alloc _).trans hk7 (by simp) (fun y hy _ => hy)
                   have hR7 := hk17.heap HI.out.2.2.2.2.1 (fun h => (HNE.out _ (by simpa using h)).2.2 rfl)
                   have r47 : w7.cell? ⟨b + 1, 4, none⟩ = some v := (cells_of hR7).1 4 _ rfl
                   have z47 : w7.frozen? ⟨b + 1, 4, none⟩ = false := (cells_of hR7).2 4
                   have HR7 := Lib.hid hR7; clear hR7
                   obtain ⟨va', vn', vc', rfl⟩ := own_form hown7)
                | fail)
            all_goals
              have hX4 := row_set HR7.out 4 (.slice va' vn' vc')
              have hend := shs_snoc HI.out.2.2.2.1 (by omega) hk1' hsl1 (fun y hy => by have := hg1' y hy; simp only [World.size_drew] at this; exact this) ((Kept.refl [] w5).alloc _) hown7 hk7 hd7
              have hkst : Kept [b + 1] w7 (w7.setCell ⟨b + 1, 4, none⟩ (.slice va' vn' vc')) := (Kept.refl _ _).setCell _ (by simp)
              have hend2 := hend.kept hkst (by simp; omega)
              have hkf : Kept [b + 1] wc (w7.setCell ⟨b + 1, 4, none⟩ (.slice va' vn' vc')) := (HI.out.2.2.2.2.2.trans hk17 (U := [b + 1]) (fun _ h => h) (fun y hy hl => by have := HNE.out y (by simpa using hy); omega)).trans hkst (fun _ h => h) (fun _ h _ => h)
              have HE := Lib.hid (And.intro hend2 (And.intro hX4 hkf)); clear hend hend2 hX4 hkf
              go_wp2_with fail
              go_meet
              refine ⟨_, _, ?_, ?_, HE.out.1, HE.out.2.1, HE.out.2.2⟩
              · obtain ⟨hk', hx'⟩ := List.getElem?_eq_some_iff.1 HI.out.1
                rw [List.map_append, HI.out.2.1, List.take_succ_eq_append_getElem hk', hx']
                simp [ow2, owOf]
              · intro y hy
                rcases List.mem_append.1 hy with hy | hy
                · exact HI.out.2.2.1 y hy
                · simp only [List.mem_cons, List.not_mem_nil, or_false] at hy
                  subst hy; rfl
          case rest =>
            obtain ⟨L2, v2, e1, e2, e3, e4, e5⟩ := hcut
            have HE := Lib.hid (And.intro e1 (And.intro e2 (And.intro e3 (And.intro e4 e5)))); clear e1 e2 e3 e4 e5
            go_wp2_with fail
            go_roundw
            case rel => exact ⟨k + 1, L2, v2, by go_num, by omega, HE.out.1, HE.out.2.1, HE.out.2.2.1, HE.out.2.2.2.1, HE.out.2.2.2.2⟩
            case measure => simp [intOf]; omega
        · have hkon : OL.take k = OL := List.take_of_length_le (by have := HON.out; omega)
          rw [hkon] at hL
          obtain ⟨st1, st2, _, _⟩ := HS6.out.1 wr hkr
          have hrow := hown.ok (Rs.row 33 3 v L.length (L.flatMap shrCells)) (by simp)
          have hsh := hown.ok (Rs.shs L) (by simp)
          have hl1 := hown.lo (Rs.shs L) (by simp)
          have hl2 := hown.lo (Rs.row 33 3 v L.length (L.flatMap shrCells)) (by simp)
          obtain ⟨va, vn, vc, rfl⟩ := own_form hrow
          obtain rfl := own_len hrow
          have hkW : Kept [b + 1] W3 wr := HS6.out.2.2.trans hkr (fun _ h => h) (fun _ h _ => h)
          have hkw : Kept [b + 1, b + 2] w wr := HM.out.2.2.2.2.2.2.2.trans hkW (fun x hx => by simp at hx; simp [hx]) (fun x hx _ => by simp at hx; simp [hx])
          have hW3w := HM.out.2.2.2.2.2.2.2.size
          have hwcs := HS6.out.2.2.size
          have hsome : 3 ≤ mm.ver → ra.isSome = mm.has := fun h3 => by
            rcases HM.out.2.2.2.2.1 with ⟨e, e2⟩ | ⟨gR, oR, st, e1, e2, e3⟩
            · cases e
              rw [if_pos h3] at e2
              cases hh : mm.has with
              | false => rfl
              | true => rw [hh] at e2; simp at e2
            · cases e1
              rw [if_pos h3] at e2
              cases hh : mm.has with
              | false => rw [hh] at e2; simp at e2
              | true => rfl
          have hfinal : ∃ c, wr.heap[b + 1]? = some (.cells c 30 (0, 0)) ∧ MemGot wr w.heap.size mm c ∧ wr.cell? ⟨b + 2, 0, none⟩ = some (.bool true) ∧ wr.frozen? ⟨b + 2, 0, none⟩ = false ∧ Kept [b + 1, b + 2] w wr := by
            refine ⟨_, hRr, ⟨⟨⟨#[]⟩, mm.ver, .slice ta' tn tc', mm.tops, .slice xa dn xc, mm.data, .slice va L.length vc, L, gv, rs, ra.isSome⟩, rfl, ⟨⟨⟨_, _, by rw [HTN.out.1]⟩, st1.2⟩, ⟨⟨xa, xc, by rw [HTN.out.2]⟩, ?_⟩, ⟨⟨_, _, rfl⟩, own_sl hrow (shrCells_one hsh), hsh⟩⟩, rfl, rfl, rfl, fun h1 => ⟨?_, hmem⟩, fun h2 => ?_, fun h3 => ⟨hsome h3, fun hh => ?_, fun hh => ?_⟩, fun y hy => ?_⟩, hkW.cell q4 (by simp), hkW.frz y4 (by simp; omega) (by simp), hkw⟩
            · rw [HTN.out.2]; exact st2
            · show L.map owOf = _
              rw [hL, HM.out.2.1, if_pos h1]
            · show gv = _
              rw [← HGV.out, if_pos h2]
            · show rs = _
              rw [← HRS.out, hsome h3, hh]; rfl
            · show rs = _
              rw [← HRS.out, hsome h3, hh]; rfl
            · simp only [List.mem_append] at hy
              rcases hy with ((hy | hy) | hy) | hy
              · have := HC5.out.2.2.2.1 y (by simp only [List.mem_append]; exact .inl hy); omega
              · have := HC5.out.2.2.2.1 y (by simp only [List.mem_append]; exact .inr hy); omega
              · have := hl2 y hy; omega
              · have := hl1 y hy; omega
          have HFI := Lib.hid hfinal; clear hfinal hRr hL hmem hown hrow hsh hl1 hl2 st1 st2 hkW hkw hkon hkr
          go_wp2_with fail
          go_end0
          exact ⟨rfl, HFI.out⟩
end Go.Proofs.YticcnlpfmekagaaGreat
