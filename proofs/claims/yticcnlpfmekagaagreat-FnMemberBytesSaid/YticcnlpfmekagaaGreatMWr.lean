import Derived.Test.YticcnlpfmekagaaGreatMEnc
import Derived.Test.YticcnlpfmekagaaGreatMeta3
import Derived.Test.YticcnlpfmekagaaGreatAsgE2
import Derived.Test.YticcnlpfmekagaaGreatMRead
import Derived.Test.YticcnlpfmekagaaGreatSafe
namespace Go.Proofs.YticcnlpfmekagaaGreat
open Go Go.Proofs Go.RowKit
set_option linter.unusedVariables false
set_option linter.unusedSimpArgs false

/-! ## MemberBytes -/

theorem noFlex109 : NoFlex 109 := fun a w => run_typeAssert_lacksB Tryz.underlying242 (by kernel_rfl) (by kernel_rfl) _ _ _
theorem memEncMeth : IsMeth 109 "pub-kestrel/pub/sarama.encode" 155 := ⟨fun _ _ => by kernel_rfl, fun _ _ => by kernel_rfl, fun _ _ => by kernel_rfl⟩
theorem infoGp : (Tryz.prog.info? 113).map (fun i => (i.zero, i.size, i.bytes)) = some (some (.pointer none), 1, 8) := by kernel_rfl
theorem elGp : Elem Tryz.prog 105 113 1 8 (.pointer none) := ⟨Tryz.underlying105, info_parts infoGp, rfl, by omega⟩

set_option maxRecDepth 100000 in
set_option maxHeartbeats 1000000 in
theorem addProto_any (p : Nat) (nm : ByteArray) (a : Option Addr) (n c : Nat) (w : World) (hc : w.cell? ⟨p, 8, none⟩ = some (.slice none 0 0)) (hf : w.frozen? ⟨p, 8, none⟩ = false) :
    Calls Tryz.prog 81 #[.pointer (some ⟨p, 0, none⟩), .string nm, .slice a n c] w fun e w' => e = .returned (.tuple #[]) ∧ ∃ g k q, w.heap.size ≤ g ∧ w.heap.size ≤ q ∧ w'.cell? ⟨p, 8, none⟩ = some (.slice (some ⟨g, 0, none⟩) 1 k) ∧ w'.cell? ⟨g, 0, none⟩ = some (.pointer (some ⟨q, 0, none⟩)) ∧ w'.cell? ⟨q, 1, none⟩ = some (.slice a n c) ∧ Kept [p] w w' := by
  have hp := World.block_lt_of_cell? w _ hc
  simp only at hp
  have hk0 : ∀ o o', Kept [] w ((w.alloc o).alloc o') := fun o o' => ((Kept.refl _ _).alloc o).alloc o'
  have HK := Lib.hid hk0; clear hk0
  have hsrc : ∀ o, Src Tryz.prog 1 105 (.slice (some ⟨w.heap.size + 1, 0, none⟩) 1 1) 1 [Value.pointer (some ⟨w.heap.size, 0, none⟩)] ((w.alloc o).alloc (.cells #[.pointer (some ⟨w.heap.size, 0, none⟩)] 113)) := fun o => by
    have h := (new_sl1 (w.alloc o) 113 (.pointer (some ⟨w.heap.size, 0, none⟩)) rfl).src (P := Tryz.prog) Tryz.underlying105
    rwa [World.size_alloc] at h
  have HS := Lib.hid hsrc; clear hsrc
  go_enter Tryz.func81, Tryz.ntmps81
  go_wp2_with (first
    | (refine wl_app (v := .slice none 0 0) rfl rfl elGp rfl rfl (own_nil 113 1) (HS.out _) (by omega) (by omega) ?_
       intro v' w1 hown hk hd
       obtain ⟨va, vn, vc, rfl⟩ := own_form hown
       have hk1 : Kept [] w w1 := (HK.out _ _).trans hk (by simp) (by simp [Value.ownBlock])
       have c1 := hk1.cell hc (by simp)
       have f1 := hk1.frz hf (by simpa using hp) (by simp))
    | fail)
  go_end0
  have hq1 := (hk.heap (ha (heap_alloc_new w (.cells #[.string nm, .slice a n c] 112))) (by simp [Value.ownBlock]))
  have hcell := own_sl hown (by simp [Value.oneCell'])
  rcases hown.2 with ⟨e1, e2⟩ | ⟨g, cap, cur, e1, _, hg, hn1, hn2, hn3, hn4⟩
  · omega
  · cases e1
    have hgg : g = w.heap.size + 2 := by
      rcases hd with ⟨h1, h2⟩ | ⟨h1, h2⟩
      · simp [Value.ownBlock] at h1
      · simp [Value.ownBlock] at h1; omega
    have hc0 := SlAt.cell (b := g) (off := 0) (j := 0) (u := .pointer (some ⟨w.heap.size, 0, none⟩)) (by simpa using hcell) (by simp)
    have hk2 : Kept [p] w w1 := hk1.mono (by simp)
    have hk3 : Kept [p] w1 (w1.setCell ⟨p, 8, none⟩ (.slice (some ⟨g, 0, none⟩) (0 + 1) vc)) := (Kept.refl _ _).setCell _ (by simp)
    refine ⟨rfl, g, vc, w.heap.size, by omega, Nat.le_refl _, by simp [go_sem, c1], hk3.cell (by simpa using hc0) (by simp; omega), hk3.cell ((cells_of hq1).1 1 _ rfl) (by simp; omega), hk2.setCell _ (by simp)⟩

/-- metadata in a block of their own -/
theorem meta_enc {w : World} {m : Mem} {u : Value} {lo : Nat} (h : MetaF w lo m u) : ∃ tv dv ov ra OL, u = .agg #[.int .i16 m.ver, tv, dv, ov, .int .i32 m.gen, .pointer ra] ∧ (∀ g ∈ tv.ownBlock.toList ++ dv.ownBlock.toList ++ footO OL ++ ov.ownBlock.toList, g < w.heap.size) ∧ (∀ a, ra = some a → a.block < w.heap.size) ∧
    ∀ w', Kept [] w w' → ∀ b, w'.heap[b]? = some (.cells #[.int .i16 m.ver, tv, dv, ov, .int .i32 m.gen, .pointer ra] 78 (0, 0)) → EncIn w' b m tv dv ov (.pointer ra) OL := by
  obtain ⟨tv, dv, ov, ra, OL, rfl, h1, h2, h3, h4⟩ := h
  have hs := h2.ok (Rs.stuff tv m.tops dv m.data OL) (by simp)
  have hr := h2.ok (Rs.row 119 1 ov OL.length (ptrsO OL)) (by simp)
  have l1 := h2.lo (Rs.stuff tv m.tops dv m.data OL) (by simp)
  have l2 := h2.lo (Rs.row 119 1 ov OL.length (ptrsO OL)) (by simp)
  have hpt : PStr w (.pointer ra) (if m.has then some m.rack else none) := by
    cases hh : m.has with
    | false => exact .inl ⟨by rw [h3 hh], rfl⟩
    | true =>
      obtain ⟨b, e, _, hc⟩ := h4 hh
      exact .inr ⟨b, 0, m.rack, by rw [e], rfl, hc⟩
  refine ⟨tv, dv, ov, ra, OL, rfl, fun g hg => ?_, fun a ha' => ?_, fun w' k b hb => ⟨hb, hs.1.kept k (by simp), hs.2.1.kept k (by simp), h1, fun x hx => ⟨k.heap (hs.2.2 x hx).1 (by simp), (hs.2.2 x hx).2.kept k (by simp)⟩, own_kept hr k (by simp), ?_⟩⟩
  · simp only [List.mem_append] at hg
    rcases hg with ((hg | hg) | hg) | hg
    · exact (l1 g (by simp only [Rs.stuff, List.mem_append]; exact .inl (.inl hg))).2
    · exact (l1 g (by simp only [Rs.stuff, List.mem_append]; exact .inl (.inr hg))).2
    · exact (l1 g (by simp only [Rs.stuff, List.mem_append]; exact .inr hg)).2
    · exact (l2 g hg).2
  · subst ha'
    rcases hpt with ⟨e, _⟩ | ⟨g, off, st, e, _, hc⟩
    · cases e
    · cases e
      exact World.block_lt_of_cell? w _ hc
  · rcases hpt with h | ⟨g, off, st, e, e2, hc⟩
    · exact .inl h
    · exact .inr ⟨g, off, st, e, e2, k.cell hc (by simp)⟩

set_option maxRecDepth 100000 in
set_option maxHeartbeats 1000000 in
theorem addMeta_any (p m : Nat) (nm : ByteArray) (mm : Mem) (tv dv ov : Value) (ra : Option Addr) (OL : List OwT) (w : World) (hc : w.cell? ⟨p, 8, none⟩ = some (.slice none 0 0)) (hf : w.frozen? ⟨p, 8, none⟩ = false)
    (hin : EncIn w m mm tv dv ov (.pointer ra) OL) (hlt : ∀ g ∈ encFoot m tv dv ov (.pointer ra) OL, g < w.heap.size) (hft : MemFit mm) (hgen : isI32 mm.gen) :
    Calls Tryz.prog 57 #[.pointer (some ⟨p, 0, none⟩), .string nm, .pointer (some ⟨m, 0, none⟩)] w fun e w' => e = .returned .nilIface ∧ ∃ g k q rb, w.heap.size ≤ g ∧ w.heap.size ≤ q ∧ w.heap.size ≤ rb ∧ w'.cell? ⟨p, 8, none⟩ = some (.slice (some ⟨g, 0, none⟩) 1 k) ∧ w'.cell? ⟨g, 0, none⟩ = some (.pointer (some ⟨q, 0, none⟩)) ∧
      w'.cell? ⟨q, 1, none⟩ = some (.slice (some ⟨rb, 0, none⟩) (memBytes mm).length (memBytes mm).length) ∧ Buf w' rb (memBytes mm) ∧ Kept [p] w w' := by
  have hp := World.block_lt_of_cell? w _ hc
  simp only at hp
  obtain ⟨hle, hge⟩ := memBytes_le mm hft
  have he := encode2_any 109 155 ⟨m, 0, none⟩ memEncMeth noFlex109 w (fun bs => bs = memBytes mm) (memBytes mm).length (fun bs e => by rw [e]) (by omega) (by
    intro s w' hk hown hst hmax
    have hno : ∀ g ∈ encFoot m tv dv ov (.pointer ra) OL, g ∉ s.own := fun g hg h => by have := hown g h; have := hlt g hg; omega
    refine (mem_encode s m mm tv dv ov (.pointer ra) OL w' hst (hin.kept hk (by simp)) hft hgen hmax hno).mono ?_
    rintro e w'' ⟨rfl, h1, h2⟩
    exact ⟨rfl, _, rfl, h1, h2⟩)
  have HE := Lib.hid he; clear he hin hlt hle hge
  generalize (memBytes mm).length = len at *
  go_enter Tryz.func57, Tryz.ntmps57
  go_wp2_with (first
    | (go_at_call 80
       refine HE.out.mono ?_
       rintro e w1 ⟨rb, bs, rfl, hbs, hbuf, hk1, hrb⟩
       have HBS := Lib.hid (And.intro hbs hbuf); clear hbs hbuf
       have c1 := hk1.cell hc (by simp)
       have f1 := hk1.frz hf (by simpa using hp) (by simp))
    | (go_at_call 81
       refine (addProto_any p nm _ _ _ w1 c1 f1).mono ?_
       rintro e w2 ⟨rfl, g, k, q, hg, hq, c2, c3, c4, hk2⟩)
    | fail)
  go_ret
  have hs1 := hk1.size
  obtain ⟨hbs, hbuf⟩ := HBS.out
  subst hbs
  have hbl := lt_of_heap hbuf
  exact ⟨rfl, g, k, q, rb, by omega, by omega, hrb, c2, c3, c4, by unfold Buf at *; exact hk2.heap hbuf (by simp; omega), hk1.trans hk2 (by simp) (by simp)⟩

theorem mem_all_one (m : Mem) (h : ∀ u ∈ m.data, u.oneCell' = true) : ∀ u ∈ memBytes m, u.oneCell' = true := by
  intro u hu
  unfold memBytes ownB genB rackB specData at hu
  have hstr : ∀ x : ByteArray, ∀ u ∈ encStr x, u.oneCell' = true := fun x u hu => by
    rcases List.mem_append.1 hu with hu | hu
    · exact be16_one _ u hu
    · exact byteCells_one _ u hu
  simp only [List.mem_append] at hu
  rcases hu with (((((hu | hu) | hu) | hu) | hu) | hu) | hu
  · exact be16_one _ u hu
  · exact be32_one _ u hu
  · obtain ⟨x, _, hx⟩ := List.mem_flatMap.1 hu; exact hstr x u hx
  · split at hu
    · exact be32_one _ u hu
    · rcases List.mem_append.1 hu with hu | hu
      · exact be32_one _ u hu
      · exact h u hu
  · split at hu
    · rcases List.mem_append.1 hu with hu | hu
      · exact be32_one _ u hu
      · obtain ⟨x, _, hx⟩ := List.mem_flatMap.1 hu
        rcases List.mem_append.1 hx with hx | hx
        · exact hstr _ u hx
        · rcases List.mem_append.1 hx with hx | hx
          · exact be32_one _ u hx
          · exact be32s_one _ u hx
    · simp at hu
  · split at hu
    · exact be32_one _ u hu
    · simp at hu
  · split at hu
    · split at hu
      · exact hstr _ u hu
      · simp at hu; subst hu; rfl
    · simp at hu

set_option maxRecDepth 100000 in
set_option maxHeartbeats 4000000 in
theorem memberBytes_closure (b : Nat) (m : Mem) (w : World) (hm : MemAt w m) (hb : w.heap[b]? = some (.cells (memCells m).toArray 30 (0, 0))) (hc3 : w.cell? ⟨b + 1, 0, none⟩ = some (.slice none 0 0)) (hc4 : w.cell? ⟨b + 2, 0, none⟩ = some (.bool false)) (hz : w.frozen? ⟨b + 1, 0, none⟩ = false ∧ w.frozen? ⟨b + 2, 0, none⟩ = false) (hlt : b + 2 < w.heap.size)
    (hf : MemFit m) (hgen : isI32 m.gen) :
    Calls Tryz.prog 56 #[.pointer (some ⟨b, 0, none⟩), .pointer (some ⟨b + 1, 0, none⟩), .pointer (some ⟨b + 2, 0, none⟩)] w fun e w' =>
      e = .returned (.tuple #[]) ∧ ∃ g c, w'.cell? ⟨b + 1, 0, none⟩ = some (.slice (some ⟨g, 0, none⟩) (memBytes m).length c) ∧ w'.cell? ⟨b + 2, 0, none⟩ = some (.bool true) ∧ w'.frozen? ⟨b + 1, 0, none⟩ = false ∧ w'.frozen? ⟨b + 2, 0, none⟩ = false ∧
        SlAt w' 1 (.slice (some ⟨g, 0, none⟩) (memBytes m).length c) (memBytes m).length (memBytes m) ∧ w.heap.size ≤ g ∧ (memBytes m).length ≤ c ∧ Kept [b + 1, b + 2] w w' := by
  have hmd := fun w' (k : Kept [] w w') => metadata_full m w' ⟨hm.tops.kept k (by simp), ⟨hm.data.1, hm.data.2.kept k (by simp)⟩, hm.owned.kept k (by simp) (by simp)⟩ (by have := hf.tops.1; omega) (by have := hf.data; omega) (by have := hf.owned.2; omega) (fun x hx => by have := (hf.owned.1 x hx).2.2; omega)
  have hone := mem_all_one m hm.data.2.2.1
  have HONE := Lib.hid hone; clear hone
  obtain ⟨ta, tc, da, dc, oa, oc, e, ht, hd, ho⟩ := mcs_form hm
  rw [e] at hb hmd
  unfold mcs at hb hmd
  have hB := fun w' (k : Kept [] w w') => (cells_of (k.heap hb (by simp))).1
  have HMD := Lib.hid hmd; clear hmd
  clear ht hd ho hm e
  have q0 := hB _ ((Kept.refl [] w).alloc (.cells #[.int .i32 0] 107))
  clear q0
  obtain ⟨hle, hge⟩ := memBytes_le m hf
  go_enter Tryz.func56, Tryz.ntmps56
  go_upto_region 1 with fail
  have hkM : Kept [] w (w.alloc (.cells #[.int .i16 0, .string ⟨#[]⟩, .int .i32 0, .int .i32 0, .string ⟨#[]⟩, .pointer none, .string ⟨#[]⟩, .map none, .slice none 0 0, .pointer none] 107)) := (Kept.refl _ _).alloc _
  have hMh := heap_alloc_new w (.cells #[.int .i16 0, .string ⟨#[]⟩, .int .i32 0, .int .i32 0, .string ⟨#[]⟩, .pointer none, .string ⟨#[]⟩, .map none, .slice none 0 0, .pointer none] 107)
  have hMs : (w.alloc (.cells #[.int .i16 0, .string ⟨#[]⟩, .int .i32 0, .int .i32 0, .string ⟨#[]⟩, .pointer none, .string ⟨#[]⟩, .map none, .slice none 0 0, .pointer none] 107)).heap.size = w.heap.size + 1 := by simp
  generalize (w.alloc (.cells #[.int .i16 0, .string ⟨#[]⟩, .int .i32 0, .int .i32 0, .string ⟨#[]⟩, .pointer none, .string ⟨#[]⟩, .map none, .slice none 0 0, .pointer none] 107)) = M at *
  have hc := hB M hkM
  obtain ⟨c0, c1, c2, c3, c4, c5, c6, c7⟩ : M.cell? ⟨b, 0, none⟩ = some (.string m.id) ∧ M.cell? ⟨b, 1, none⟩ = some (.int .i16 m.ver) ∧ M.cell? ⟨b, 2, none⟩ = some (.slice ta m.tops.length tc) ∧ M.cell? ⟨b, 3, none⟩ = some (.slice da m.data.length dc) ∧ M.cell? ⟨b, 4, none⟩ = some (.slice oa m.owned.length oc) ∧ M.cell? ⟨b, 5, none⟩ = some (.int .i32 m.gen) ∧ M.cell? ⟨b, 6, none⟩ = some (.string m.rack) ∧ M.cell? ⟨b, 7, none⟩ = some (.bool m.has) :=
    ⟨hc 0 _ rfl, hc 1 _ rfl, hc 2 _ rfl, hc 3 _ rfl, hc 4 _ rfl, hc 5 _ rfl, hc 6 _ rfl, hc 7 _ rfl⟩
  have HMH := Lib.hid hMh; clear hMh hc
  have HBB := Lib.hid hB; clear hB
  have HF := Lib.hid (And.intro hf hgen); clear hf hgen
  go_upto_region 2 with (first
    | (go_at_call 45
       refine (HMD.out _ hkM).mono ?_
       rintro e w1 ⟨u, rfl, hme, hk1⟩
       obtain ⟨tv, dv, ov, ra, OL, rfl, hlt1, hlt2, henc⟩ := meta_enc hme
       have hforms : (∃ a n c, tv = .slice a n c) ∧ (∃ a n c, dv = .slice a n c) ∧ (∃ a n c, ov = .slice a n c) := by
         obtain ⟨tv', dv', ov', ra', OL', e', _, ho', _, _⟩ := hme
         simp only [Value.agg.injEq] at e'
         have e2 := e'
         simp at e2
         obtain ⟨rfl, rfl, rfl, rfl⟩ := e2
         have hs := ho'.ok (Rs.stuff tv m.tops dv m.data OL') (by simp)
         have hr := ho'.ok (Rs.row 119 1 ov OL'.length (ptrsO OL')) (by simp)
         obtain ⟨⟨a1, c1, h1⟩, _⟩ := hs.1
         obtain ⟨a2, c2, h2, _⟩ := hs.2.1
         obtain ⟨a3, n3, c3, h3⟩ := own_form hr
         exact ⟨⟨_, _, _, h1⟩, ⟨_, _, _, h2⟩, ⟨_, _, _, h3⟩⟩
       obtain ⟨⟨ta1, tn1, tc1, rfl⟩, ⟨da1, dn1, dc1, rfl⟩, ⟨oa1, on1, oc1, rfl⟩⟩ := hforms
       have HENC := Lib.hid (And.intro hlt1 (And.intro hlt2 henc)); clear hlt1 hlt2 henc hme)
    | fail)
  have hs1 := hk1.size
  have hk2 : Kept [] M (w1.alloc (.cells #[.int .i16 m.ver, .slice ta1 tn1 tc1, .slice da1 dn1 dc1, .slice oa1 on1 oc1, .int .i32 m.gen, .pointer ra] 78)) := hk1.alloc _
  have hin := HENC.out.2.2 (w1.alloc (.cells #[.int .i16 m.ver, .slice ta1 tn1 tc1, .slice da1 dn1 dc1, .slice oa1 on1 oc1, .int .i32 m.gen, .pointer ra] 78)) ((Kept.refl _ _).alloc _) w1.heap.size (heap_alloc_new w1 _)
  have hp8 : (w1.alloc (.cells #[.int .i16 m.ver, .slice ta1 tn1 tc1, .slice da1 dn1 dc1, .slice oa1 on1 oc1, .int .i32 m.gen, .pointer ra] 78)).cell? ⟨w.heap.size, 8, none⟩ = some (.slice none 0 0) := hk2.cell ((cells_of HMH.out).1 8 _ rfl) (by simp)
  have hpz : (w1.alloc (.cells #[.int .i16 m.ver, .slice ta1 tn1 tc1, .slice da1 dn1 dc1, .slice oa1 on1 oc1, .int .i32 m.gen, .pointer ra] 78)).frozen? ⟨w.heap.size, 8, none⟩ = false := hk2.frz ((cells_of HMH.out).2 8) (by simp; omega) (by simp)
  have h57 := addMeta_any w.heap.size w1.heap.size ⟨#[114, 97, 110, 103, 101]⟩ m _ _ _ ra OL _ hp8 hpz hin (fun g hg => by
    simp only [encFoot, List.mem_cons] at hg
    simp only [World.size_alloc]
    rcases hg with rfl | hg
    · omega
    · rcases List.mem_append.1 hg with hg | hg
      · have := HENC.out.1 g hg; omega
      · cases ra with
        | none => simp at hg
        | some a => simp at hg; have := HENC.out.2.1 a rfl; omega) HF.out.1 HF.out.2
  have H57 := Lib.hid h57; clear h57 hin hp8 hpz
  have hs2 := hk2.size
  generalize (w1.alloc (.cells #[.int .i16 m.ver, .slice ta1 tn1 tc1, .slice da1 dn1 dc1, .slice oa1 on1 oc1, .int .i32 m.gen, .pointer ra] 78)) = w2 at *
  generalize hlen : (memBytes m).length = len at *
  have HLEN := Lib.hid hlen; clear hlen
  go_wp2_with (first
    | (go_at_call 57
       refine H57.out.mono ?_
       rintro e w3 ⟨rfl, g, k, q, rb, hg, hq, hrb, p8, pg, pq, hbuf, hk3⟩
       have hsl := hbuf.sl HLEN.out HONE.out
       have hcp := copied_any _ _ _ w3 (by rw [← HLEN.out] at hsl; exact hsl) (by rw [HLEN.out]; omega) (by rw [HLEN.out]; omega)
       rw [HLEN.out] at hcp
       have HCP := Lib.hid hcp; clear hcp hsl hbuf)
    | (go_at_call 58
       refine HCP.out.mono ?_
       rintro e w5 ⟨g5, c5, rfl, hc5, hsl5, hg5, hg5', hk5⟩
       have hkw5 : Kept [] w w5 := ((hkM.trans hk2 (U := []) (by simp) (by simp)).trans hk3 (U := []) (by simp) (by simp <;> omega)).trans hk5 (by simp) (by simp)
       have e3 := hkw5.cell hc3 (by simp)
       have e4 := hkw5.cell hc4 (by simp)
       have y3 := hkw5.frz hz.1 (by simp <;> omega) (by simp)
       have y4 := hkw5.frz hz.2 (by simp <;> omega) (by simp))
    | fail)
  go_end0
  have hs3 := hk3.size
  have hkf : Kept [b + 1, b + 2] w5 ((w5.setCell ⟨b + 1, 0, none⟩ (.slice (some ⟨g5, 0, none⟩) len c5)).setCell ⟨b + 2, 0, none⟩ (.bool true)) := ((Kept.refl _ _).setCell _ (by simp)).setCell _ (by simp)
  have hsl6 := hsl5.kept hkf (fun g' hg' => by simp only [Value.ownBlock, Option.some.injEq] at hg'; simp; omega)
  have hgw : w.heap.size ≤ g5 := by omega
  rw [HLEN.out]
  refine ⟨rfl, g5, c5, by simp [go_sem, e3], by simp [go_sem, e4], by simp [go_sem, y3], by simp [go_sem, y4], hsl6, hgw, hc5, hkw5.trans hkf (by simp) (by simp)⟩

theorem hasBody56 : HasBody 56 := by unfold HasBody; intro a w; kernel_rfl

theorem MemAt.kept0 {w w' : World} {m : Mem} (h : MemAt w m) (k : Kept [] w w') : MemAt w' m := ⟨h.tops.kept k (by simp), ⟨h.data.1, h.data.2.kept k (by simp)⟩, h.owned.kept k (by simp) (by simp)⟩

set_option maxRecDepth 100000 in
set_option maxHeartbeats 2000000 in
theorem memberBytes_any (m : Mem) (w : World) (hm : MemAt w m) (hf : MemFit m) (hgen : isI32 m.gen) :
    Calls Tryz.prog 30 #[.agg (memCells m).toArray] w fun e w' => ∃ g c, e = .returned (.tuple #[.slice (some ⟨g, 0, none⟩) (memBytes m).length c, .bool true]) ∧ SlAt w' 1 (.slice (some ⟨g, 0, none⟩) (memBytes m).length c) (memBytes m).length (memBytes m) ∧ w.heap.size ≤ g ∧ Kept [] w w' := by
  have hclo : ∀ w0 : World, w0 = (((w.alloc (.cells (memCells m).toArray 30)).alloc (.cells #[.slice none 0 0] 28)).alloc (.cells #[.bool false] 4)) →
      Kept [] w w0 ∧ w0.heap.size = w.heap.size + 3 ∧ _ := fun w0 e => ⟨by subst e; exact (((Kept.refl [] w).alloc _).alloc _).alloc _, by subst e; simp,
      safe_any 56 #[.pointer (some ⟨w.heap.size, 0, none⟩), .pointer (some ⟨w.heap.size + 1, 0, none⟩), .pointer (some ⟨w.heap.size + 2, 0, none⟩)] w0
        (fun w' => ∃ g c, w'.cell? ⟨w.heap.size + 1, 0, none⟩ = some (.slice (some ⟨g, 0, none⟩) (memBytes m).length c) ∧ w'.cell? ⟨w.heap.size + 2, 0, none⟩ = some (.bool true) ∧ w'.frozen? ⟨w.heap.size + 1, 0, none⟩ = false ∧ w'.frozen? ⟨w.heap.size + 2, 0, none⟩ = false ∧
          SlAt w' 1 (.slice (some ⟨g, 0, none⟩) (memBytes m).length c) (memBytes m).length (memBytes m) ∧ w.heap.size + 4 ≤ g) [w.heap.size + 1, w.heap.size + 2] hasBody56 (by subst e; simp) (by
          have k0 : Kept [] w (w0.alloc (.cells #[.bool false] 4)) := by subst e; exact ((((Kept.refl [] w).alloc _).alloc _).alloc _).alloc _
          have hz : (w0.alloc (.cells #[.bool false] 4)).heap.size = w.heap.size + 4 := by subst e; simp
          refine (memberBytes_closure w.heap.size m (w0.alloc (.cells #[.bool false] 4)) (hm.kept0 k0) (by subst e; exact ha (ha (ha (heap_alloc_new w _)))) (by subst e; simp [go_sem]) (by subst e; simp [go_sem]) (by subst e; simp [go_sem]) (by subst e; simp) hf hgen).mono ?_
          rintro e' w' ⟨rfl, g, c, h2, h3, h4, h5, h6, h7, _, hk⟩
          rw [hz] at h7
          exact ⟨rfl, ⟨g, c, h2, h3, h4, h5, h6, h7⟩, hk⟩)⟩
  obtain ⟨hk0, hs0, hsafe⟩ := hclo _ rfl
  have HSF := Lib.hid hsafe; clear hsafe hclo
  obtain ⟨ta, tc, da, dc, oa, oc, e, _⟩ := mcs_form hm
  rw [e] at HSF hs0 hk0 ⊢
  unfold mcs at HSF hs0 hk0 ⊢
  clear e hm hf
  generalize hlen : (memBytes m).length = len at *
  have HLEN := Lib.hid hlen; clear hlen
  go_enter Tryz.func30, Tryz.ntmps30
  go_wp2_with
    (go_at_call 43
     refine (HSF.out).mono ?_
     rintro e w2 ⟨rfl, w1, ⟨g, c, c3, c4, f3, f4, hsl, hg⟩, hk1, hk2⟩
     have hs1 := hk1.size
     rw [hs0] at hk2 hs1
     have d3 : w2.cell? ⟨w.heap.size + 1, 0, none⟩ = some (.slice (some ⟨g, 0, none⟩) len c) := hk2.cell c3 (by simp)
     have d4 : w2.cell? ⟨w.heap.size + 1 + 1, 0, none⟩ = some (.bool true) := hk2.cell c4 (by simp)
     have e3 : w2.frozen? ⟨w.heap.size + 1, 0, none⟩ = false := hk2.frz f3 (by simp; omega) (by simp)
     have e4 : w2.frozen? ⟨w.heap.size + 1 + 1, 0, none⟩ = false := hk2.frz f4 (by simp; omega) (by simp)
     have hsl2 := hsl.kept hk2 (fun g' hg' => by simp only [Value.ownBlock, Option.some.injEq] at hg'; simp; omega)
     have HRES := Lib.hid hsl2; clear hsl hsl2
     clear c3 c4 f3 f4)
  have k12 : Kept [] w w2 := (hk0.trans hk1 (U := []) (by simp) (by simp <;> omega)).trans hk2 (by simp) (by simp <;> omega)
  have k3 : Kept [w.heap.size + 1, w.heap.size + 2] w2 ((w2.setCell ⟨w.heap.size + 1, 0, none⟩ (.slice (some ⟨g, 0, none⟩) len c)).setCell ⟨w.heap.size + 1 + 1, 0, none⟩ (.bool true)) :=
    ((Kept.refl _ _).setCell _ (by simp)).setCell _ (by simp)
  have hend2 := k12.trans k3 (U := []) (by simp) (by simp <;> omega)
  have hend := HRES.out.kept k3 (fun g' hg' => by simp only [Value.ownBlock, Option.some.injEq] at hg'; simp; omega)
  refine bodyPost_ret (v := .tuple #[.slice (some ⟨g, 0, none⟩) len c, .bool true]) ?_ rfl ⟨g, c, rfl, hend, by omega, hend2⟩
  simp [results, Tryz.results30, go_sem, d3, d4]
end Go.Proofs.YticcnlpfmekagaaGreat
