import Derived.Test.YticcnlpfmekagaaGreatMRead2
import Derived.Test.YticcnlpfmekagaaGreatSameM
import Derived.Test.YticcnlpfmekagaaGreatMWr
import Derived.Test.YticcnlpfmekagaaGreatOpen
namespace Go.Proofs.YticcnlpfmekagaaGreat
open Go Go.Proofs Go.RowKit
set_option linter.unusedVariables false
set_option linter.unusedSimpArgs false

theorem hasBody59 : HasBody 59 := by unfold HasBody; intro a w; kernel_rfl

theorem MemGot.kept {w w' : World} {lo : Nat} {mm : Mem} {c : Array Value} {S : List Nat} (h : MemGot w lo mm c) (k : Kept S w w') (hS : ∀ x ∈ S, x < lo) : MemGot w' lo mm c := by
  obtain ⟨x, e, hm, h1, h2, h3, h4, h5, h6, h7⟩ := h
  have hn : ∀ g ∈ x.tv.ownBlock.toList ++ x.dv.ownBlock.toList ++ x.ov.ownBlock.toList ++ x.owned.flatMap (fun y => y.val.ownBlock.toList), g ∉ S := fun g hg hs => by have := h7 g hg; have := hS g hs; omega
  simp only [List.mem_append] at hn
  refine ⟨x, e, ⟨hm.tops.kept k (fun g hg => hn g (.inl (.inl (.inl (by simp [hg]))))), ⟨hm.data.1, hm.data.2.kept k (fun g hg => hn g (.inl (.inl (.inr (by simp [hg])))))⟩, hm.owned.kept k (fun g hg => hn g (.inl (.inr (by simp [hg])))) (fun y hy g hg => hn g (.inr (List.mem_flatMap.2 ⟨y, hy, by simp [hg]⟩)))⟩, h1, h2, h3, h4, h5, h6, h7⟩

set_option maxRecDepth 100000 in
set_option maxHeartbeats 4000000 in
theorem memberRead_any (g off cap : Nat) (mm : Mem) (w : World) (hsl : SlAt w 1 (.slice (some ⟨g, off, none⟩) (memBytes mm).length cap) (memBytes mm).length (memBytes mm)) (hf : MemFit mm) (hgen : isI32 mm.gen) (hpi : ∀ x ∈ mm.owned, ∀ y ∈ x.parts, isI32 y) (hu : U8L mm.data) :
    Calls Tryz.prog 31 #[.slice (some ⟨g, off, none⟩) (memBytes mm).length cap] w fun e w' => ∃ c, e = .returned (.tuple #[.agg c, .bool true]) ∧ MemGot w' w.heap.size mm c ∧ Kept [] w w' := by
  have hclo : ∀ w0 : World, w0 = (((w.alloc (.cells #[.slice (some ⟨g, off, none⟩) (memBytes mm).length cap] 28)).alloc (.cells #[.string ⟨#[]⟩, .int .i16 0, .slice none 0 0, .slice none 0 0, .slice none 0 0, .int .i32 0, .string ⟨#[]⟩, .bool false] 30)).alloc (.cells #[.bool false] 4)) →
      Kept [] w w0 ∧ w0.heap.size = w.heap.size + 3 ∧ _ := fun w0 e => ⟨by subst e; exact (((Kept.refl [] w).alloc _).alloc _).alloc _, by subst e; simp,
      safe_any 59 #[.pointer (some ⟨w.heap.size, 0, none⟩), .pointer (some ⟨w.heap.size + 2, 0, none⟩), .pointer (some ⟨w.heap.size + 1, 0, none⟩)] w0
        (fun w' => ∃ c, w'.heap[w.heap.size + 1]? = some (.cells c 30 (0, 0)) ∧ MemGot w' (w.heap.size + 4) mm c ∧ w'.cell? ⟨w.heap.size + 2, 0, none⟩ = some (.bool true) ∧ w'.frozen? ⟨w.heap.size + 2, 0, none⟩ = false) [w.heap.size + 1, w.heap.size + 2] hasBody59 (by subst e; simp) (by
          have k0 : Kept [] w (w0.alloc (.cells #[.bool false] 4)) := by subst e; exact ((((Kept.refl [] w).alloc _).alloc _).alloc _).alloc _
          have hz : (w0.alloc (.cells #[.bool false] 4)).heap.size = w.heap.size + 4 := by subst e; simp
          have hr : (w0.alloc (.cells #[.bool false] 4)).heap[w.heap.size + 1]? = some (.cells #[.string ⟨#[]⟩, .int .i16 0, .slice none 0 0, .slice none 0 0, .slice none 0 0, .int .i32 0, .string ⟨#[]⟩, .bool false] 30 (0, 0)) := by
            subst e
            have h := heap_alloc_new (w.alloc (.cells #[.slice (some ⟨g, off, none⟩) (memBytes mm).length cap] 28)) (.cells #[.string ⟨#[]⟩, .int .i16 0, .slice none 0 0, .slice none 0 0, .slice none 0 0, .int .i32 0, .string ⟨#[]⟩, .bool false] 30)
            rw [World.size_alloc] at h
            exact ha (ha h)
          refine (memberRead_closure w.heap.size g off cap mm (w0.alloc (.cells #[.bool false] 4)) (by subst e; simp [go_sem]) hr (by subst e; simp [go_sem]) (by subst e; simp [go_sem]) (by subst e; simp) (hsl.kept k0 (by simp)) hf hgen hpi hu).mono ?_
          rintro e' w' ⟨rfl, c, h2, h3, h4, h5, hk⟩
          rw [hz] at h3
          exact ⟨rfl, ⟨c, h2, h3, h4, h5⟩, hk⟩)⟩
  obtain ⟨hk0, hs0, hsafe⟩ := hclo _ rfl
  have HSF := Lib.hid hsafe; clear hsafe hclo
  clear hsl hf hgen hpi hu
  generalize (memBytes mm).length = len at *
  go_enter Tryz.func31, Tryz.ntmps31
  go_wp2_with (first
    | (go_at_call 43
       refine (HSF.out).mono ?_
       rintro e w2 ⟨rfl, w1, ⟨c, hc, hgot, c4, f4⟩, hk1, hk2⟩
       have hs1 := hk1.size
       rw [hs0] at hk2 hs1
       have hc2 := hk2.heap hc (by simp)
       have hgot2 := hgot.kept hk2 (by simp)
       obtain ⟨x, rfl, hxm, hxr⟩ := hgot2
       obtain ⟨ta, tc, da, dc, oa, oc, ex, _⟩ := mcs_form hxm
       rw [ex] at hc2
       unfold mcs at hc2
       have d4 : w2.cell? ⟨w.heap.size + 1 + 1, 0, none⟩ = some (.bool true) := hk2.cell c4 (by simp)
       have e4 : w2.frozen? ⟨w.heap.size + 1 + 1, 0, none⟩ = false := hk2.frz f4 (by simp; omega) (by simp)
       have q := (cells_of hc2).1
       have zq := (cells_of hc2).2
       have q0 := q 0 _ rfl
       have q1 := q 1 _ rfl
       have q2 := q 2 _ rfl
       have q3 := q 3 _ rfl
       have q4 := q 4 _ rfl
       have q5 := q 5 _ rfl
       have q6 := q 6 _ rfl
       have q7 := q 7 _ rfl
       have HC2 := Lib.hid (And.intro hc2 (And.intro hxm (And.intro hxr ex))); clear hc2 hxm hxr hgot hc c4 f4 q ex)
    | fail)
  have k12 : Kept [] w w2 := (hk0.trans hk1 (U := []) (by simp) (by simp <;> omega)).trans hk2 (by simp) (by simp <;> omega)
  have k3 : Kept [w.heap.size + 1, w.heap.size + 2] w2 (((((((((w2.setCell ⟨w.heap.size + 1, 0, none⟩ (.string x.id)).setCell ⟨w.heap.size + 1, 1, none⟩ (.int .i16 x.ver)).setCell ⟨w.heap.size + 1, 2, none⟩ (.slice ta x.tops.length tc)).setCell ⟨w.heap.size + 1, 3, none⟩ (.slice da x.data.length dc)).setCell ⟨w.heap.size + 1, 4, none⟩ (.slice oa x.owned.length oc)).setCell ⟨w.heap.size + 1, 5, none⟩ (.int .i32 x.gen)).setCell ⟨w.heap.size + 1, 6, none⟩ (.string x.rack)).setCell ⟨w.heap.size + 1, 7, none⟩ (.bool x.has)).setCell ⟨w.heap.size + 1 + 1, 0, none⟩ (.bool true)) :=
    (((((((((Kept.refl _ _).setCell _ (by simp)).setCell _ (by simp)).setCell _ (by simp)).setCell _ (by simp)).setCell _ (by simp)).setCell _ (by simp)).setCell _ (by simp)).setCell _ (by simp)).setCell _ (by simp)
  have hend2 := k12.trans k3 (U := []) (by simp) (by simp <;> omega)
  have hgot : MemGot w2 (w.heap.size + 4) mm (memCells x).toArray := ⟨x, rfl, HC2.out.2.1, HC2.out.2.2.1⟩
  have hend := hgot.kept k3 (by simp)
  rw [HC2.out.2.2.2] at hend
  unfold mcs at hend
  refine bodyPost_ret (v := .tuple #[.agg #[.string x.id, .int .i16 x.ver, .slice ta x.tops.length tc, .slice da x.data.length dc, .slice oa x.owned.length oc, .int .i32 x.gen, .string x.rack, .bool x.has], .bool true]) ?_ rfl ⟨_, rfl, ?_, hend2⟩
  · simp [results, Tryz.results31, go_sem, q0, q1, q2, q3, q4, q5, q6, q7, d4]
  · obtain ⟨y, e1, e2, e3, e4, e5, e6, e7, e8, e9⟩ := hend
    exact ⟨y, e1, e2, e3, e4, e5, e6, e7, e8, fun gg hgg => by have := e9 gg hgg; omega⟩

/-! ## FnMemberBytes -/

theorem trip_same2 : ∀ {A B : List Shr}, A.map owOf = B.map owOf → (∀ x ∈ A, x.mem = ⟨#[]⟩) → (∀ x ∈ B, x.mem = ⟨#[]⟩) → A.map trip = B.map trip
  | [], [], _, _, _ => rfl
  | [], _ :: _, h, _, _ => by simp at h
  | _ :: _, [], h, _, _ => by simp at h
  | x :: A, y :: B, h, h1, h2 => by
    simp only [List.map_cons, List.cons.injEq, owOf, Prod.mk.injEq] at h ⊢
    refine ⟨?_, trip_same2 h.2 (fun z hz => h1 z (by simp [hz])) (fun z hz => h2 z (by simp [hz]))⟩
    unfold trip
    rw [h1 x (by simp), h2 y (by simp), h.1.1, h.1.2]
theorem acc_form2 {wB w : World} {v : Value} {xs : List Value} (h : Acc wB w v xs) (h1 : 1 ≤ xs.length) (hu : ∀ u ∈ xs, u.oneCell' = true) : ∃ g c, v = .slice (some ⟨g, 0, none⟩) xs.length c ∧ SlAt w 1 v xs.length xs := by
  have hsl := own_sl h.own hu
  rcases h.own.2 with ⟨e1, e2⟩ | ⟨g, cap, cur, e1, _⟩
  · omega
  · exact ⟨g, cap, e1, hsl⟩

set_option maxRecDepth 100000 in
set_option maxHeartbeats 8000000 in
theorem law_member (m : Mem) (w : World) (hrd : MemRd w m) : Calls Tryz.prog 10 #[.agg (memCells m).toArray] w fun e w' => e = .returned (.bool true) ∧ Kept [] w w' := by
  have hm := hrd.at_
  have hal := alive
  have HAL := Lib.hid hal; clear hal
  have c27 := fun w' (k : Kept [] w w') => fits3 m w' (hm.kept0 k) hrd.ln.1 hrd.ln.2.2
  have c28 := fun w' (k : Kept [] w w') => memberFits_any m w' (hm.kept0 k) hrd.ln.1 hrd.ln.2.2 hrd.ln.2.1
  have c29 := fun (hf : MemFit m) w' (k : Kept [] w w') => specMember_any m w' (hm.kept0 k) hf hrd.gen
  have c30 := fun (hf : MemFit m) w' (k : Kept [] w w') => memberBytes_any m w' (hm.kept0 k) hf hrd.gen
  have hu : U8L m.data := fun u hu => by obtain ⟨q, e, h1, h2⟩ := hrd.data u hu; exact ⟨q, e, h1, h2⟩
  have hpi : ∀ x ∈ m.owned, ∀ y ∈ x.parts, isI32 y := fun x hx => (hm.owned.parts x hx).2.2
  have hall : MemFit m → (∀ u ∈ memBytes m, u.oneCell' = true) ∧ U8L (memBytes m) ∧ 1 ≤ (memBytes m).length := fun hf => ⟨mem_all_one m hm.data.2.2.1, memBytes_u8 m hf hu, by have := (memBytes_le m hf).2; omega⟩
  obtain ⟨ta, tc, da, dc, oa, oc, e, _⟩ := mcs_form hm
  have hE := e
  rw [e] at c27 c28 c29 c30 ⊢
  unfold mcs at c27 c28 c29 c30 ⊢
  have C27 := Lib.hid c27; clear c27
  have C28 := Lib.hid c28; clear c28
  have C29 := Lib.hid c29; clear c29
  have C30 := Lib.hid c30; clear c30
  have HH := Lib.hid (And.intro hrd (And.intro hu (And.intro hpi (And.intro hall hE)))); clear hrd hu hpi hall hm hE e
  have hk0 : ∀ o, Kept [] w (w.alloc o) := fun o => (Kept.refl _ _).alloc o
  have HK := Lib.hid hk0; clear hk0
  go_enter Tryz.func10, Tryz.ntmps10
  go_upto_region 1 with fail
  have hkM := HK.out (.cells #[.string m.id, .int .i16 m.ver, .slice ta m.tops.length tc, .slice da m.data.length dc, .slice oa m.owned.length oc, .int .i32 m.gen, .string m.rack, .bool m.has] 30)
  have hB := fun w' => box8 (w := w) (w' := w') (a0 := .string m.id) (a1 := .int .i16 m.ver) (a2 := .slice ta m.tops.length tc) (a3 := .slice da m.data.length dc) (a4 := .slice oa m.owned.length oc) (a5 := .int .i32 m.gen) (a6 := .string m.rack) (a7 := .bool m.has) (T := 30)
  generalize (w.alloc (.cells #[.string m.id, .int .i16 m.ver, .slice ta m.tops.length tc, .slice da m.data.length dc, .slice oa m.owned.length oc, .int .i32 m.gen, .string m.rack, .bool m.has] 30)) = M at *
  have HB := Lib.hid hB; clear hB
  obtain ⟨_, b0, b1, b2, b3, b4, b5, b6, b7⟩ := HB.out M (Kept.refl _ _)
  go_upto_region 3 with (first
    | (go_at_call 27
       refine (C27.out _ hkM).mono ?_
       rintro e w1 ⟨⟨bb, rfl⟩, hk1⟩
       cases bb)
    | fail)
  · go_wp2
    go_ret
    exact ⟨rfl, hkM.trans hk1 (by simp) (by simp)⟩
  · obtain ⟨_, c0, c1, c2, c3, c4, c5, c6, c7⟩ := HB.out w1 hk1
    have hkw1 : Kept [] w w1 := hkM.trans hk1 (by simp) (by simp)
    go_upto_region 5 with (first
      | (go_at_call 28
         refine (C28.out _ hkw1).mono ?_
         rintro e w2 ⟨⟨rfl, hfit⟩ | ⟨rfl, hfit⟩, hk2⟩)
      | fail)
    · have hkw2 : Kept [] w w2 := hkw1.trans hk2 (by simp) (by simp)
      obtain ⟨_, d0, d1, d2, d3, d4, d5, d6, d7⟩ := HB.out w2 (hk1.trans hk2 (by simp) (by simp))
      have hkM2 : Kept [] M w2 := hk1.trans hk2 (by simp) (by simp)
      have C29' := Lib.hid (C29.out hfit); clear C29
      have C30' := Lib.hid (C30.out hfit); clear C30
      have HFIT := Lib.hid hfit; clear hfit
      go_upto_region 8 with (first
        | (go_at_call 29
           refine (C29'.out _ hkw2).mono ?_
           rintro e w3 ⟨v3, rfl, w0, hkw0, hacc⟩
           have hk23 : Kept [] w2 w3 := hkw0.trans hacc.kept (by simp) (by simp)
           obtain ⟨g3, cp3, rfl, hsl3⟩ := acc_form2 hacc (HH.out.2.2.2.1 HFIT.out).2.2 (HH.out.2.2.2.1 HFIT.out).1
           obtain ⟨_, e0, e1, e2, e3, e4, e5, e6, e7⟩ := HB.out w3 (hkM2.trans hk23 (by simp) (by simp))
           have H3 := Lib.hid (And.intro hsl3 hk23); clear hsl3 hk23 hkw0 hacc
           generalize hN : (memBytes m).length = N at *
           have HN := Lib.hid hN; clear hN)
        | (go_at_call 30
           refine (C30'.out _ (hkw2.trans H3.out.2 (by simp) (by simp))).mono ?_
           rintro e w4 ⟨g4, cp4, rfl, hsl4, hg4, hk4⟩
           have hsl34 := H3.out.1.kept hk4 (by simp)
           have hmr := memberRead_any g3 0 cp3 m w4 (by rw [HN.out]; exact hsl34) HFIT.out HH.out.1.gen HH.out.2.2.1 HH.out.2.1
           rw [HN.out] at hmr
           have HMR := Lib.hid hmr; clear hmr
           have H4 := Lib.hid (And.intro hsl4 (And.intro hsl34 hk4)); clear hsl4 hsl34 hk4 hg4)
        | (go_at_call 31
           refine HMR.out.mono ?_
           rintro e w5 ⟨c, rfl, ⟨x, rfl, hxm, hxr⟩, hk5⟩
           obtain ⟨xa, xc, xda, xdc, xoa, xoc, ex, _⟩ := mcs_form hxm
           have H5 := Lib.hid (And.intro hxm (And.intro hxr (And.intro hk5 ex))); clear hxm hxr hk5
           rw [ex]
           unfold mcs
           clear ex)
        | fail)
      have hk35 : Kept [] w3 w5 := H4.out.2.2.trans H5.out.2.2.1 (by simp) (by simp)
      have hk25 : Kept [] w2 w5 := H3.out.2.trans hk35 (by simp) (by simp)
      have hXB : ∀ w', Kept [] (w5.alloc (.cells #[.string x.id, .int .i16 x.ver, .slice xa x.tops.length xc, .slice xda x.data.length xdc, .slice xoa x.owned.length xoc, .int .i32 x.gen, .string x.rack, .bool x.has] 30)) w' → _ := fun w' k => box8 k
      have hk5M : ∀ w', Kept [] (w5.alloc (.cells #[.string x.id, .int .i16 x.ver, .slice xa x.tops.length xc, .slice xda x.data.length xdc, .slice xoa x.owned.length xoc, .int .i32 x.gen, .string x.rack, .bool x.has] 30)) w' → Kept [] w5 w' := fun w' k => ((Kept.refl [] w5).alloc _).trans k (by simp) (by simp)
      generalize (w5.alloc (.cells #[.string x.id, .int .i16 x.ver, .slice xa x.tops.length xc, .slice xda x.data.length xdc, .slice xoa x.owned.length xoc, .int .i32 x.gen, .string x.rack, .bool x.has] 30)) = W5 at *
      have HXB := Lib.hid hXB; clear hXB
      have HK5 := Lib.hid hk5M; clear hk5M
      have hux : ∀ u ∈ memBytes m, ∃ y, u = Value.int .u8 y := fun u hu => by obtain ⟨y, e, _⟩ := (HH.out.2.2.2.1 HFIT.out).2.1 u hu; exact ⟨y, e⟩
      have hcv : ∀ w', Kept [] w5 w' → (convert 28 9 (.slice (some ⟨g4, 0, none⟩) N cp4)).run Tryz.prog w' = .ok (.string (strOfNums ((memBytes m).map numOf))) w' ∧ (convert 28 9 (.slice (some ⟨g3, 0, none⟩) N cp3)).run Tryz.prog w' = .ok (.string (strOfNums ((memBytes m).map numOf))) w' := fun w' k => by
        have e4 := conv_any2 (H4.out.1.kept (H5.out.2.2.1.trans k (U := []) (by simp) (by simp)) (by simp)) hux
        have e3 := conv_any2 (H4.out.2.1.kept (H5.out.2.2.1.trans k (U := []) (by simp) (by simp)) (by simp)) hux
        exact ⟨e4, e3⟩
      generalize strOfNums ((memBytes m).map numOf) = str at hcv
      have HCV := Lib.hid hcv; clear hcv hux
      have hsm := fun w' (k : Kept [] w5 w') => sameMember_any x m w' (H5.out.1.kept0 k) (HH.out.1.at_.kept0 ((hkw2.trans hk25 (U := []) (by simp) (by simp)).trans k (by simp) (by simp))) H5.out.2.1.1 H5.out.2.1.2.1 H5.out.2.1.2.2.1 HFIT.out.ver
        (fun h1 => trip_same2 (H5.out.2.1.2.2.2.1 h1).1 (H5.out.2.1.2.2.2.1 h1).2 (fun y hy => (HFIT.out.owned.1 y hy).1)) (fun h2 => H5.out.2.1.2.2.2.2.1 h2)
        (fun h3 => ⟨(H5.out.2.1.2.2.2.2.2.1 h3).1, by
          cases hh : m.has with
          | true => exact (H5.out.2.1.2.2.2.2.2.1 h3).2.1 hh
          | false =>
            rw [(H5.out.2.1.2.2.2.2.2.1 h3).2.2 hh]
            rcases HFIT.out.rack.2 with h | h
            · rw [hh] at h; cases h
            · exact h.symm⟩)
        (fun u hu => by obtain ⟨y, e, _⟩ := HH.out.2.1 u hu; exact ⟨y, e⟩) (by have := HFIT.out.tops.1; omega)
        (fun h1 => by
          have h5 := (H5.out.2.1.2.2.2.1 h1).1
          have hl : x.owned.length = m.owned.length := by simpa using congrArg List.length h5
          refine ⟨by have := HFIT.out.owned.2; omega, fun y hy => ?_⟩
          have : owOf y ∈ m.owned.map owOf := by rw [← h5]; exact List.mem_map_of_mem hy
          obtain ⟨z, hz, ez⟩ := List.mem_map.1 this
          have h6 := (HFIT.out.owned.1 z hz).2.2
          have h7 : z.parts = y.parts := congrArg Prod.snd ez
          rw [← h7]; omega)
      rw [HH.out.2.2.2.2, H5.out.2.2.2] at hsm
      unfold mcs at hsm
      have HSM := Lib.hid hsm; clear hsm
      go_wp2_with (first
        | (go_at_call 14
           refine (HAL.out _).mono ?_
           rintro e w6 ⟨rfl, hk6⟩
           obtain ⟨_, x0, x1, x2, x3, x4, x5, x6, x7⟩ := HXB.out w6 hk6
           have hk56 := HK5.out w6 hk6
           obtain ⟨_, y0, y1, y2, y3, y4, y5, y6, y7⟩ := HB.out w6 ((hkM2.trans hk25 (U := []) (by simp) (by simp)).trans hk56 (by simp) (by simp))
           obtain ⟨q1, q2⟩ := HCV.out w6 hk56)
        | (go_at_call 32
           refine (HSM.out w6 hk56).mono ?_
           rintro e w7 ⟨rfl, hk7⟩)
        | fail)
      go_ret
      exact ⟨rfl, ((hkw2.trans hk25 (U := []) (by simp) (by simp)).trans hk56 (U := []) (by simp) (by simp)).trans hk7 (by simp) (by simp)⟩
    · go_wp2_with (first | (go_at_call 14; refine (HAL.out _).mono ?_; rintro e w3 ⟨rfl, hk3⟩) | fail)
      go_ret
      exact ⟨rfl, (hkw1.trans hk2 (U := []) (by simp) (by simp)).trans hk3 (by simp) (by simp)⟩

theorem law_member_row (m : Mem) (w : World) (h : MemRd w m) : Calls Tryz.prog 10 #[.agg (memCells m).toArray] w fun e w' => e = .returned (.bool true) ∧ Kept [] w w' := law_member m w h
end Go.Proofs.YticcnlpfmekagaaGreat
