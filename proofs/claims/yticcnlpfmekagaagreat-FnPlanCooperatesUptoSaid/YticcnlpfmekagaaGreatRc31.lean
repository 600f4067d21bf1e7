/- Part 31 of the proof of the row: Mov2, Proc. -/
import Derived.Test.YticcnlpfmekagaaGreatRc00
import Derived.Test.YticcnlpfmekagaaGreatRc30
import Derived.Test.YticcnlpfmekagaaGreatRc14
set_option linter.unusedVariables false
set_option linter.unusedSimpArgs false
set_option maxRecDepth 100000
set_option maxHeartbeats 8000000
namespace Go.Proofs.YticcnlpfmekagaaGreat
section
open Go Go.Proofs Go.RowKit Go.Lib
open Classical
theorem move_any (G : ByteArray → Prop) (H : TP → Prop) (sp rb rm : Nat) (cp : Bool) (E0 : List (ByteArray × Nat)) (D : List (Nat × List (Pr × Nat))) (I : List (Nat × List (Value × Value))) (Mv : List (TP × Pr)) (p : TP) (x : Pr) (w : World) (how : Ow w (movM sp rb rm cp E0 D I Mv)) (hok : MovOk G H E0 D I Mv) (hp : ∀ y ∈ Mv, y.1 ≠ p) (hG : G x.2) :
 Calls Tryz.prog 277 #[.pointer (some ⟨sp, 0, none⟩), .agg #[.string p.1, .int .i32 p.2], .string x.1, .string x.2] w (AddPost G H sp rb rm cp p (foots (movM sp rb rm cp E0 D I Mv)) w) := by
 have hst0 : St (foots (movM sp rb rm cp E0 D I Mv)) w w (movM sp rb rm cp E0 D I Mv) [] := St.start (by simpa using how)
 have hadd := fun W (h : Ow W (movM sp rb rm cp E0 D I Mv)) => add_any G H sp rb rm cp E0 D I Mv p x W h hok hp hG
 have hmi := rawV_miss hp
 clear how
 have HO := Zhd hadd; clear hadd hok hp hG
 have hstu := ((hst0.blk (.cells #[.string p.1, .int .i32 p.2] 384)).blk (.cells #[.string x.1, .string x.2] 466))
 have hst1 := hstu.drew
 go_enter Tryz.func277, Tryz.ntmps277
 go_upto_region 2 with fail
 have hsz : (w.alloc (.cells #[.string p.1, .int .i32 p.2] 384)).heap.size = w.heap.size + 1 := by simp [go_sem]
 rw [hsz] at hst1 hstu
 obtain ⟨c5, c4, cs⟩ := mov_cells hst1
 have hmm : ∀ W, Kept [] _ W → MapAt W isTp rm (rawV Mv) := fun W hW => (hst1.m 6 rfl : MapAt _ isTp rm (rawV Mv)).kept hW (by simp)
 have hcc : ∀ W, Kept [] _ W → W.cell? ⟨w.heap.size, 0, none⟩ = some (.string p.1) ∧ W.cell? ⟨w.heap.size, 1, none⟩ = some (.int .i32 p.2) ∧ W.cell? ⟨sp, 1, none⟩ = some (.map (some rm)) := fun W hW => ⟨hW.cell c4.1 (by simp), hW.cell c4.2 (by simp), hW.cell cs.2 (by simp)⟩
 have HM := Zhd (Zan hmm hcc); clear hmm hcc
 have hst2 := (hstu.alloc (.cells #[.string ⟨#[]⟩, .string ⟨#[]⟩] 466)).drew
 have HST := Zhd hst2; clear hst1 hst0 hsz hstu hst2
 have hvp : isTp (tpV p) := ⟨_, _, rfl⟩
 have hz := Tryz.zeroValue466
 go_region_held3 (fun W => W.cell? ⟨w.heap.size, 0, none⟩ = some (.string p.1) ∧ W.cell? ⟨w.heap.size, 1, none⟩ = some (.int .i32 p.2) ∧ W.cell? ⟨sp, 1, none⟩ = some (.map (some rm)))
  (first | with_reducible exact HM.out.2 _ (Kept.refl _ _) | with_reducible exact HM.out.2 _ ((Kept.refl _ _).alloc _) | fail)
  (first
    | (with_reducible refine up_lkN2 (fun _ _ => rfl) keyT_tp Tryz.underlying172 (HM.out.1 _ (Kept.refl _ _)) hvp hmi (hz _) ?_)
    | (with_reducible refine up_lkN2 (fun _ _ => rfl) keyT_tp Tryz.underlying172 (HM.out.1 _ ((Kept.refl _ _).alloc _)) hvp hmi (hz _) ?_)
    | fail)
 all_goals
  have hst2 := HST.out
  obtain ⟨k5, k4, ks⟩ := mov_cells hst2
  have hst3 := (hst2.drop 0).drop 0
  simp only [Ze0] at hst3
  have hcall := HO.out _ (by have h := hst3.ow; rwa [List.append_nil] at h)
  clear hst2 HM HST c5 c4 cs hvp hz hmi
  generalize (((w.alloc (.cells #[.string p.1, .int .i32 p.2] 384)).alloc (.cells #[.string x.1, .string x.2] 466)).alloc (.cells #[.string ⟨#[]⟩, .string ⟨#[]⟩] 466)).drew = W2 at *
  have HK := Zhd (Zan hcall hst3); clear hcall hst3
  go_wp2_with (first
   | (go_at_call 279
      refine HK.out.1.mono ?_
      rintro e w3 ⟨E1, D1, I1, Mv1, rfl, hok1, hst4⟩)
   | fail)
  have hfin : AddPost G H sp rb rm cp p (foots (movM sp rb rm cp E0 D I Mv)) w (.returned (.tuple #[])) w3 := ⟨E1, D1, I1, Mv1, rfl, hok1, by
   have h := St.call (M1 := movM sp rb rm cp E0 D I Mv) (M2 := []) (by rw [List.append_nil]; exact HK.out.2) hst4
   rwa [List.append_nil] at h⟩
  have HFN := Zhd hfin; clear hfin hst4
  go_end0
  exact HFN.out
theorem results_cell {fn : Func} {t : Tmp} {ty : TypeId} {P : Program} {w : World} {a : Addr} {v : Value} {tmps : Array Value} (h : fn.results = #[.cell t ty]) (ht : tmps.getD t undef = .pointer (some a)) (hl : (loadVar ty a).run P w = .ok v w) : (results fn tmps).run P w = .ok v w := by
 have ht' : tmps[t]?.getD undef = .pointer (some a) := by simpa [Array.getD_eq_getD_getElem?] using ht
 simp [results, h, ht', asAddr, Sem.run_bind, hl, Result.andThen]
theorem info384 : (Tryz.prog.info? 384).map (·.size) = some 2 := by kernel_rfl
theorem one_tp (s : ByteArray) (n : Int) : (#[Value.string s, .int .i32 n] : Array Value).all (·.oneCell') = true := by
 simp
 exact ⟨rfl, rfl⟩
theorem kept_new {w V W : World} {b : Nat} (h1 : Kept [] w V) (h2 : Kept [b] V W) (hb : w.heap.size ≤ b) : Kept [] w W := h1.trans h2 (U := []) (by simp) (fun g hg hlt => by simp at hg; omega)
theorem ld_tp {w : World} {b : Nat} {s : ByteArray} {n : Int} (h0 : w.cell? ⟨b, 0, none⟩ = some (.string s)) (h1 : w.cell? ⟨b, 1, none⟩ = some (.int .i32 n)) : (loadVar 384 ⟨b, 0, none⟩).run Tryz.prog w = .ok (.agg #[.string s, .int .i32 n]) w := by simp [go_sem, h0, h1]
theorem actual_any (G : ByteArray → Prop) (H : TP → Prop) (sp rb rm : Nat) (cp : Bool) (E0 : List (ByteArray × Nat)) (D : List (Nat × List (Pr × Nat))) (I : List (Nat × List (Value × Value))) (Mv : List (TP × Pr)) (p : TP) (x : Pr) (w : World) (how : Ow w (movM sp rb rm cp E0 D I Mv)) (hok : MovOk G H E0 D I Mv) (hp : ∀ y ∈ Mv, y.1 ≠ p) (hG : ¬ G x.1) :
 Calls Tryz.prog 273 #[.pointer (some ⟨sp, 0, none⟩), .agg #[.string p.1, .int .i32 p.2], .string x.1, .string x.2] w fun e w' => e = .returned (.agg #[.string p.1, .int .i32 p.2]) ∧ Kept [] w w' := by
 have hst0 : St [] w w [] (movM sp rb rm cp E0 D I Mv) := St.start0 how
 have hmi := rawV_miss hp
 clear how
 have hst1 := hst0.blk (.cells #[.string p.1, .int .i32 p.2] 384)
 have hkA : Kept [] w (w.alloc (.cells #[.string p.1, .int .i32 p.2] 384)) := (Kept.refl _ _).alloc _
 have hcc : ∀ W, Kept [] (w.alloc (.cells #[.string p.1, .int .i32 p.2] 384)) W → (W.cell? ⟨w.heap.size, 0, none⟩ = some (.string p.1) ∧ W.cell? ⟨w.heap.size, 1, none⟩ = some (.int .i32 p.2)) ∧ (W.cell? ⟨sp, 0, none⟩ = some (.map (some rb)) ∧ W.cell? ⟨sp, 1, none⟩ = some (.map (some rm))) := fun W hW => by
  have h4 := hst1.cell2 0 rfl
  have h2 : (w.alloc (.cells #[.string p.1, .int .i32 p.2] 384)).heap[sp]? = some (movO cp rb rm) := hst1.r 0 rfl
  exact ⟨⟨hW.cell h4.1 (by simp), hW.cell h4.2 (by simp)⟩, hW.cell (movO_cells h2).1 (by simp), hW.cell (movO_cells h2).2.1 (by simp)⟩
 have hmm : ∀ W, Kept [] (w.alloc (.cells #[.string p.1, .int .i32 p.2] 384)) W → MapAt W isTp rm (rawV Mv) ∧ MapAt W isStr rb (rawE E0) ∧ ∀ y ∈ rawD D, MapAt W y.2.1 y.1 y.2.2 := fun W hW =>
  ⟨(hst1.r 4 rfl : MapAt _ isTp rm (rawV Mv)).kept hW (by simp), (hst1.r 1 rfl : MapAt _ isStr rb (rawE E0)).kept hW (by simp), fun y hy => ((hst1.r 2 rfl : (Rs.maps (rawD D)).holds _).1 y hy).kept hW (by simp)⟩
 have HM := Zhd (Zan hcc hmm); clear hcc hmm
 have HO := Zhd (Zan hok hG); clear hok hG hst1 hst0
 have hk1 : Kept [] (w.alloc (.cells #[.string p.1, .int .i32 p.2] 384)) ((w.alloc (.cells #[.string p.1, .int .i32 p.2] 384)).alloc (.cells #[.string ⟨#[]⟩, .int .i32 0] 384)).drew := ((Kept.refl _ _).alloc _).drew
 obtain ⟨c4, cs⟩ := HM.out.1 _ hk1
 have hme := (HM.out.2 _ hk1).2.1
 have hvs : isStr (.string p.1) := ⟨_, rfl⟩
 have hz := Tryz.zeroValue463
 have hvp : isTp (tpV p) := ⟨_, _, rfl⟩
 have hz2 := Tryz.zeroValue466
 go_enter Tryz.func273, Tryz.ntmps273
 have hb8 : ((w.alloc (.cells #[.string p.1, .int .i32 p.2] 384)).alloc (.cells #[.string ⟨#[]⟩, .int .i32 0] 384)).drew.heap[w.heap.size + 1]? = some (.cells #[.string ⟨#[]⟩, .int .i32 0] 384 (0, 0)) := by
  have := heap_alloc_new (w.alloc (.cells #[.string p.1, .int .i32 p.2] 384)) (.cells #[.string ⟨#[]⟩, .int .i32 0] 384)
  have e : (w.alloc (.cells #[.string p.1, .int .i32 p.2] 384)).heap.size = w.heap.size + 1 := by simp [go_sem]
  rw [e] at this
  exact this
 go_upto_region 1 with fail
 rcases Classical.em (∃ r, (p.1, r) ∈ E0) with hE | hE
 case' inl =>
  obtain ⟨r1, hr1⟩ := hE
  have hin := rawE_hit hr1
  go_region_held3 (fun W => (W.cell? ⟨w.heap.size, 0, none⟩ = some (.string p.1) ∧ W.cell? ⟨w.heap.size, 1, none⟩ = some (.int .i32 p.2)) ∧ (W.cell? ⟨sp, 0, none⟩ = some (.map (some rb)) ∧ W.cell? ⟨sp, 1, none⟩ = some (.map (some rm))))
   (first | with_reducible exact ⟨c4, cs⟩ | fail)
   (first
     | (with_reducible refine up_lk2 (fun _ _ => rfl) (keyT_str Tryz.underlying9) Tryz.underlying171 hme hin ?_)
     | fail)
  go_upto_region 4 with fail
  clear c4 cs hme
  generalize ((w.alloc (.cells #[.string p.1, .int .i32 p.2] 384)).alloc (.cells #[.string ⟨#[]⟩, .int .i32 0] 384)).drew = V1 at *
  obtain ⟨c42, cs2⟩ := HM.out.1 _ hk1.drew
  have c43 := fun o => HM.out.1 _ ((hk1.alloc o).drew)
  have hm2 := (HM.out.2 _ hk1.drew).1
  have hm3 := fun o => (HM.out.2 _ ((hk1.alloc o).drew)).1
  go_region_held3 (fun W => (W.cell? ⟨w.heap.size, 0, none⟩ = some (.string p.1) ∧ W.cell? ⟨w.heap.size, 1, none⟩ = some (.int .i32 p.2)) ∧ (W.cell? ⟨sp, 0, none⟩ = some (.map (some rb)) ∧ W.cell? ⟨sp, 1, none⟩ = some (.map (some rm))))
   (first | with_reducible exact ⟨c42, cs2⟩ | with_reducible exact c43 _ | fail)
   (first
     | (with_reducible refine up_lkN2 (fun _ _ => rfl) keyT_tp Tryz.underlying172 hm2 hvp hmi (hz2 _) ?_)
     | (with_reducible refine up_lkN2 (fun _ _ => rfl) keyT_tp Tryz.underlying172 (hm3 _) hvp hmi (hz2 _) ?_)
     | fail)
  all_goals
   go_upto_region 8 with fail
   have hk4 := (hk1.alloc (.cells #[.string ⟨#[]⟩, .string ⟨#[]⟩] 466)).drew
   have hb9 : (V1.alloc (.cells #[.string ⟨#[]⟩, .string ⟨#[]⟩] 466)).drew.heap[w.heap.size + 1]? = some (.cells #[.string ⟨#[]⟩, .int .i32 0] 384 (0, 0)) := (((Kept.refl [] V1).alloc _).drew).heap hb8 (by simp)
   clear c42 cs2 c43 hm2 hm3 hb8
   generalize (V1.alloc (.cells #[.string ⟨#[]⟩, .string ⟨#[]⟩] 466)).drew = V2 at *
   obtain ⟨c42, cs2⟩ := HM.out.1 _ hk4.drew
   have hm2 := (HM.out.2 _ hk4.drew).2.1
   go_region_held3 (fun W => (W.cell? ⟨w.heap.size, 0, none⟩ = some (.string p.1) ∧ W.cell? ⟨w.heap.size, 1, none⟩ = some (.int .i32 p.2)) ∧ (W.cell? ⟨sp, 0, none⟩ = some (.map (some rb)) ∧ W.cell? ⟨sp, 1, none⟩ = some (.map (some rm))))
    (first | with_reducible exact ⟨c42, cs2⟩ | fail)
    (first
      | (with_reducible refine up_lk (fun _ _ => rfl) (keyT_str Tryz.underlying9) Tryz.underlying171 hm2 hin ?_)
      | fail)
   clear c42 cs2 hm2
   obtain ⟨⟨r1', Lr⟩, hyD, hy1⟩ := List.mem_map.1 (HO.out.1.top _ hr1)
   simp only at hy1
   subst hy1
   have hno : ¬ ∃ r, ((x.2, x.1), r) ∈ Lr := fun ⟨r, hr⟩ => HO.out.2 (HO.out.1.mid _ hyD _ hr).1
   have hmi3 := pr_miss hno
   have hmid := fun o => (HM.out.2 _ (hk4.alloc o).drew).2.2 _ (List.mem_map_of_mem (f := rawD1) hyD)
   have c440 := fun o => (HM.out.1 _ (hk4.alloc o).drew).1.1
   have c441 := fun o => (HM.out.1 _ (hk4.alloc o).drew).1.2
   have h10 := fun o => ((((Kept.refl [] V2).alloc o).drew).heap hb9 (by simp))
   have c80 := fun o => (cells_of (h10 o)).1 0 _ rfl
   have c81 := fun o => (cells_of (h10 o)).1 1 _ rfl
   have c8f := fun o => (cells_of (h10 o)).2
   go_wp2_with (first
    | (refine wl_lkN2 (kv := prV (x.2, x.1)) rfl rfl rfl rfl keyT_pr Tryz.underlying463 (hmid _) (prV_is _) hmi3 (Tryz.zeroValue388 _) ?_)
    | (refine wl_storeRow (c' := #[.string p.1, .int .i32 p.2]) rfl rfl rfl rfl (h10 _) info384 rfl (one_tp _ _) ?_
       intro w8 h8 k8 s8)
    | fail)
   have hc8 := cells_of h8
   refine bodyPost_ret (results_cell rfl rfl (ld_tp (hc8.1 0 _ rfl) (hc8.1 1 _ rfl))) rfl ⟨rfl, ?_⟩
   exact kept_new (hkA.trans ((hk4.alloc _).drew) (U := []) (by simp) (by simp)) k8 (by omega)
 case' inr =>
  have hmi2 := rawE_miss hE
  go_region_held3 (fun W => (W.cell? ⟨w.heap.size, 0, none⟩ = some (.string p.1) ∧ W.cell? ⟨w.heap.size, 1, none⟩ = some (.int .i32 p.2)) ∧ (W.cell? ⟨sp, 0, none⟩ = some (.map (some rb)) ∧ W.cell? ⟨sp, 1, none⟩ = some (.map (some rm))))
   (first | with_reducible exact ⟨c4, cs⟩ | fail)
   (first
     | (with_reducible refine up_lkN2 (fun _ _ => rfl) (keyT_str Tryz.underlying9) Tryz.underlying171 hme hvs hmi2 (hz _) ?_)
     | fail)
  clear c4 cs hme
  generalize ((w.alloc (.cells #[.string p.1, .int .i32 p.2] 384)).alloc (.cells #[.string ⟨#[]⟩, .int .i32 0] 384)).drew = V1 at *
  have c420 := (HM.out.1 _ hk1).1.1
  have c421 := (HM.out.1 _ hk1).1.2
  go_wp2_with (first
   | (refine wl_storeRow (c' := #[.string p.1, .int .i32 p.2]) rfl rfl rfl rfl hb8 info384 rfl (one_tp _ _) ?_
      intro w8 h8 k8 s8)
   | fail)
  have hc8 := cells_of h8
  refine bodyPost_ret (results_cell rfl rfl (ld_tp (hc8.1 0 _ rfl) (hc8.1 1 _ rfl))) rfl ⟨rfl, ?_⟩
  exact kept_new (hkA.trans hk1 (U := []) (by simp) (by simp)) k8 (by omega)
end
section
open Go Go.Proofs Go.RowKit Go.Lib
open Classical
theorem rowOf_hit {X Y : List Rw} {m : ByteArray} {v : Value} {r : List TP} (hn : ((X ++ (m, v, r) :: Y).map (·.1)).Nodup) : rowOf (asgT (X ++ (m, v, r) :: Y)) m = r := by
 refine rowOf_mem (by simpa [asgT, Function.comp_def] using hn) ?_
 rw [asgT_mid]; simp
theorem rowOf_oth {X Y : List Rw} {c m : ByteArray} {v v' : Value} {r r' : List TP} (h : m ≠ c) : rowOf (asgT (X ++ (c, v', r') :: Y)) m = rowOf (asgT (X ++ (c, v, r) :: Y)) m := by
 have h' : ¬ c = m := fun e => h e.symm
 rw [asgT_mid, asgT_mid]
 unfold rowOf
 rw [List.find?_append, List.find?_append, List.find?_cons, List.find?_cons]
 simp [h']
theorem mid_keys {X Y : List Rw} {c : ByteArray} {v v' : Value} {r r' : List TP} : (X ++ (c, v', r') :: Y).map (·.1) = (X ++ (c, v, r) :: Y).map (·.1) := by simp
theorem moved_two {X Y X2 Y2 : List Rw} {c d : ByteArray} {vc v' vd v'' : Value} {xs ys qs : List TP} {p : TP} (hn : ((X ++ (c, vc, xs ++ p :: ys) :: Y).map (·.1)).Nodup) (hcd : c ≠ d)
 (e : X ++ (c, v', xs ++ ys) :: Y = X2 ++ (d, vd, qs) :: Y2) : Moved (asgT (X ++ (c, vc, xs ++ p :: ys) :: Y)) (asgT (X2 ++ (d, v'', qs ++ [p]) :: Y2)) c d p := by
 have k1 : ((X ++ (c, v', xs ++ ys) :: Y).map (·.1)).Nodup := by rw [mid_keys (v := vc) (r := xs ++ p :: ys)]; exact hn
 have k2 : ((X2 ++ (d, vd, qs) :: Y2).map (·.1)).Nodup := by rw [← e]; exact k1
 have k3 : ((X2 ++ (d, v'', qs ++ [p]) :: Y2).map (·.1)).Nodup := by rw [mid_keys (v := vd) (r := qs)]; exact k2
 have hkeys : ks (asgT (X2 ++ (d, v'', qs ++ [p]) :: Y2)) = ks (asgT (X ++ (c, vc, xs ++ p :: ys) :: Y)) := by
  unfold ks
  have e1 : ∀ L : List Rw, (asgT L).map (·.1) = L.map (·.1) := fun L => by simp [asgT, Function.comp_def]
  rw [e1, e1, mid_keys (v := vd) (r := qs), ← e, mid_keys (v := vc) (r := xs ++ p :: ys)]
 refine ⟨hkeys, ?_, ?_, fun m h1 h2 => ?_⟩
 · rw [rowOf_hit hn, rowOf_oth (v := vd) (r := qs) hcd, ← e, rowOf_hit k1]
   exact List.perm_middle
 · rw [rowOf_hit k3, rowOf_oth (v := v') (r := xs ++ ys) (fun h => hcd h.symm), e, rowOf_hit k2]
   exact List.perm_append_singleton _ _
 · rw [rowOf_oth (v := vd) (r := qs) h2, ← e, rowOf_oth h1]
def ProcPost (G : ByteArray → Prop) (H : TP → Prop) (sp rb rm rc rq : Nat) (cp : Bool) (p : TP) (c d : ByteArray) (A : List Rw) (lq : List (Value × Value)) (n : Nat) (S : List Nat) (w : World) (e : Ending) (w' : World) : Prop :=
 ∃ E0 D I Mv A2 g cc L, e = .returned (.slice (some ⟨g, 0, none⟩) n cc) ∧ MovOk G (fun q => H q ∨ q = p) E0 D I Mv ∧ IdsOf A2 L ∧ Moved (asgT A) (asgT A2) c d p ∧ A2.map (·.1) = A.map (·.1) ∧
  St S w w' ([Rs.cur rc A2, Rs.map rq isTp (putE lq (tpV p) (.string d)), Rs.ids (.slice (some ⟨g, 0, none⟩) n cc) n L] ++ movM sp rb rm cp E0 D I Mv) []
theorem process_any (G : ByteArray → Prop) (H : TP → Prop) (sp rb rm rc rq n : Nat) (cp : Bool) (E0 : List (ByteArray × Nat)) (D : List (Nat × List (Pr × Nat))) (I : List (Nat × List (Value × Value))) (Mv : List (TP × Pr)) (p : TP) (c d : ByteArray) (X Y : List Rw) (vc vi : Value) (xs ys : List TP) (vd : Value) (qs : List TP) (lq : List (Value × Value)) (w : World)
 (how : Ow w ([Rs.cur rc (X ++ (c, vc, xs ++ p :: ys) :: Y), Rs.map rq isTp lq] ++ movM sp rb rm cp E0 D I Mv)) (hok : MovOk G H E0 D I Mv) (hp : ∀ y ∈ Mv, y.1 ≠ p) (hG : G d) (hcd : c ≠ d) (hd : (d, vd, qs) ∈ X ++ Y) (hpx : p ∉ xs) (hlq : (tpV p, .string c) ∈ lq)
 (hln : (X ++ (c, vc, xs ++ p :: ys) :: Y).length = n) (hl : n ≤ 1000) (hb : ∀ x ∈ X ++ (c, vc, xs ++ p :: ys) :: Y, x.2.2.length ≤ 1000) :
 Calls Tryz.prog 274 #[.pointer (some ⟨sp, 0, none⟩), .agg #[.string p.1, .int .i32 p.2], .string d, .map (some rc), vi, .map (some rq)] w
  (ProcPost G H sp rb rm rc rq cp p c d (X ++ (c, vc, xs ++ p :: ys) :: Y) lq n (foots ([Rs.cur rc (X ++ (c, vc, xs ++ p :: ys) :: Y), Rs.map rq isTp lq] ++ movM sp rb rm cp E0 D I Mv)) w) := by
 have hst0 : St (foots ([Rs.cur rc (X ++ (c, vc, xs ++ p :: ys) :: Y), Rs.map rq isTp lq] ++ movM sp rb rm cp E0 D I Mv)) w w ([Rs.cur rc (X ++ (c, vc, xs ++ p :: ys) :: Y), Rs.map rq isTp lq] ++ movM sp rb rm cp E0 D I Mv) [] := St.start (by rw [List.append_nil]; exact how)
 clear how
 generalize foots ([Rs.cur rc (X ++ (c, vc, xs ++ p :: ys) :: Y), Rs.map rq isTp lq] ++ movM sp rb rm cp E0 D I Mv) = S at *
 have hmv := fun W (h : Ow W (movM sp rb rm cp E0 D I Mv)) => move_any G H sp rb rm cp E0 D I Mv p (c, d) W h hok hp hG
 have hkn : ((X ++ (c, vc, xs ++ p :: ys) :: Y).map (·.1)).Nodup := cur_keys (hst0.m 0 rfl)
 have HO := Zhd (Zan hmv (Zan hd (Zan hpx (Zan hln (Zan hb hkn))))); clear hmv hd hpx hln hb hkn hok hp hG
 have hst1 := hst0.blk (.cells #[.string p.1, .int .i32 p.2] 384)
 have cb := hst1.cell2 0 rfl
 have hmq : MapAt _ isTp rq lq := hst1.m 2 rfl
 go_enter Tryz.func274, Tryz.ntmps274
 go_upto_region 2 with (first
  | (refine wl_lk (kv := tpV p) rfl rfl rfl rfl keyT_tp Tryz.underlying387 hmq hlq ?_)
  | fail)
 have hst2 := hst1.drew
 have cb2 := hst2.cell2 0 rfl
 have hst3 := hst2.perm (M' := movM sp rb rm cp E0 D I Mv ++ [Rs.blk w.heap.size (.cells #[.string p.1, .int .i32 p.2] 384 (0, 0)), Rs.cur rc (X ++ (c, vc, xs ++ p :: ys) :: Y), Rs.map rq isTp lq]) (List.perm_append_comm (l₁ := [Rs.blk w.heap.size (.cells #[.string p.1, .int .i32 p.2] 384 (0, 0)), Rs.cur rc (X ++ (c, vc, xs ++ p :: ys) :: Y), Rs.map rq isTp lq]) (l₂ := movM sp rb rm cp E0 D I Mv))
 have hcall := HO.out.1 _ (by have h := hst3.ow; rw [List.append_nil] at h; exact h.left)
 have HS := Zhd (Zan hcall (Zan hst3 hlq)); clear hcall hst3 hst2 hst1 hst0 hmq hlq
 go_region_held3 (fun W => W.cell? ⟨w.heap.size, 0, none⟩ = some (.string p.1) ∧ W.cell? ⟨w.heap.size, 1, none⟩ = some (.int .i32 p.2))
  (first | exact cb2 | exact cb4 | fail)
  (first
    | (go_at_call 277
       refine HS.out.1.mono ?_
       rintro e w3 ⟨E1, D1, I1, Mv1, rfl, hok1, hst4⟩
       have hst5 := St.call HS.out.2.1 hst4
       have hst6 := hst5.perm (List.perm_append_comm)
       have cb4 := hst6.cell2 0 rfl)
    | fail)
 all_goals
  have HK := Zhd (Zan hok1 HS.out.2.2); clear HS hst5 hst4 cb2 cb
  have hst7 := hst6.front 1 rfl
  simp only [List.cons_append, List.nil_append, Ze0, Ze1] at hst7
  clear hst6
  obtain ⟨hrow, _⟩ := cur_row (hst7.m 0 rfl) (x := (c, vc, xs ++ p :: ys)) (by simp)
  simp only at hrow
  obtain ⟨gc, cc, rfl⟩ := own_some hrow (by rw [List.length_append, List.length_cons]; omega)
  have hcin := cur_in (A := X ++ (c, .slice (some ⟨gc, 0, none⟩) (xs ++ p :: ys).length cc, xs ++ p :: ys) :: Y) (x := (c, .slice (some ⟨gc, 0, none⟩) (xs ++ p :: ys).length cc, xs ++ p :: ys)) (by simp)
  simp only at hcin
  have hpl := HO.out.2.2.2.2.1 (c, .slice (some ⟨gc, 0, none⟩) (xs ++ p :: ys).length cc, xs ++ p :: ys) (by simp)
  simp only at hpl
  have hRL : ∀ v (r : List TP), rowsT (X ++ (c, v, r) :: Y) = rowsT X ++ (.string c, v, r.flatMap encTp) :: rowsT Y := fun v r => by rw [rowsT_append, rowsT_cons]; rfl
  have hst8 := hst7
  rw [Rs.cur, hRL] at hst8
  obtain ⟨n0, hst9⟩ := hst8.rowOut
  have hn0 : n0 = (xs ++ p :: ys).length := by first | exact own_len (hst9.m 1 rfl) | exact (own_len (hst9.m 1 rfl)).symm
  subst hn0
  have hcin2 : ((.string c : Value), Value.slice (some ⟨gc, 0, none⟩) (xs ++ p :: ys).length cc) ∈ rawR (rowsT X ++ (.string c, .slice (some ⟨gc, 0, none⟩) (xs ++ p :: ys).length cc, (xs ++ p :: ys).flatMap encTp) :: rowsT Y) := by rw [rawR_append, rawR_cons]; simp
  have hrnd := (show MapAt w3 isStr rc _ from hst9.m 0 rfl).nodup
  obtain ⟨k, hk⟩ : ∃ k, (xs ++ p :: ys).length = k := ⟨_, rfl⟩
  rw [rawR_append, rawR_cons] at hrnd
  rw [hk] at hst9 hcin2 hrnd hpl ⊢
  have cb5 := hst9.cell2 3 rfl
  have hst10 := hst9.front 1 rfl
  simp only [Ze0, Ze1] at hst10
  have hrem := fun W (h : Ow W [Rs.row 384 2 (.slice (some ⟨gc, 0, none⟩) k cc) k ((xs ++ p :: ys).flatMap encTp)]) => remove_in p gc k cc xs ys W h hk (by omega) HO.out.2.2.1
  have hcall := hrem _ (hst10.ow.sub (List.Sublist.cons_cons _ (List.nil_sublist _)))
  have hm9 : MapAt w3 isStr rc _ := hst9.m 0 rfl
  have hfo : foots [Rs.row 384 2 (.slice (some ⟨gc, 0, none⟩) k cc) k ((xs ++ p :: ys).flatMap encTp)] = [gc] := by simp [foots, Rs.row, Value.ownBlock]
  have HF := Zhd hfo; clear hfo
  have HR := Zhd (Zan hcall (Zan hst10 (Zan hrnd (Zan hRL (Zan hk hpl))))); clear hcall hst10 hrem hrnd hRL hk hpl hst9 hst7 hst8 hrow hcin cb4
  go_upto_region 4 with (first
   | (refine wl_lk rfl rfl rfl rfl (keyT_str Tryz.underlying9) Tryz.underlying378 hm9 hcin2 ?_)
   | (refine wl_upd (kv := .string c) (vv := .slice va vn vcc) 1 rfl rfl rfl rfl rfl (keyT_str Tryz.underlying9) Tryz.underlying378 hst12 rfl ⟨_, rfl⟩ ?_
      intro w5 hst13
      simp only [Zs0, Zs1] at hst13)
   | (go_at_call 249
      refine HR.out.1.mono ?_
      rintro e w4 ⟨v', rfl, hst11⟩
      have hst12 := St.call1 HR.out.2.1 (M1' := [Rs.row 384 2 v' (k - 1) ((xs ++ ys).flatMap encTp)]) (G := []) (by rw [HF.out]; exact hst11)
      obtain ⟨va, vn, vcc, rfl⟩ := own_form (show w4.ownsRow 0 384 2 v' (k - 1) _ from hst12.m 0 rfl)
      simp only [List.cons_append, List.nil_append] at hst12)
   | fail)
  have hst14 := hst13.front 1 rfl
  simp only [Ze0, Ze1] at hst14
  have ehit : putE (rawR (rowsT X ++ (.string c, .slice (some ⟨gc, 0, none⟩) k cc, (xs ++ p :: ys).flatMap encTp) :: rowsT Y)) (.string c) (.slice va vn vcc) = rawR (rowsT X ++ (.string c, .slice va vn vcc, (xs ++ ys).flatMap encTp) :: rowsT Y) := by
   rw [rawR_append, rawR_cons, putE_hit HR.out.2.2.1, rawR_append, rawR_cons]
  rw [ehit] at hst14
  have hst15 := hst14.rowIn
  rw [← HR.out.2.2.2.1] at hst15
  have hst16 : St S w w5 (Rs.cur rc (X ++ (c, .slice va vn vcc, xs ++ ys) :: Y) :: _) [] := hst15
  have hd1 : (d, vd, qs) ∈ X ++ (c, .slice va vn vcc, xs ++ ys) :: Y := by
   rcases Zap.1 HO.out.2.1 with h | h
   · simp [h]
   · simp [h]
  clear hst15 hst14 hst13 hst12 hst11 ehit hm9 hcin2
  obtain ⟨X2, Y2, eXY⟩ := List.append_of_mem hd1
  have hln2 : (X2 ++ (d, vd, qs) :: Y2).length = n := by rw [← eXY]; have := HO.out.2.2.2.1; simp at this ⊢; omega
  have hb2 : ∀ z ∈ X2 ++ (d, vd, qs) :: Y2, z.2.2.length ≤ 1000 := fun z hz => by
   rw [← eXY] at hz
   rcases Zap.1 hz with h | h
   · exact HO.out.2.2.2.2.1 z (by simp [h])
   · rcases Zmc.1 h with rfl | h
     · have h1 := HR.out.2.2.2.2.1
       have h2 := HR.out.2.2.2.2.2
       simp at h1 ⊢; omega
     · exact HO.out.2.2.2.2.1 z (by simp [h])
  have hmvd := fun v'' => moved_two (v'' := v'') HO.out.2.2.2.2.2 hcd eXY
  rw [eXY] at hst16
  obtain ⟨_, ad, cd, hvd⟩ := cur_row (hst16.m 0 rfl) (x := (d, vd, qs)) (by simp)
  simp only at hvd
  subst hvd
  have hst17 := hst16
  have eR : rowsT (X2 ++ (d, .slice ad qs.length cd, qs) :: Y2) = rowsT X2 ++ (.string d, .slice ad qs.length cd, qs.flatMap encTp) :: rowsT Y2 := by rw [rowsT_append, rowsT_cons]; rfl
  have e2 : ∀ v', rowsT X2 ++ (.string d, v', qs.flatMap encTp ++ [.string p.1, .int .i32 p.2]) :: rowsT Y2 = rowsT (X2 ++ (d, v', qs ++ [p]) :: Y2) := fun v' => by
   rw [rowsT_append, rowsT_cons]; simp [rowT, encTp]
  rw [Rs.cur, eR] at hst17
  have hin1 : (Value.string d, Value.slice ad qs.length cd) ∈ rawR (rowsT X2 ++ (.string d, .slice ad qs.length cd, qs.flatMap encTp) :: rowsT Y2) := by rw [rawR_append, rawR_cons]; simp
  have hql := hb2 (d, .slice ad qs.length cd, qs) (by simp)
  simp only at hql
  have cb6 := hst17.cell2a 1 rfl
  have cb7 := hst17.cell2 1 rfl
  have hmc := (hst17.m 0 rfl : RowsAt w5 isStr rc 384 2 _).map
  have HE := Zhd (Zan e2 (Zan hln2 (Zan hb2 (Zan hmvd eXY)))); clear e2 hln2 hb2 hmvd eXY hst16 eR hd1 cb5
  generalize w.heap.size = bp at *
  go_wp2_with (first
   | (refine wl_lk rfl rfl rfl rfl (keyT_str Tryz.underlying9) Tryz.underlying378 hmc hin1 ?_)
   | (refine wl_build1 (x := tpV p) rfl rfl rfl (build_tp p _) ?_)
   | (refine wl_rowapp 0 rfl rfl rfl rfl elTp rfl rfl (fun _ => rfl) (fun _ => rfl) (fun _ => rfl) (keyT_str Tryz.underlying9) Tryz.underlying378 (hst17.alloc _) rfl ((new_tp _ p).src Tryz.underlying375) (fun n hn => by rw [encs_len] at hn; omega) ?_
      intro v' w6 hst18
      simp only [Zs1, Zs0, HE.out.1] at hst18
      have cb8 := hst18.cell2 1 rfl)
   | (refine wl_upd (kv := tpV p) (vv := .string d) 2 rfl rfl rfl rfl rfl keyT_tp Tryz.underlying387 hst18 rfl ⟨_, _, rfl⟩ ?_
      intro w7 hst19
      simp only [Zs1, Zs0] at hst19
      have hsc := sort_cur rc _ w7 (hst19.m 0 rfl) (by have := HE.out.2.1; simp at this ⊢; omega) (fun z hz => by
       rcases Zap.1 hz with h | h
       · have := HE.out.2.2.1 z (by simp [h]); omega
       · rcases Zmc.1 h with rfl | h
         · simp; omega
         · have := HE.out.2.2.1 z (by simp [h]); omega)
      rw [show (X2 ++ (d, v', qs ++ [p]) :: Y2).length = n from by have := HE.out.2.1; simp at this ⊢; omega] at hsc
      have HSC := Zhd hsc; clear hsc)
   | (go_at_call 232
      refine (HSC.out).mono ?_
      rintro e w8 ⟨g8, c8, L8, rfl, hL8, hst20⟩)
   | fail)
  have hst21 := St.call (M1 := []) hst19 hst20
  have hst22 := ((hst21.drop 2).front 2 rfl).front 2 rfl
  simp only [List.cons_append, List.nil_append, Ze0, Ze1] at hst22
  have hk2 : (X2 ++ (d, v', qs ++ [p]) :: Y2).map (·.1) = (X ++ (c, .slice (some ⟨gc, 0, none⟩) (xs ++ p :: ys).length cc, xs ++ p :: ys) :: Y).map (·.1) := by
   rw [mid_keys (v := .slice ad qs.length cd) (r := qs), ← HE.out.2.2.2.2, mid_keys (v := .slice (some ⟨gc, 0, none⟩) (xs ++ p :: ys).length cc) (r := xs ++ p :: ys)]
  have hfin : ProcPost G H sp rb rm rc rq cp p c d (X ++ (c, .slice (some ⟨gc, 0, none⟩) (xs ++ p :: ys).length cc, xs ++ p :: ys) :: Y) lq n S w (.returned (.slice (some ⟨g8, 0, none⟩) n c8)) w8 :=
   ⟨E1, D1, I1, Mv1, _, g8, c8, L8, rfl, HK.out.1, hL8, HE.out.2.2.2.1 v', hk2, hst22⟩
  have HFN := Zhd hfin; clear hfin hst22 hst21 hst20 hst19 hst18 hst17
  go_ret
  exact HFN.out
end
end Go.Proofs.YticcnlpfmekagaaGreat
