/- Part 32 of the proof of the row: Reas. -/
import Derived.Test.YticcnlpfmekagaaGreatRc00
import Derived.Test.YticcnlpfmekagaaGreatRc31
set_option linter.unusedVariables false
set_option linter.unusedSimpArgs false
set_option maxRecDepth 100000
set_option maxHeartbeats 8000000
namespace Go.Proofs.YticcnlpfmekagaaGreat
section
open Go Go.Proofs Go.RowKit Go.Lib
open Classical
theorem up_store2 {P : Program} {o : Oper} {a : Act} {w : World} {K : Act → World → Prop} {Q : Exit → Act → World → Prop} {f : Unit → World → Result Next} (hf : ∀ u w', f u w' = .ok .skip w') {X E : Nat} {a0 a1 v0 v1 : Value}
 (h : w.heap[X]? = some (.cells #[a0, a1] E (0, 0)))
 (hK : ∀ w', w'.heap[X]? = some (.cells #[v0, v1] E (0, 0)) → Kept [X] w w' → w'.heap.size = w.heap.size → K (a.put o.dst undef) w') :
 Oper.upon P o a K Q (((stored P w ⟨X, 0, none⟩ v0 .plain).andThen fun _ w' => stored P w' ⟨X, 1, none⟩ v1 .plain).andThen f) := by
 have h1 := row_set h 0 v0
 have h2 := row_set h1 1 v1
 rw [row_stored h (by simp), Result.andThen_ok, row_stored h1 (by simp), Result.andThen_ok, hf, Oper.upon_skip]
 refine hK _ (by simpa using h2) ?_ (by simp)
 exact ((Kept.refl _ _).setCell _ (by simp)).setCell _ (by simp)
section
variable (G : ByteArray → Prop) (H : TP → Prop) (sp rb rm rc rq n : Nat) (cp : Bool) (E0 : List (ByteArray × Nat)) (D : List (Nat × List (Pr × Nat))) (I : List (Nat × List (Value × Value))) (Mv : List (TP × Pr)) (p : TP) (c d : ByteArray) (X Y : List Rw) (vc vi : Value) (xs ys : List TP) (vd : Value) (qs : List TP) (lq : List (Value × Value)) (w : World)
abbrev procM : List Res := [Rs.cur rc (X ++ (c, vc, xs ++ p :: ys) :: Y), Rs.map rq isTp lq] ++ movM sp rb rm cp E0 D I Mv
structure ProcOk : Prop where
 ok : MovOk G H E0 D I Mv
 fr : ∀ y ∈ Mv, y.1 ≠ p
 gd : G d
 gc : ¬ G c
 cd : c ≠ d
 d : (d, vd, qs) ∈ X ++ Y
 px : p ∉ xs
 lq : (tpV p, Value.string c) ∈ lq
 ln : (X ++ (c, vc, xs ++ p :: ys) :: Y).length = n
 l : n ≤ 1000
 b : ∀ x ∈ X ++ (c, vc, xs ++ p :: ys) :: Y, x.2.2.length ≤ 1000
theorem reas_any (how : Ow w (procM sp rb rm rc rq cp E0 D I Mv p c X Y vc xs ys lq)) (hok : ProcOk G H n E0 D I Mv p c d X Y vc xs ys vd qs lq) :
 Calls Tryz.prog 268 #[.pointer (some ⟨sp, 0, none⟩), .agg #[.string p.1, .int .i32 p.2], .map (some rc), vi, .map (some rq), .string d] w
  (ProcPost G H sp rb rm rc rq cp p c d (X ++ (c, vc, xs ++ p :: ys) :: Y) lq n (foots (procM sp rb rm rc rq cp E0 D I Mv p c X Y vc xs ys lq)) w) := by
 have hst0 : St (foots (procM sp rb rm rc rq cp E0 D I Mv p c X Y vc xs ys lq)) w w (procM sp rb rm rc rq cp E0 D I Mv p c X Y vc xs ys lq) [] := St.start (by rw [List.append_nil]; exact how)
 clear how
 have hact := fun W (k : Kept [] w W) => actual_any G H sp rb rm cp E0 D I Mv p (c, d) W (by have h := (hst0.kept0 k).ow; rw [List.append_nil] at h; exact h.right) hok.ok hok.fr hok.gc
 have hpro := fun W (k : Kept [] w W) => process_any G H sp rb rm rc rq n cp E0 D I Mv p c d X Y vc vi xs ys vd qs lq W (by have h := (hst0.kept0 k).ow; rw [List.append_nil] at h; exact h) hok.ok hok.fr hok.gd hok.cd hok.d hok.px hok.lq hok.ln hok.l hok.b
 have hlq := hok.lq
 have hst1 := hst0.blk (.cells #[.string p.1, .int .i32 p.2] 384)
 have cb := hst1.cell2 0 rfl
 have hmq : MapAt _ isTp rq lq := hst1.m 2 rfl
 have hk1 : Kept [] w (w.alloc (.cells #[.string p.1, .int .i32 p.2] 384)).drew := ((Kept.refl _ _).alloc _).drew
 have HO := Zhd (Zan hact (Zan hpro hst0)); clear hact hpro hst0
 go_enter Tryz.func268, Tryz.ntmps268
 go_upto_region 2 with (first
  | (refine wl_lk (kv := tpV p) rfl rfl rfl rfl keyT_tp Tryz.underlying387 hmq hlq ?_)
  | fail)
 have hcb : ∀ W, Kept [] (w.alloc (.cells #[.string p.1, .int .i32 p.2] 384)) W → W.cell? ⟨w.heap.size, 0, none⟩ = some (.string p.1) ∧ W.cell? ⟨w.heap.size, 1, none⟩ = some (.int .i32 p.2) := fun W hW => ⟨hW.cell cb.1 (by simp), hW.cell cb.2 (by simp)⟩
 have HCB := Zhd hcb
 clear hst1 hmq hlq cb hk1 hcb
 have hk0 : Kept [] w (w.alloc (.cells #[.string p.1, .int .i32 p.2] 384)) := (Kept.refl _ _).alloc _
 generalize w.alloc (.cells #[.string p.1, .int .i32 p.2] 384) = V0 at *
 go_region_held3 (fun W => W.cell? ⟨w.heap.size, 0, none⟩ = some (.string p.1) ∧ W.cell? ⟨w.heap.size, 1, none⟩ = some (.int .i32 p.2))
  (first | with_reducible exact HCB.out _ (Kept.refl _ _).drew | with_reducible exact HCB.out _ ((Kept.refl _ _).alloc _).drew | with_reducible exact HCB.out _ hkv9 | with_reducible exact HCB.out _ hkv3 | with_reducible exact HCB.out _ (hkv3.alloc _) | fail)
  (first
    | (refine up_store2 (fun _ _ => rfl) hb3 ?_
       intro w9 h9 k9 s9
       have hkv9 := kept_new hkv3 k9 (Nat.le_refl _))
    | (refine up_store2 (fun _ _ => rfl) (heap_alloc_new _ _) ?_
       intro w9 h9 k9 s9
       have hkv9 := kept_new (hkv3.alloc _) k9 hkv3.size)
    | (go_at_call 273
       refine (HO.out.1 _ hk0.drew).mono ?_
       rintro e w3 ⟨rfl, hk3⟩
       have hkv3 : Kept [] V0 w3 := hk3.of_drew)
    | (go_at_call 273
       refine (HO.out.1 _ (hk0.alloc (.cells #[.string ⟨#[]⟩, .int .i32 0] 384)).drew).mono ?_
       rintro e w3 ⟨rfl, hk3⟩
       have hkv3 : Kept [] V0 w3 := ((Kept.refl [] V0).alloc (.cells #[.string ⟨#[]⟩, .int .i32 0] 384)).drew.trans hk3 (U := []) (by simp) (by simp)
       have hb3 := hk3.heap (show (V0.alloc (.cells #[.string ⟨#[]⟩, .int .i32 0] 384)).drew.heap[V0.heap.size]? = _ from heap_alloc_new V0 (.cells #[.string ⟨#[]⟩, .int .i32 0] 384)) (by simp))
    | fail)
 all_goals
  first
   | have hq := Zan h9 hkv9
   | (have h9 := heap_alloc_new w3 (.cells #[.string p.1, .int .i32 p.2] 384)
      have hkv9 := hkv3.alloc (.cells #[.string p.1, .int .i32 p.2] 384)
      generalize w3.alloc (.cells #[.string p.1, .int .i32 p.2] 384) = w9 at *)
  have q0 := (cells_of h9).1 0 _ rfl
  have q1 := (cells_of h9).1 1 _ rfl
  simp only [List.getElem_toArray, List.getElem_cons_succ, List.getElem_cons_zero] at q0 q1
  have hkw := hk0.trans hkv9 (U := []) (by simp) (by simp)
  have hst9 := HO.out.2.2.kept0 hkw
  have HP := Zhd (Zan (HO.out.2.1 _ hkw) hst9); clear hst9
  go_wp2_with (first
   | (go_at_call 274
      refine HP.out.1.mono ?_
      rintro e w10 ⟨E1, D1, I1, Mv1, A2, g2, c2, L2, rfl, r1, r2, r3, r4, hst10⟩)
   | fail)
  have hfin : ProcPost G H sp rb rm rc rq cp p c d (X ++ (c, vc, xs ++ p :: ys) :: Y) lq n (foots (procM sp rb rm rc rq cp E0 D I Mv p c X Y vc xs ys lq)) w (.returned (.slice (some ⟨g2, 0, none⟩) n c2)) w10 := ⟨E1, D1, I1, Mv1, A2, g2, c2, L2, rfl, r1, r2, r3, r4, by
   have h := St.call (M1 := procM sp rb rm rc rq cp E0 D I Mv p c X Y vc xs ys lq) (M2 := []) (by rw [List.append_nil]; exact HP.out.2) hst10
   rwa [List.append_nil] at h⟩
  have HFN := Zhd hfin; clear hfin hst10 r1 r2 r3 r4
  go_ret
  exact HFN.out
variable (rp gi ci : Nat) (L : List (ByteArray × Nat)) (k : Nat) (Pp : List Rw) (pv : Value) (pq : List TP)
theorem least_any (how : Ow w (procM sp rb rm rc rq cp E0 D I Mv p c X Y vc xs ys lq ++ [Rs.ids (.slice (some ⟨gi, 0, none⟩) n ci) n L, Rs.cur rp Pp])) (hok : ProcOk G H n E0 D I Mv p c d X Y vc xs ys vd qs lq) (hL : L[0]? = some (d, k)) (hpv : (d, pv, pq) ∈ Pp) (hpp : p ∈ pq) (hpl : pq.length ≤ 1000000) :
 Calls Tryz.prog 269 #[.pointer (some ⟨sp, 0, none⟩), .agg #[.string p.1, .int .i32 p.2], .map (some rc), .slice (some ⟨gi, 0, none⟩) n ci, .map (some rq), .map (some rp)] w
  (ProcPost G H sp rb rm rc rq cp p c d (X ++ (c, vc, xs ++ p :: ys) :: Y) lq n (foots (procM sp rb rm rc rq cp E0 D I Mv p c X Y vc xs ys lq)) w) := by
 have hst0 : St (foots (procM sp rb rm rc rq cp E0 D I Mv p c X Y vc xs ys lq)) w w (procM sp rb rm rc rq cp E0 D I Mv p c X Y vc xs ys lq) [Rs.ids (.slice (some ⟨gi, 0, none⟩) n ci) n L, Rs.cur rp Pp] := St.start how
 clear how
 have hre := fun W (k : Kept [] w W) => reas_any G H sp rb rm rc rq n cp E0 D I Mv p c d X Y vc (.slice (some ⟨gi, 0, none⟩) n ci) xs ys vd qs lq W (hst0.kept0 k).ow.left hok
 have hn0 : 0 < n := by have := hok.ln; simp at this; omega
 have hn1 := hok.l
 have hc0 := fun o => (own_cell ((hst0.alloc o).r 0 rfl) (j := 0) (u := .string d) (by simp only [names, strs, List.getElem?_map, hL, Option.map_some])).1
 have hinc : ∀ o, Calls Tryz.prog 266 #[pv, tpV p] (w.alloc o) fun e w' => e = .returned (.bool true) ∧ Kept [] (w.alloc o) w' := fun o => by
  have h1 := inclTp_at (cur_sl ((hst0.alloc o).r 1 rfl) hpv) p (by simp only; omega)
  have h2 : (pq.any fun y => eqTp p y) = true := List.any_eq_true.2 ⟨p, hpp, eqTp_self p⟩
  simp only [h2] at h1
  exact h1
 have hpm := fun o => (show RowsAt (w.alloc o) isStr rp 384 2 (rowsT Pp) from (hst0.alloc o).r 1 rfl).map
 have hpin := cur_in hpv
 simp only at hpin
 have hst1 := hst0.blk (.cells #[.string p.1, .int .i32 p.2] 384)
 have cb := hst1.cell2 0 rfl
 have HO := Zhd (Zan hre (Zan hinc (Zan hst0 cb))); clear hre hinc hst0 hst1
 have hn2 : (0 : Int) < (n : Int) := by omega
 have hcb : ∀ W, Kept [] (w.alloc (.cells #[.string p.1, .int .i32 p.2] 384)) W → W.cell? ⟨w.heap.size, 0, none⟩ = some (.string p.1) ∧ W.cell? ⟨w.heap.size, 1, none⟩ = some (.int .i32 p.2) := fun W hW => ⟨hW.cell cb.1 (by simp), hW.cell cb.2 (by simp)⟩
 have HCB := Zhd hcb; clear hcb
 go_enter Tryz.func269, Tryz.ntmps269
 go_wp2_with fail
 go_loopw [17] (fun i wr => i = .int .i64 0 ∧ wr = w.alloc (.cells #[.string p.1, .int .i32 p.2] 384)) (fun _ _ => 0)
 case atStart => exact ⟨rfl, rfl⟩
 case round =>
  obtain ⟨rfl, rfl⟩ := hrel
  go_wp2_with (first
   | (refine wl_lk rfl rfl rfl rfl (keyT_str Tryz.underlying9) Tryz.underlying378 (hpm _) hpin ?_)
   | (go_at_call 266
      refine (HO.out.2.1 _).mono ?_
      rintro e w1 ⟨rfl, hk1⟩
      obtain ⟨d0, d1⟩ := HCB.out _ hk1
      have hkw : Kept [] w w1 := ((Kept.refl [] w).alloc _).trans hk1 (U := []) (by simp) (by simp)
      have HP := Zhd (Zan (HO.out.1 _ hkw) (HO.out.2.2.1.kept0 hkw)))
   | (go_at_call 268
      refine HP.out.1.mono ?_
      rintro e w10 ⟨E1, D1, I1, Mv1, A2, g2, c2, L2, rfl, r1, r2, r3, r4, hst10⟩)
   | fail)
  have hfin : ProcPost G H sp rb rm rc rq cp p c d (X ++ (c, vc, xs ++ p :: ys) :: Y) lq n (foots (procM sp rb rm rc rq cp E0 D I Mv p c X Y vc xs ys lq)) w (.returned (.slice (some ⟨g2, 0, none⟩) n c2)) w10 := ⟨E1, D1, I1, Mv1, A2, g2, c2, L2, rfl, r1, r2, r3, r4, by
   have h := St.call (M1 := procM sp rb rm rc rq cp E0 D I Mv p c X Y vc xs ys lq) (M2 := []) (R := [Rs.ids (.slice (some ⟨gi, 0, none⟩) n ci) n L, Rs.cur rp Pp]) (by rw [List.append_nil]; exact HP.out.2) hst10
   rw [List.append_nil] at h
   exact h.noR⟩
  have HFN := Zhd hfin; clear hfin hst10 r1 r2 r3 r4
  go_ret
  exact HFN.out
end
end
end Go.Proofs.YticcnlpfmekagaaGreat
