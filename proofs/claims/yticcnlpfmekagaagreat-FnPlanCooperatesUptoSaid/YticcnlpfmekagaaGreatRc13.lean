/- Part 13 of the proof of the row: Asg, StRow, Copies. -/
import Derived.Test.YticcnlpfmekagaaGreatRc00
import Derived.Test.YticcnlpfmekagaaGreatRc12
import Derived.Test.YticcnlpfmekagaaGreatRc09
import Derived.Test.YticcnlpfmekagaaGreatRc08
set_option linter.unusedVariables false
set_option linter.unusedSimpArgs false
set_option maxRecDepth 100000
set_option maxHeartbeats 8000000
namespace Go.Proofs.YticcnlpfmekagaaGreat
section
open Go Go.Proofs Go.RowKit Go.Lib
open Classical
theorem infoTp : (Tryz.prog.info? 384).map (fun i => (i.zero, i.size, i.bytes)) = some (some (.agg #[.string ⟨#[]⟩, .int .i32 0]), 2, 24) := by kernel_rfl
theorem elTp : Elem Tryz.prog 375 384 2 24 (.agg #[.string ⟨#[]⟩, .int .i32 0]) := ⟨Tryz.underlying375, info_parts infoTp, rfl, by omega⟩
abbrev Rw := ByteArray × Value × List TP
def rowT (x : Rw) : MRow := (.string x.1, x.2.1, x.2.2.flatMap encTp)
def rowsT (A : List Rw) : List MRow := A.map rowT
abbrev Rs.cur (r : Nat) (A : List Rw) : Res := Rs.rows isStr r 384 2 (rowsT A)
def asgT (A : List Rw) : Asg := A.map fun x => (x.1, x.2.2)
def loadT (A : List Rw) : List (ByteArray × Nat) := A.map fun x => (x.1, x.2.2.length)
theorem rowsT_append (A B : List Rw) : rowsT (A ++ B) = rowsT A ++ rowsT B := by simp [rowsT]
theorem rowsT_cons (x : Rw) (B : List Rw) : rowsT (x :: B) = rowT x :: rowsT B := rfl
theorem encs_len (l : List TP) : (l.flatMap encTp).length = l.length * 2 := by
 induction l with
 | nil => rfl
 | cons x l ih => simp only [List.flatMap_cons, List.length_append, ih, List.length_cons]; simp [encTp]; omega
theorem encs_one (l : List TP) : ∀ u ∈ l.flatMap encTp, u.oneCell' = true := by
 intro u hu
 obtain ⟨x, _, hx⟩ := List.mem_flatMap.1 hu
 simp [encTp] at hx
 rcases hx with rfl | rfl <;> rfl
section
variable {w : World} {r : Nat} {A : List Rw}
theorem cur_row (h : RowsAt w isStr r 384 2 (rowsT A)) {x : Rw} (hx : x ∈ A) : w.ownsRow 0 384 2 x.2.1 x.2.2.length (x.2.2.flatMap encTp) ∧ ∃ a c, x.2.1 = .slice a x.2.2.length c := by
 obtain ⟨n, hn⟩ := h.each (rowT x) (List.mem_map_of_mem hx)
 have h1 : n = x.2.2.length := by
  have := hn.1
  simp only [rowT, encs_len] at this
  omega
 subst h1
 have hn' : w.ownsRow 0 384 2 x.2.1 x.2.2.length (x.2.2.flatMap encTp) := hn
 obtain ⟨a, c, e, _⟩ := own_cap hn'
 exact ⟨hn', a, c, e⟩
theorem cur_sl (h : RowsAt w isStr r 384 2 (rowsT A)) {x : Rw} (hx : x ∈ A) : SlAt w 2 x.2.1 x.2.2.length (x.2.2.flatMap encTp) := own_sl (cur_row h hx).1 (encs_one _)
theorem cur_in {x : Rw} (hx : x ∈ A) : (Value.string x.1, x.2.1) ∈ rawR (rowsT A) := List.mem_map_of_mem (f := fun x : MRow => (x.1, x.2.1)) (List.mem_map_of_mem (f := rowT) hx)
theorem cur_loads (h : RowsAt w isStr r 384 2 (rowsT A)) : loadsOf (rawR (rowsT A)) = loadT A := by
 unfold loadsOf rawR rowsT loadT
 rw [List.map_map, List.map_map]
 refine List.map_congr_left fun x hx => ?_
 obtain ⟨_, a, c, e⟩ := cur_row h hx
 simp [rowT, e, nameOf, lenOf]
theorem cur_slval (h : RowsAt w isStr r 384 2 (rowsT A)) (hb : ∀ x ∈ A, x.2.2.length ≤ 1000000000) : ∀ p ∈ rawR (rowsT A), SlVal p := by
 intro p hp
 obtain ⟨q, hq, rfl⟩ := List.mem_map.1 hp
 obtain ⟨x, hx, rfl⟩ := List.mem_map.1 hq
 obtain ⟨_, a, c, e⟩ := cur_row h hx
 exact ⟨x.1, a, _, c, by simp [rowT, e], hb x hx⟩
theorem raw_len : (rawR (rowsT A)).length = A.length := by simp [rawR, rowsT]
theorem cur_keys (h : RowsAt w isStr r 384 2 (rowsT A)) : (A.map (·.1)).Nodup := by
 have h1 := h.keys
 have e : (rowsT A).map (·.1) = (A.map (·.1)).map Value.string := by simp [rowsT, rowT, Function.comp_def]
 rw [e] at h1
 exact (List.pairwise_map.1 h1).imp fun h e => h (by rw [e])
end
structure IdsOf (A : List Rw) (L : List (ByteArray × Nat)) : Prop where
 perm : L.Perm (loadT A)
 sorted : L.Pairwise (fun a b => ¬ idLt b a = true)
abbrev Rs.ids (v : Value) (n : Nat) (L : List (ByteArray × Nat)) : Res := Rs.row 9 1 v n (names L)
theorem idLt_len {a b : ByteArray × Nat} (h : ¬ idLt b a = true) : a.2 ≤ b.2 := by
 unfold idLt at h
 by_cases h1 : b.2 = a.2
 · omega
 · rw [if_neg h1] at h
   simp at h; omega
theorem IdsOf.first {A : List Rw} {x : ByteArray × Nat} {L : List (ByteArray × Nat)} (h : IdsOf A (x :: L)) : ∃ A1 v ps A2, A = A1 ++ (x.1, v, ps) :: A2 ∧ ps.length = x.2 ∧ ∀ y ∈ A, ps.length ≤ y.2.2.length := by
 have hx : x ∈ loadT A := h.perm.mem_iff.1 (by simp)
 obtain ⟨⟨m, v, ps⟩, hm, rfl⟩ := List.mem_map.1 hx
 obtain ⟨A1, A2, rfl⟩ := List.append_of_mem hm
 refine ⟨A1, v, ps, A2, rfl, rfl, fun y hy => ?_⟩
 have hy' : (y.1, y.2.2.length) ∈ (m, ps.length) :: L := h.perm.mem_iff.2 (List.mem_map_of_mem (f := fun x : Rw => (x.1, x.2.2.length)) hy)
 rcases Zmc.1 hy' with e | hy'
 · rw [Prod.mk.injEq] at e; omega
 · exact idLt_len ((List.pairwise_cons.1 h.sorted).1 _ hy')
theorem sort_cur (r : Nat) (A : List Rw) (w : World) (hc : RowsAt w isStr r 384 2 (rowsT A)) (hl : A.length ≤ 1000000) (hb : ∀ x ∈ A, x.2.2.length ≤ 1000000000) :
 Calls Tryz.prog 232 #[.map (some r)] w fun e w' => ∃ g c L, e = .returned (.slice (some ⟨g, 0, none⟩) A.length c) ∧ IdsOf A L ∧ St [] w w' [Rs.ids (.slice (some ⟨g, 0, none⟩) A.length c) A.length L] [] := by
 refine (sort_ids r _ w hc.map (by rw [raw_len]; exact hl) (cur_slval hc hb)).mono ?_
 rintro e w' ⟨g, c, L, rfl, hp, hs, hst⟩
 rw [raw_len] at *
 rw [cur_loads hc] at hp
 exact ⟨g, c, L, rfl, ⟨hp, hs⟩, hst⟩
theorem build_tp (p : TP) (w : World) : (Instr.buildSlice 375 1 #[(0, tpV p)]).run Tryz.prog w = .ok (.slice (some ⟨w.heap.size, 0, none⟩) 1 1) (w.alloc (.cells #[.string p.1, .int .i32 p.2] 384)) := by
 simp [Instr.buildSlice, go_sem]
theorem new_tp (w : World) (p : TP) : SlAt (w.alloc (.cells #[.string p.1, .int .i32 p.2] 384)) 2 (.slice (some ⟨w.heap.size, 0, none⟩) 1 1) 1 [.string p.1, .int .i32 p.2] := new_slN w 384 2 1 _ rfl (by decide) (by intro u hu; simp at hu; rcases hu with rfl | rfl <;> rfl)
theorem eqTp_self (p : TP) : eqTp p p = true := by simp [eqTp]
theorem assign_any (p : TP) (rc rp rq g n c : Nat) (A Pp : List Rw) (lq : List (Value × Value)) (L : List (ByteArray × Nat)) (w : World)
 (how : Ow w ([Rs.cur rc A, Rs.map rq isTp lq] ++ [Rs.ids (.slice (some ⟨g, 0, none⟩) n c) n L, Rs.cur rp Pp])) (hL : IdsOf A L) (hn : A.length = n) (hn0 : 0 < n) (hn1 : n ≤ 1000000) (hb : ∀ x ∈ A, x.2.2.length ≤ 1000000)
 (hP : ∀ x ∈ A, ∃ v qs, (x.1, v, qs) ∈ Pp ∧ p ∈ qs ∧ qs.length ≤ 1000000) :
 Calls Tryz.prog 247 #[tpV p, .slice (some ⟨g, 0, none⟩) n c, .map (some rc), .map (some rp), .map (some rq)] w fun e w' =>
  ∃ A1 m v ps A2 v' g' c' L', A = A1 ++ (m, v, ps) :: A2 ∧ (∀ y ∈ A, ps.length ≤ y.2.2.length) ∧ e = .returned (.slice (some ⟨g', 0, none⟩) n c') ∧ IdsOf (A1 ++ (m, v', ps ++ [p]) :: A2) L' ∧
   St (foots [Rs.cur rc A, Rs.map rq isTp lq]) w w' [Rs.ids (.slice (some ⟨g', 0, none⟩) n c') n L', Rs.cur rc (A1 ++ (m, v', ps ++ [p]) :: A2), Rs.map rq isTp (putE lq (tpV p) (.string m))] [] := by
 obtain ⟨x, L0, rfl⟩ : ∃ x L0, L = x :: L0 := by
  cases L with
  | nil => exfalso; have := hL.perm.length_eq; simp [loadT] at this; omega
  | cons x L0 => exact ⟨x, L0, rfl⟩
 obtain ⟨A1, v, ps, A2, rfl, hps, hmin⟩ := hL.first
 obtain ⟨m, ld⟩ := x
 simp only at *
 have hst0 := St.start how
 obtain ⟨pv, qs, hpin, hpq, hql⟩ := hP (m, v, ps) (by simp)
 have hcu := hst0.m 0 rfl
 obtain ⟨hrow, va, vc, hv⟩ := cur_row hcu (x := (m, v, ps)) (by simp)
 simp only at hv hrow
 subst hv
 have hcell : w.cell? ⟨g, 0, none⟩ = some (.string m) := (own_cell (hst0.r 0 rfl) (j := 0) (by simp [names, strs])).1
 have hinc : ∀ o, Calls Tryz.prog 266 #[pv, tpV p] (w.alloc o) fun e w' => e = .returned (.bool true) ∧ Kept [] (w.alloc o) w' := fun o => by
  have h1 := inclTp_at (cur_sl ((hst0.alloc o).r 1 rfl) hpin) p (by simp only; omega)
  have h2 : (qs.any fun y => eqTp p y) = true := List.any_eq_true.2 ⟨p, hpq, eqTp_self p⟩
  simp only [h2] at h1
  exact h1
 have HI := Zhd hinc; clear hinc
 have HX := Zhd (Zan hcu (Zan hmin (Zan hb (Zan hn hpin)))); clear hcu hmin hb hn hpin hP hpq hrow hps hL how
 have e1 : rowsT (A1 ++ (m, .slice va ps.length vc, ps) :: A2) = rowsT A1 ++ (.string m, .slice va ps.length vc, ps.flatMap encTp) :: rowsT A2 := by rw [rowsT_append, rowsT_cons]; rfl
 have e2 : ∀ v', rowsT A1 ++ (.string m, v', ps.flatMap encTp ++ [.string p.1, .int .i32 p.2]) :: rowsT A2 = rowsT (A1 ++ (m, v', ps ++ [p]) :: A2) := fun v' => by
  rw [rowsT_append, rowsT_cons]; simp [rowT, encTp]
 have hnn : A1.length + A2.length + 1 ≤ 1000000 := by have := HX.out.2.2.2.1; simp at this; omega
 have E2 := Zhd e2; clear e2
 have hc0 : ∀ o, (w.alloc o).cell? ⟨g, 0, none⟩ = some (.string m) := fun o => ca hcell
 have hn2 : (0 : Int) < (n : Int) := by omega
 clear hcell
 go_enter Tryz.func247, Tryz.ntmps247
 go_wp2_with fail
 go_loopw [15] (fun i wr => i = .int .i64 0 ∧ wr = w.alloc (.cells #[.string p.1, .int .i32 p.2] 384)) (fun _ _ => 0)
 case atStart => exact ⟨rfl, rfl⟩
 case round =>
  obtain ⟨rfl, rfl⟩ := hrel
  go_wp2_with (first
   | (refine wl_lk rfl rfl rfl rfl (keyT_str Tryz.underlying9) Tryz.underlying378 ((hst0.alloc _).r 1 rfl).map (cur_in HX.out.2.2.2.2) ?_)
   | fail)
  refine (HI.out _).mono ?_
  rintro e w1 ⟨rfl, hk1⟩
  have hst1 := (hst0.blk (.cells #[.string p.1, .int .i32 p.2] 384)).kept0 hk1
  rw [Rs.cur, e1] at hst1
  have cp := hst1.cell2a 0 rfl
  have cp0 := hst1.cell2 0 rfl
  have hpl := HX.out.2.2.1 (m, .slice va ps.length vc, ps) (by simp)
  simp only at hpl
  generalize w.heap.size = bp at hst1 cp cp0 ⊢
  have hin1 : (Value.string m, Value.slice va ps.length vc) ∈ rawR (rowsT A1 ++ (.string m, .slice va ps.length vc, ps.flatMap encTp) :: rowsT A2) := by rw [rawR_append, rawR_cons]; simp
  go_wp2_with (first
   | (refine wl_lk rfl rfl rfl rfl (keyT_str Tryz.underlying9) Tryz.underlying378 (hst1.m 1 rfl).map hin1 ?_)
   | (refine wl_build1 (x := tpV p) rfl rfl rfl (build_tp p _) ?_)
   | (refine wl_rowapp 1 rfl rfl rfl rfl elTp rfl rfl (fun _ => rfl) (fun _ => rfl) (fun _ => rfl) (keyT_str Tryz.underlying9) Tryz.underlying378 (hst1.alloc _) rfl ((new_tp _ p).src Tryz.underlying375) (fun n hn => by rw [encs_len] at hn; omega) ?_
      intro v' w2 hst2
      simp only [Zs1, Zs0, E2.out] at hst2
      have cp2 := hst2.cell2 0 rfl)
   | (refine wl_upd (kv := tpV p) (vv := .string m) 2 rfl rfl rfl rfl rfl keyT_tp Tryz.underlying387 hst2 rfl ⟨_, _, rfl⟩ ?_
      intro w3 hst3
      simp only [Zs1, Zs0] at hst3
      have hsc := sort_cur rc _ w3 (hst3.m 1 rfl) (by simp at hnn ⊢; omega) (fun x hx => by
       rcases Zap.1 hx with hx | hx
       · have := HX.out.2.2.1 x (by simp [hx]); omega
       · rcases Zmc.1 hx with rfl | hx
         · simp; omega
         · have := HX.out.2.2.1 x (by simp [hx]); omega)
      rw [show (A1 ++ (m, v', ps ++ [p]) :: A2).length = n from by have hn' := HX.out.2.2.2.1; simp at hn' ⊢; omega] at hsc
      have HSC := Zhd hsc; clear hsc)
   | (go_at_call 232
      refine (HSC.out).mono ?_
      rintro e w4 ⟨g4, c4, L4, rfl, hL4, hst4⟩)
   | fail)
  have hend : ∃ B1 m' u ps' B2 v' g' c' L', A1 ++ (m, Value.slice va ps.length vc, ps) :: A2 = B1 ++ (m', u, ps') :: B2 ∧ (∀ y ∈ A1 ++ (m, Value.slice va ps.length vc, ps) :: A2, ps'.length ≤ y.2.2.length) ∧
   Ending.returned (Value.slice (some ⟨g4, 0, none⟩) n c4) = .returned (.slice (some ⟨g', 0, none⟩) n c') ∧ IdsOf (B1 ++ (m', v', ps' ++ [p]) :: B2) L' ∧
   St (foots [Rs.cur rc (A1 ++ (m, Value.slice va ps.length vc, ps) :: A2), Rs.map rq isTp lq]) w w4 [Rs.ids (.slice (some ⟨g', 0, none⟩) n c') n L', Rs.cur rc (B1 ++ (m', v', ps' ++ [p]) :: B2), Rs.map rq isTp (putE lq (tpV p) (.string m'))] [] := by
   refine ⟨A1, m, _, ps, A2, v', g4, c4, L4, rfl, HX.out.2.1, rfl, hL4, ?_⟩
   rw [Rs.cur, e1]
   exact ((St.call (M1 := []) hst3 hst4).drop 1).noR
  have HE := Zhd hend; clear hend
  go_ret
  exact HE.out
end
section
open Go Go.RowKit
open Classical
def Rs.rw (E sz : Nat) (x : MRow) : Res := ⟨x.2.1.ownBlock.toList, fun w => ∃ n, w.ownsRow 0 E sz x.2.1 n x.2.2, fun w w' S k hs h => by
 obtain ⟨n, hn⟩ := h
 exact ⟨n, own_kept hn k (fun g hg => hs g (by simp [hg]))⟩⟩
def rowRes (E sz : Nat) (L : List MRow) : List Res := L.map (Rs.rw E sz)
theorem foots_rowRes (E sz : Nat) (L : List MRow) : foots (rowRes E sz L) = footR L := by
 unfold foots rowRes footR
 rw [List.flatMap_map]; rfl
section
variable {S : List Nat} {w0 w w' : World} {M R : List Res} {V : Value → Prop} {r E sz : Nat} {L : List MRow}
theorem pairwise_rows {L : List MRow} (h : (footR L).Nodup) : (rowRes E sz L).Pairwise (fun X Y => ∀ g ∈ X.foot, g ∉ Y.foot) := by
 induction L with
 | nil => exact List.Pairwise.nil
 | cons x L ih =>
   rw [footR_cons, List.nodup_append] at h
   refine List.pairwise_cons.2 ⟨fun Y hY g hg hx => ?_, ih h.2.1⟩
   obtain ⟨y, hy, rfl⟩ := List.mem_map.1 hY
   exact h.2.2 g hg g (List.mem_flatMap.2 ⟨y, hy, hx⟩) rfl
theorem St.unrow (h : St S w0 w (Rs.rows V r E sz L :: M) R) : St S w0 w (Rs.map r V (rawR L) :: (rowRes E sz L ++ M)) R := by
 have hrows : RowsAt w V r E sz L := h.m 0 rfl
 have hlt := h.lt 0 (X := Rs.rows V r E sz L) rfl
 have hd := hrows.dis
 rw [List.nodup_cons] at hd
 have h4 : St (foots [Rs.rows V r E sz L]) w w (Rs.map r V (rawR L) :: rowRes E sz L) [] := by
  refine ⟨Kept.refl _ _, ⟨fun X hX => ?_, fun g hg => ?_, ?_⟩, fun g hg => .inl ?_⟩
  · simp only [List.append_nil, Zmc] at hX
    rcases hX with rfl | hX
    · exact hrows.map
    · obtain ⟨x, hx, rfl⟩ := List.mem_map.1 hX
      exact hrows.each x hx
  · simp only [List.append_nil, foots_cons, foots_rowRes, Rs.map] at hg
    exact hlt g (by simpa [Rs.rows] using hg)
  · simp only [List.append_nil]
    refine List.pairwise_cons.2 ⟨fun Y hY g hg hx => ?_, pairwise_rows hd.2⟩
    obtain ⟨y, hy, rfl⟩ := List.mem_map.1 hY
    simp only [Rs.map, Zmc, Znn, or_false] at hg
    subst hg
    exact hd.1 (List.mem_flatMap.2 ⟨y, hy, hx⟩)
  · simp only [foots_cons, foots_rowRes, Rs.map] at hg
    simpa [foots, Rs.rows] using hg
 exact St.call (M1 := [Rs.rows V r E sz L]) (M2 := M) h h4
end
section
variable {P : Program} {ops : Array Oper} {o : Oper} {a : Act} {w : World} {rest : List Oper} {Q : Exit → Act → World → Prop}
variable {T : TypeId} {x s : Operand} {S : List Nat} {w0 : World} {M R : List Res} {E sz bytes k : Nat} {z xv : Value} {ys : List Value} {tx : TypeId}
theorem run_app0 (el : Elem P T E sz bytes z) {ty : TypeId} {p : Option Addr} {xv : Value} {m : Nat} (hm0 : 0 < m) (hsrc : Src P sz tx xv m ys w) (hb : (4 * m + 1024) * bytes ≤ 281474976710656) (hm : m ≤ 281474976710656) :
 ∃ v' w', (Builtin.append_ #[T, tx] ty #[.slice p 0 0, xv]).run P w = .ok v' w' ∧ w'.ownsRow 0 E sz v' m ys ∧ Kept [] w w' ∧ v'.ownBlock = some w.heap.size ∧ w'.heap.size = w.heap.size + 1 := by
 obtain ⟨ht, ⟨i, hi, hz, hsz, hby⟩, hzs, hpos⟩ := el
 subst hsz
 subst hby
 have hb' : m * i.bytes ≤ 281474976710656 := Nat.le_trans (Nat.mul_le_mul_right _ (by omega)) hb
 have hfit : ∀ old, old < m → Builtin.nextslicecap m old * i.bytes ≤ 281474976710656 := fun old ho => Nat.le_trans (Nat.mul_le_mul_right _ (nextcap_le _ _ ho)) hb
 have hold : (Builtin.firstCells i.size 0 (.slice p 0 0)).run P w.drew = .ok #[] w.drew := by
  cases p with
  | none => simp [Builtin.firstCells]
  | some b =>
    have := run_firstCells_some (P := P) w.drew i.size 0 b 0 0 [] (by simp) (fun j u hj => by simp at hj)
    simpa using this
 have hr := run_append_grow_src (P := P) w T tx ty E i z ht hi hz p 0 0 [] hold xv m ys hsrc (by omega) (by omega) (by simpa using hfit 0 hm0)
 simp only [Nat.zero_add, List.nil_append] at hr
 refine ⟨_, _, hr, ?_, (Kept.refl _ w).drew.alloc _, rfl, by simp⟩
 have hge := grownCap_ge w m 0 E
 have hcm : grownCap w m 0 E ≤ maxLen := grownCap_le_maxLen w m 0 E (by unfold maxLen; omega)
 refine ⟨hsrc.newsLen, .inr ⟨w.heap.size, _, _, rfl, Nat.zero_le _, heap_alloc_new w.drew _, hge, hcm, ?_, ?_⟩⟩
 · simp only [Array.size_append, List.size_toArray, size_zeroCells, hzs, hsrc.newsLen, ← Nat.add_mul]
   congr 1
   omega
 · rw [Array.toList_append, ← hsrc.newsLen]
   exact List.take_left
theorem wl_app0 {p : Option Addr} {T : TypeId} (hgd : o.guard = none) (ho : o.op = .call { callee := .builtin .append, args := #[s, x], argTypes := #[T, tx] }) (el : Elem P T E sz bytes z) (hs : a.eval s = .slice p 0 0) (hx : a.eval x = xv)
 (hst : St S w0 w M R) (hk0 : 0 < k) (hsrc : Src P sz tx xv k ys w) (hb : (4 * k + 1024) * bytes ≤ 281474976710656) (hm : k ≤ 281474976710656)
 (h : ∀ v' w', St S w0 w' (Rs.row E sz v' k ys :: M) R → wpList P ops Q rest (a.put o.dst v') w') : wpList P ops Q (o :: rest) a w := by
 obtain ⟨v', w', hrun, h1, h2, h3, h4⟩ := run_app0 (ty := o.type) (p := p) el hk0 hsrc hb hm
 refine wl_val (w' := w') (v := v') hgd ?_ (h _ _ (hst.push h2 h1 (fun g hg => ?_)))
 · simp [execOp, ho, resolve, invoke, builtin, hs, hx, hrun, Result.andThen]
 · simp only [Rs.row, h3, Option.toList, Zmc, Znn, or_false] at hg
   subst hg
   omega
end
end
section
open Go Go.Proofs Go.RowKit Go.Lib
open Classical
theorem key_new {l dn l1 l2 : List (Value × Value)} {k v : Value} (hn : (l.map (·.1)).Nodup) (hp : (dn ++ (l1 ++ (k, v) :: l2)).Perm l) : ∀ u, (k, u) ∉ dn := by
 intro u hu
 have h1 : ((dn ++ (l1 ++ (k, v) :: l2)).map (·.1)).Nodup := (hp.map (·.1)).nodup_iff.2 hn
 rw [List.map_append, List.nodup_append] at h1
 exact h1.2.2 k (List.mem_map.2 ⟨_, hu, rfl⟩) k (by simp) rfl
theorem perm_step {α : Type} {l dn l1 l2 : List α} {x : α} (hp : (dn ++ (l1 ++ x :: l2)).Perm l) : ((dn ++ [x]) ++ (l1 ++ l2)).Perm l := by
 refine List.Perm.trans ?_ hp
 rw [List.append_assoc]
 refine List.Perm.append_left _ ?_
 exact (List.perm_middle (a := x) (l₁ := l1) (l₂ := l2)).symm
theorem clone_cpc (r : Nat) (l : List (Value × Value)) (w : World) (hm : MapAt w isTp r l) :
 Calls Tryz.prog 252 #[.map (some r)] w fun e w' => ∃ r' l', e = .returned (.map (some r')) ∧ l'.Perm l ∧ St [] w w' [Rs.map r' isTp l'] [] := by
 have hst0 : St [] w w [] [Rs.map r isTp l] := St.start0 (Ow.one hm (by simpa [Rs.map] using hm.lt))
 have hkeys := hm.keys
 have hnd := hm.nodup
 have HK := Zhd (Zan hkeys hnd); clear hkeys hnd
 have hnil := fun w => Go.run_eql_map_nil (P := Tryz.prog) w 387 384 9 (some r) Tryz.underlying387
 simp only [Option.isNone] at hnil
 go_enter Tryz.func252, Tryz.ntmps252
 go_wp2_with (first
  | (refine wl_len rfl rfl rfl Tryz.underlying387 (hst0.r 0 rfl) ?_)
  | (refine wl_mkmapN (V := isTp) rfl rfl rfl Tryz.underlying387 hst0 ?_
     intro r' w1 hst1 hr1)
  | (refine wl_rngR 0 rfl rfl rfl Tryz.underlying387 hst1 rfl (by simp [Rs.map]) (hst1.r 0 rfl) ?_
     intro it w2 hst2 hit)
  | fail)
 simp only [Zs0] at hst2
 have hfit : w.heap.size ≤ it := by have := hst1.size; omega
 have HFIT := Zhd hfit; clear hfit hit hr1 hst1 hst0 hm hnil
 go_frame
 go_loopw [4] (fun _ wr => ∃ (dn lf : List (Value × Value)), (dn ++ lf).Perm l ∧ St [] w wr [Rs.map r' isTp dn] [Rs.it (Rs.map r isTp l) r l lf it (by simp [Rs.map])]) (fun _ wr => leftOf wr it r)
 case atStart => exact ⟨[], l, List.Perm.refl _, hst2⟩
 case round =>
  obtain ⟨dn, lf, hperm, hst⟩ := hrel
  have HL := Zhd hperm; clear hperm
  by_cases hlf : lf = []
  · subst hlf
    have hit0 := (hst.r 0 rfl).2.1
    go_wp2_with (first | (refine wl_nx0 rfl rfl rfl hit0 ?_) | fail)
    go_ret
    exact ⟨r', dn, rfl, by simpa using HL.out, hst.noR⟩
  · go_wp2_with (first
     | (refine wl_nx1R 0 (by simp [Rs.map]) rfl rfl rfl hst rfl hlf HFIT.out ?_
        intro k v l1 l2 w2 hsp hst2 hent
        simp only [Zs0] at hst2
        have hkt := HK.out.1 (k, v) (HL.out.mem_iff.1 (by rw [hsp]; simp))
        obtain ⟨s, n, rfl⟩ : ∃ s n, k = .agg #[.string s, .int .i32 n] := hkt
        have hnew := key_new HK.out.2 (hsp ▸ HL.out)
        have hpst := perm_step (hsp ▸ HL.out)
        have HSP := Zhd (Zan hsp (Zan hnew hpst)); clear hsp hnew hpst)
     | (refine wl_entry rfl rfl rfl hent ?_)
     | (refine wl_upd (kv := .agg #[.string s, .int .i32 n]) (vv := v) 0 rfl rfl rfl rfl rfl keyT_tp Tryz.underlying387 (hst2.alloc _) rfl ⟨_, _, rfl⟩ ?_
        intro w3 hst3
        simp only [Zs0] at hst3
        rw [putE_miss HSP.out.2.1] at hst3)
     | fail)
    go_frame
    go_roundw
    case rel => exact ⟨dn ++ [(.agg #[.string s, .int .i32 n], v)], l1 ++ l2, HSP.out.2.2, hst3⟩
    rw [(hst3.r 0 rfl).2.1.leftOf, (hst.r 0 rfl).2.1.leftOf, HSP.out.1]
    simp
theorem rawR_split {A : List Rw} {l1 l2 : List (Value × Value)} {k v : Value} (h : rawR (rowsT A) = l1 ++ (k, v) :: l2) :
 ∃ L1 x L2, A = L1 ++ x :: L2 ∧ l1 = rawR (rowsT L1) ∧ l2 = rawR (rowsT L2) ∧ k = .string x.1 ∧ v = x.2.1 := by
 have e : rawR (rowsT A) = A.map fun x => (.string x.1, x.2.1) := by simp [rawR, rowsT, rowT, Function.comp_def]
 rw [e] at h
 obtain ⟨L1, M, e1, e2, e3⟩ := List.map_eq_append_iff.1 h
 obtain ⟨x, L2, e4, e5, e6⟩ := List.map_eq_cons_iff.1 e3
 obtain ⟨h1, h2⟩ := Prod.mk.inj e5
 have e' : ∀ L : List Rw, L.map (fun x => ((.string x.1, x.2.1) : Value × Value)) = rawR (rowsT L) := fun L => by simp [rawR, rowsT, rowT, Function.comp_def]
 exact ⟨L1, x, L2, by rw [e1, e4], by rw [← e2, e'], by rw [← e6, e'], h1.symm, h2.symm⟩
theorem rawR_nil {A : List Rw} (h : rawR (rowsT A) = []) : A = [] := by
 cases A with
 | nil => rfl
 | cons x A => simp [rawR, rowsT] at h
def Nils (A : List Rw) : Prop := ∀ x ∈ A, x.2.2 = [] → x.2.1 = .slice none 0 0
theorem rowsT_snoc (B : List Rw) (x : Rw) : rowsT B ++ [(.string x.1, x.2.1, x.2.2.flatMap encTp)] = rowsT (B ++ [x]) := by simp [rowsT, rowT]
theorem key_newT {A Dn Lf : List Rw} {x : Rw} (hn : (A.map (·.1)).Nodup) (hp : (Dn ++ (Lf)).Perm A) (hx : x ∈ Lf) : x.1 ∉ Dn.map (·.1) := by
 intro hu
 have h1 : ((Dn ++ Lf).map (·.1)).Nodup := (hp.map (·.1)).nodup_iff.2 hn
 rw [List.map_append, List.nodup_append] at h1
 exact h1.2.2 _ hu _ (List.mem_map_of_mem hx) rfl
theorem keysT_string {B : List Rw} {m : ByteArray} (h : m ∉ B.map (·.1)) : Value.string m ∉ (rowsT B).map (·.1) := by
 intro hx
 obtain ⟨y, hy, e⟩ := List.mem_map.1 hx
 obtain ⟨z, hz, rfl⟩ := List.mem_map.1 hy
 simp only [rowT, Value.string.injEq] at e
 exact h (List.mem_map.2 ⟨z, hz, e⟩)
theorem cur_foot (r : Nat) (A : List Rw) : r ∈ (Rs.cur r A).foot := by simp [Rs.cur, Rs.rows]
def DCInv (w : World) (r r' it : Nat) (A : List Rw) (wr : World) : Prop := ∃ (Dn Lf B : List Rw), (Dn ++ Lf).Perm A ∧ asgT B = asgT Dn ∧ Nils B ∧
 St [] w wr [Rs.cur r' B] [Rs.it (Rs.cur r A) r (rawR (rowsT A)) (rawR (rowsT Lf)) it (cur_foot r A)]
theorem deep_copy (r : Nat) (A : List Rw) (w : World) (how : Ow w [Rs.cur r A]) (hl : A.length ≤ 1000000) (hb : ∀ x ∈ A, x.2.2.length ≤ 1000000) (hnil : Nils A) :
 Calls Tryz.prog 251 #[.map (some r)] w fun e w' => ∃ r' B, e = .returned (.map (some r')) ∧ (asgT B).Perm (asgT A) ∧ Nils B ∧ St [] w w' [Rs.cur r' B] [] := by
 have hst0 : St [] w w [] [Rs.cur r A] := St.start0 how
 have hkeys := cur_keys (hst0.r 0 rfl)
 have HK := Zhd (Zan hkeys (Zan hb hnil)); clear hkeys hb hnil how
 have HLN := Zhd (raw_len (A := A))
 go_enter Tryz.func251, Tryz.ntmps251
 go_wp2_with (first
  | (refine wl_len rfl rfl rfl Tryz.underlying378 (hst0.r 0 rfl).map ?_)
  | (refine wl_mkmapN (V := isStr) rfl rfl rfl Tryz.underlying378 hst0 ?_
     intro r' w1 hst1 hr1)
  | (refine wl_rngR 0 rfl rfl rfl Tryz.underlying378 hst1 rfl (by simp [Rs.cur, Rs.rows]) (hst1.r 0 rfl).map ?_
     intro it w2 hst2 hit)
  | fail)
 simp only [Zs0] at hst2
 have hfit : w.heap.size ≤ it := by have := hst1.size; omega
 have hst3 : St [] w w2 [Rs.cur r' []] _ := hst2.weak 0 rfl (X' := Rs.cur r' []) (fun h => ⟨h, by simp [rowsT], by simp [footR, rowsT]⟩) (by simp [Rs.cur, Rs.rows, Rs.map, footR, rowsT])
 have HFIT := Zhd hfit; clear hfit hit hr1 hst1 hst0 hst2
 go_frame
 go_loopw [4] (fun _ wr => DCInv w r r' it A wr) (fun _ wr => leftOf wr it r)
 case atStart => exact ⟨[], A, [], List.Perm.refl _, rfl, by simp [Nils], hst3⟩
 case round =>
  obtain ⟨Dn, Lf, B, hperm, hB, hBn, hst⟩ := hrel
  have HL := Zhd (Zan hperm (Zan hB hBn)); clear hperm hB hBn
  by_cases hlf : rawR (rowsT Lf) = []
  · have hLf := rawR_nil hlf
    subst hLf
    have hit0 : IterAt wr it r (rawR (rowsT A)) [] := (hst.r 0 rfl).2.1
    go_wp2_with (first | (refine wl_nx0 rfl rfl rfl hit0 ?_) | fail)
    go_ret
    have hp := HL.out.1
    rw [List.append_nil] at hp
    exact ⟨r', B, rfl, by rw [HL.out.2.1]; exact hp.map _, HL.out.2.2, hst.noR⟩
  · obtain ⟨wB, rfl⟩ : ∃ wB, wB = wr := ⟨_, rfl⟩
    go_upto_region 5 with (first
     | (refine wl_nx1R 0 (cur_foot r A) rfl rfl rfl hst rfl hlf HFIT.out ?_
        intro k v l1 l2 w2 hsp hst2 hent
        simp only [Zs0] at hst2
        obtain ⟨L1, x, L2, rfl, rfl, rfl, rfl, rfl⟩ := rawR_split hsp
        have hxA : x ∈ A := HL.out.1.mem_iff.1 (by simp)
        obtain ⟨hrow, xa, xc, hxv⟩ := cur_row (hst2.r 0 rfl).1 hxA
        have hsl := cur_sl (hst2.r 0 rfl).1 hxA
        obtain ⟨m, xv, ps⟩ := x
        simp only at hxv hrow hsl
        subst hxv
        have hnew := key_newT HK.out.1 HL.out.1 (x := (m, .slice xa ps.length xc, ps)) (by simp)
        have hpst := perm_step HL.out.1
        have hnk : m ∉ B.map (·.1) := by
         have e : B.map (·.1) = Dn.map (·.1) := by
          have h2 := congrArg (List.map (·.1)) HL.out.2.1
          simpa [asgT, Function.comp_def] using h2
         rw [e]; exact hnew
        have hbp := HK.out.2.1 _ hxA
        have hnl := HK.out.2.2 _ hxA
        simp only at hbp hnl
        have HSP := Zhd (Zan hsp (Zan (keysT_string hnk) (Zan hpst (Zan hrow hnl)))); clear hsp hnew hpst hnk hrow hnl)
     | (refine wl_entry rfl rfl rfl hent ?_)
     | fail)
    have hend : ∀ v' w3, St [] w w3 [Rs.cur r' (B ++ [(m, v', ps)])] [Rs.it (Rs.cur r A) r (rawR (rowsT A)) (rawR (rowsT L1) ++ rawR (rowsT L2)) it (cur_foot r A)] → (ps = [] → v' = .slice none 0 0) →
     DCInv w r r' it A w3 ∧ leftOf w3 it r < leftOf wB it r := by
     intro v' w3 hst3 hv'
     refine ⟨⟨Dn ++ [(m, .slice xa ps.length xc, ps)], L1 ++ L2, B ++ [(m, v', ps)], HSP.out.2.2.1, ?_, ?_, ?_⟩, ?_⟩
     · have := HL.out.2.1
       simp only [asgT, List.map_append] at this ⊢
       rw [this]; rfl
     · intro y hy h0
       rcases Zap.1 hy with hy | hy
       · exact HL.out.2.2 y hy h0
       · simp only [Zmc, Znn, or_false] at hy
         subst hy
         exact hv' h0
     · have e : rawR (rowsT L1) ++ rawR (rowsT L2) = rawR (rowsT (L1 ++ L2)) := by rw [rowsT_append, rawR_append]
       have h2 := hst3
       simp only [e] at h2
       exact h2
     · have h1 : IterAt w3 it r (rawR (rowsT A)) (rawR (rowsT L1) ++ rawR (rowsT L2)) := (hst3.r 0 rfl).2.1
       have h2 : IterAt wB it r (rawR (rowsT A)) _ := (hst.r 0 rfl).2.1
       rw [h1.leftOf, h2.leftOf, HSP.out.1]
       simp
    have HE := Zhd hend; clear hend
    by_cases hps : ps = []
    · subst hps
      have hnl := HSP.out.2.2.2.2 rfl
      simp only [List.length_nil, Value.slice.injEq, true_and] at hnl
      obtain ⟨rfl, rfl⟩ := hnl
      simp only [List.length_nil]
      go_wp2_with (first
       | (refine wl_rownew 0 rfl rfl rfl (kv := .string m) (v := .slice none 0 0) rfl rfl (keyT_str Tryz.underlying9) Tryz.underlying378 ⟨_, rfl⟩ (hst2.nilrow 384 2) rfl HSP.out.2.1 ?_
          intro w3 hst3
          simp only [Zs0] at hst3)
       | fail)
      have e2 : rowsT B ++ [(.string m, .slice none 0 0, [])] = rowsT (B ++ [(m, .slice none 0 0, [])]) := rowsT_snoc B (m, .slice none 0 0, [])
      rw [e2] at hst3
      (try go_frame)
      exact HE.out _ _ hst3 (fun _ => rfl)
    · have hpl : 0 < ps.length := List.length_pos_iff.2 hps
      obtain ⟨g, c, hv⟩ := own_some HSP.out.2.2.2.1 hpl
      cases hv
      have hsrc := hsl.src Tryz.underlying375
      have HSR := Zhd hsrc; clear hsrc hsl
      go_wp2_with (first
       | (refine wl_app0 rfl rfl elTp rfl rfl hst2 hpl HSR.out (by omega) (by omega) ?_
          intro v' w4 hst4)
       | (refine wl_rownew 0 rfl rfl rfl (kv := .string m) (v := v') rfl rfl (keyT_str Tryz.underlying9) Tryz.underlying378 ⟨_, rfl⟩ hst4 rfl HSP.out.2.1 ?_
          intro w3 hst3
          simp only [Zs0] at hst3)
       | fail)
      have e2 : rowsT B ++ [(.string m, v', ps.flatMap encTp)] = rowsT (B ++ [(m, v', ps)]) := rowsT_snoc B (m, v', ps)
      rw [e2] at hst3
      (try go_frame)
      exact HE.out _ _ hst3 (fun h => absurd h hps)
end
end Go.Proofs.YticcnlpfmekagaaGreat
