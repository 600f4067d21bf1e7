/- Part 16 of the proof of the row: StFull, HeapA, HeapB, HeapC. -/
import Derived.Test.YticcnlpfmekagaaGreatRc00
import Derived.Test.YticcnlpfmekagaaGreatRc13
import Derived.Deep.QuietTactic
import Derived.RegionTactic
import Derived.Test.YticcnlpfmekagaaGreatRc14
set_option linter.unusedVariables false
set_option linter.unusedSimpArgs false
set_option maxRecDepth 100000
set_option maxHeartbeats 8000000
namespace Go.Proofs.YticcnlpfmekagaaGreat
section
open Go Go.RowKit
open Classical
section
variable {P : Program} {ops : Array Oper} {o : Oper} {a : Act} {w : World} {rest : List Oper} {Q : Exit → Act → World → Prop}
variable {T : TypeId} {x y : Operand} {S : List Nat} {w0 : World} {M R : List Res} {E sz bytes : Nat} {z : Value}
theorem wl_mkfull (c : Nat) {kl kc : IntKind} (hgd : o.guard = none) (hop : o.op = .makeSlice T x y) (hx : a.eval x = .int kl (c : Int)) (hy : a.eval y = .int kc (c : Int)) (el : Elem P T E sz bytes z) (hst : St S w0 w M R) (hb : bytes * c ≤ 281474976710656) (hc : c ≤ maxLen)
 (hK : ∀ g cs w', cs.length = c * sz → St S w0 w' (Rs.row E sz (.slice (some ⟨g, 0, none⟩) c c) c cs :: M) R → w.heap.size ≤ g → wpList P ops Q rest (a.put o.dst (.slice (some ⟨g, 0, none⟩) c c)) w') : wpList P ops Q (o :: rest) a w := by
 obtain ⟨i, hi, hz, hsz, hby⟩ := el.info
 subst hby hsz
 have hc' : (c : Int) ≤ 9223372036854775807 := by unfold maxLen at hc; omega
 have hb' : (i.bytes : Int) * (c : Int) ≤ 281474976710656 := by
  have h : ((i.bytes * c : Nat) : Int) ≤ 281474976710656 := by omega
  rwa [Int.natCast_mul] at h
 have hrun := run_make (P := P) w T E i z el.und hi hz kl kc c c (by omega) (Int.le_refl _) hb' hc'
 simp only [Int.toNat_natCast] at hrun
 have hsize : (madeCells z.cells (c * i.size)).toList.length = c * i.size := by rw [Array.length_toList]; exact size_madeCells _ _
 refine wl_val (v := .slice (some ⟨w.heap.size, 0, none⟩) c c) (w' := w.alloc (.cells (madeCells z.cells (c * i.size)) E)) hgd ?_ (hK _ (madeCells z.cells (c * i.size)).toList _ hsize ?_ (Nat.le_refl _))
 · simp only [execOp, hop, hx, hy, Sem.run_bind, hrun, Result.andThen_ok]; rfl
 · have := hst.made E i.size c (madeCells z.cells (c * i.size)).toList hsize hc
   simpa using this
theorem own_setE {w : World} {E sz g n c j : Nat} {cs : List Value} (h : w.ownsRow 0 E sz (.slice (some ⟨g, 0, none⟩) n c) n cs) (u : Value) : (w.setCell ⟨g, j, none⟩ u).ownsRow 0 E sz (.slice (some ⟨g, 0, none⟩) n c) n (cs.set j u) := by
 refine ⟨by simpa using h.1, ?_⟩
 rcases h.2 with ⟨h1, _⟩ | ⟨g', cap, cur, h1, h0, hg, hnc, hcm, hcs, ht⟩
 · cases h1
 · cases h1
   refine .inr ⟨g, c, cur.setIfInBounds j u, rfl, h0, by simp [World.setCell, Array.getElem?_modify, hg], hnc, hcm, by simpa using hcs, ?_⟩
   rw [Array.toList_setIfInBounds, List.take_set, ht]
theorem St.setRow {g n c : Nat} {cs : List Value} (h : St S w0 w M R) (i : Nat) (hi : M[i]? = some (Rs.row E sz (.slice (some ⟨g, 0, none⟩) n c) n cs)) (j : Nat) (u : Value) :
 St S w0 (w.setCell ⟨g, j, none⟩ u) (M.set i (Rs.row E sz (.slice (some ⟨g, 0, none⟩) n c) n (cs.set j u))) R :=
 h.set i hi (T := [g]) ((Kept.refl _ _).setCell u (by simp)) (by simp [Rs.row, Value.ownBlock]) (own_setE (h.m i hi) u) (fun g hg => .inl hg)
end
end
section
open Go Go.Proofs Go.RowKit Go.Lib
open Classical
abbrev It := Nat × ByteArray × Option Addr × Nat × Nat
abbrev itCells (x : It) : Array Value := #[.string x.2.1, .slice x.2.2.1 x.2.2.2.1 x.2.2.2.2]
def ptrs (L : List It) : List Value := L.map fun x => .pointer (some ⟨x.1, 0, none⟩)
def moreIt (x y : It) : Bool := if x.2.2.2.1 = y.2.2.2.1 then (!Op.bytesLess x.2.1.toList y.2.1.toList && !x.2.1.toList == y.2.1.toList) else decide (x.2.2.2.1 > y.2.2.2.1)
theorem less_it (g n c : Nat) (w : World) (x y : It) (i j : Nat) (hi : i < n) (hj : j < n) (hn : n < 1000000000)
 (ci : w.cell? ⟨g, i, none⟩ = some (.pointer (some ⟨x.1, 0, none⟩))) (cj : w.cell? ⟨g, j, none⟩ = some (.pointer (some ⟨y.1, 0, none⟩)))
 (hx : w.cell? ⟨x.1, 0, none⟩ = some (.string x.2.1) ∧ w.cell? ⟨x.1, 1, none⟩ = some (.slice x.2.2.1 x.2.2.2.1 x.2.2.2.2))
 (hy : w.cell? ⟨y.1, 0, none⟩ = some (.string y.2.1) ∧ w.cell? ⟨y.1, 1, none⟩ = some (.slice y.2.2.1 y.2.2.2.1 y.2.2.2.2)) :
 Calls Tryz.prog 416 #[.slice (some ⟨g, 0, none⟩) n c, .int .i64 i, .int .i64 j] w fun e w' => e = .returned (.bool (moreIt x y)) ∧ ∃ q, w' = w.drewN q := by
 obtain ⟨bx, mx, ax, nx, cx⟩ := x
 obtain ⟨by', my, ay, ny, cy⟩ := y
 obtain ⟨x0, x1⟩ := hx
 obtain ⟨y0, y1⟩ := hy
 simp only at ci cj x0 x1 y0 y1
 by_cases h0 : nx = ny
 · subst h0
   go_enter Tryz.func416, Tryz.ntmps416
   go_wp2
   go_quiet (fail)
   go_wp2
   go_quiet (fail)
   go_wp2
   go_ret
   exact ⟨by simp [moreIt], _, (by first | rfl | exact World.drewN_drewN ..)⟩
 · have hb : ((nx : Int) == (ny : Int)) = false := by simp; omega
   have e : moreIt (bx, mx, ax, nx, cx) (by', my, ay, ny, cy) = decide ((nx : Int) > (ny : Int)) := by simp [moreIt, h0]
   rw [e]
   go_enter Tryz.func416, Tryz.ntmps416
   go_wp2
   go_quiet (fail)
   go_wp2
   go_quiet (fail)
   go_wp2
   go_ret
   exact ⟨by simp, _, (by first | rfl | exact World.drewN_drewN ..)⟩
theorem swap_it (g n c : Nat) (w : World) (x y : Addr) (i j : Nat) (hi : i < n) (hj : j < n) (hn : n < 1000000000)
 (ci : w.cell? ⟨g, i, none⟩ = some (.pointer (some x))) (cj : w.cell? ⟨g, j, none⟩ = some (.pointer (some y)))
 (f1 : w.frozen? ⟨g, i, none⟩ = false) (f2 : w.frozen? ⟨g, j, none⟩ = false) :
 Calls Tryz.prog 417 #[.slice (some ⟨g, 0, none⟩) n c, .int .i64 i, .int .i64 j] w fun e w' => e = .returned (.tuple #[]) ∧
  ∃ q, w' = ((w.setCell ⟨g, i, none⟩ (.pointer (some y))).setCell ⟨g, j, none⟩ (.pointer (some x))).drewN q := by
 have s1 : (w.setCell ⟨g, i, none⟩ (.pointer (some y))).cell? ⟨g, j, none⟩ = some (.pointer (some y)) := by
  by_cases h : i = j
  · subst h
    simp [go_sem, ci]
  · rw [World.cell?_setCell_other _ _ _ _ (fun e => h (by injection e))]; exact cj
 go_enter Tryz.func417, Tryz.ntmps417
 go_wp2
 go_region
 all_goals (try go_wp2)
 all_goals go_end0
 all_goals exact ⟨rfl, 1, rfl⟩
theorem len_it (v : Option Addr) (n c : Nat) (w : World) : Calls Tryz.prog 241 #[.slice v n c] w fun e w' => e = .returned (.int .i64 n) ∧ w' = w := by
 go_enter Tryz.func241, Tryz.ntmps241
 go_wp2
 go_ret
 exact ⟨rfl, rfl⟩
theorem pop_it (b g n c : Nat) (w : World) (x : Value) (hn : n + 1 < 1000000000) (hc : n + 1 ≤ c) (hc2 : c ≤ maxLen)
 (cb : w.cell? ⟨b, 0, none⟩ = some (.slice (some ⟨g, 0, none⟩) (n + 1 : Nat) c)) (fb : w.frozen? ⟨b, 0, none⟩ = false)
 (cx : w.cell? ⟨g, n, none⟩ = some x) (hx : ∃ a, x = .pointer (some a)) :
 Calls Tryz.prog 418 #[.pointer (some ⟨b, 0, none⟩)] w fun e w' => (∃ v, e = .returned v) ∧ w' = w.setCell ⟨b, 0, none⟩ (.slice (some ⟨g, 0, none⟩) n c) := by
 obtain ⟨a, rfl⟩ := hx
 have h1 : ((n + 1 : Nat) : Int) - 1 = n := by omega
 go_enter Tryz.func418, Tryz.ntmps418
 go_wp2
 go_ret
 exact ⟨⟨_, rfl⟩, rfl⟩
theorem qf_less : (Tryz.prog.info? 416).bind (fun i => (i.methods.find? (·.name == "Less")).map fun m => (m.path.toList.length, m.func)) = some (0, some (416, false)) := by kernel_rfl
theorem meth_ptr {name : String} {f : Nat} {a : Addr} {u : Value} {w : World} (h : (Tryz.prog.info? 416).bind (fun i => (i.methods.find? (·.name == name)).map fun m => (m.path.toList.length, m.func)) = some (0, some (f, false)))
 (hl : (loadVar 411 a).run Tryz.prog w = .ok u w) : (method 643 416 (.pointer (some a)) name).run Tryz.prog w = .ok (f, u) w := by
 obtain ⟨i, hi, h2⟩ := Option.bind_eq_some_iff.1 h
 obtain ⟨m, hm, h3⟩ := Option.map_eq_some_iff.1 h2
 simp only [Prod.mk.injEq] at h3
 obtain ⟨h4, h5⟩ := h3
 have h6 : m.path.toList = [] := List.length_eq_zero_iff.1 h4
 have h7 : m.path.isEmpty = true := by simp [Array.isEmpty, ← Array.length_toList, h4]
 have h8 : (typeInfo 416).run Tryz.prog w = .ok i w := by simp [typeInfo, go_sem, hi]
 rw [method, Sem.run_bind, h8, Result.andThen_ok, hm]
 simp only [h6, h5, h7, follow, pure_bind, if_true, receiverAt, Sem.run_bind]
 have h9 : (underlying 416).run Tryz.prog w = .ok (.pointer 411) w := by simp [go_sem, Tryz.underlying416]
 rw [h9, Result.andThen_ok]
 have h10 : ∀ s, Builtin.ssaWrapNilChk_ #[416] 416 #[.pointer (some a), strVal "", strVal s] = pure (.pointer (some a)) := fun s => rfl
 simp only [Place.get, pure_bind, h10, asAddr, hl, Result.andThen_ok, Sem.run_pure]
theorem qf_len : (Tryz.prog.info? 416).bind (fun i => (i.methods.find? (·.name == "Len")).map fun m => (m.path.toList.length, m.func)) = some (0, some (241, false)) := by kernel_rfl
theorem qf_swap : (Tryz.prog.info? 416).bind (fun i => (i.methods.find? (·.name == "Swap")).map fun m => (m.path.toList.length, m.func)) = some (0, some (417, false)) := by kernel_rfl
theorem qm_pop : IsMeth 416 "Pop" 418 := ⟨fun _ _ => by kernel_rfl, fun _ _ => by kernel_rfl, fun _ _ => by kernel_rfl⟩
theorem q_ld {w : World} {b g n c : Nat} (h : w.cell? ⟨b, 0, none⟩ = some (.slice (some ⟨g, 0, none⟩) n c)) : (loadVar 411 ⟨b, 0, none⟩).run Tryz.prog w = .ok (.slice (some ⟨g, 0, none⟩) n c) w := by simp [go_sem, h]
end
section
open Go Go.Proofs Go.RowKit Go.Lib
open Classical
def Rs.its (J : List It) : Res where
 foot := J.map Prod.fst
 holds := fun w => (∀ x ∈ J, w.heap[x.1]? = some (.cells (itCells x) 414 (0, 0))) ∧ (J.map Prod.fst).Nodup
 stable := fun w w' S k hs h => ⟨fun x hx => k.heap (h.1 x hx) (hs x.1 (List.mem_map.2 ⟨x, hx, rfl⟩)), h.2⟩
abbrev qrow (g n c : Nat) (L : List It) : Res := Rs.row 412 1 (.slice (some ⟨g, 0, none⟩) n c) n (ptrs L)
abbrev qbox (b g n c : Nat) : Res := Rs.blk b (.cells #[.slice (some ⟨g, 0, none⟩) n c] 411 (0, 0))
theorem it_cells {w : World} {x : It} (h : w.heap[x.1]? = some (.cells (itCells x) 414 (0, 0))) : w.cell? ⟨x.1, 0, none⟩ = some (.string x.2.1) ∧ w.cell? ⟨x.1, 1, none⟩ = some (.slice x.2.2.1 x.2.2.2.1 x.2.2.2.2) := by
 exact ⟨by simp [World.cell?, h], by simp [World.cell?, h]⟩
theorem ptrs_get {L : List It} {k : Nat} {x : It} (h : L[k]? = some x) : (ptrs L)[k]? = some (.pointer (some ⟨x.1, 0, none⟩)) := by simp [ptrs, h]
structure Hq (S : List Nat) (w0 : World) (b g n c : Nat) (J L : List It) (w : World) : Prop where
 st : St S w0 w [qrow g n c L] [Rs.its J, qbox b g n c]
 sub : ∀ x ∈ L, x ∈ J
 small : n < 1000000000
theorem Hq.len {S : List Nat} {w0 w : World} {b g n c : Nat} {J L : List It} (h : Hq S w0 b g n c J L w) : L.length = n := by
 have := (h.st.m 0 rfl).1
 simpa [ptrs] using this
theorem Hq.get {S : List Nat} {w0 w : World} {b g n c : Nat} {J L : List It} (h : Hq S w0 b g n c J L w) {i : Nat} (hi : i < n) : ∃ x, L[i]? = some x ∧ w.cell? ⟨g, i, none⟩ = some (.pointer (some ⟨x.1, 0, none⟩)) ∧
 w.cell? ⟨x.1, 0, none⟩ = some (.string x.2.1) ∧ w.cell? ⟨x.1, 1, none⟩ = some (.slice x.2.2.1 x.2.2.2.1 x.2.2.2.2) := by
 have hl := h.len
 refine ⟨L[i], List.getElem?_eq_getElem (by omega), ?_, it_cells ((h.st.r 0 rfl).1 _ (h.sub _ (List.getElem_mem _)))⟩
 exact (own_cell (h.st.m 0 rfl) (ptrs_get (List.getElem?_eq_getElem (by omega)))).1
theorem Hq.drewN {S : List Nat} {w0 w : World} {b g n c : Nat} {J L : List It} (h : Hq S w0 b g n c J L w) (q : Nat) : Hq S w0 b g n c J L (w.drewN q) := ⟨h.st.drewN q, h.sub, h.small⟩
theorem Hq.cells {S : List Nat} {w0 w : World} {b g n c : Nat} {J L : List It} (h : Hq S w0 b g n c J L w) : w.cell? ⟨b, 0, none⟩ = some (.slice (some ⟨g, 0, none⟩) n c) := by
 have h1 : w.heap[b]? = some (.cells #[.slice (some ⟨g, 0, none⟩) n c] 411 (0, 0)) := h.st.r 1 rfl
 simp [World.cell?, h1]
theorem Hq.less {S : List Nat} {w0 w : World} {b g n c : Nat} {J L : List It} (h : Hq S w0 b g n c J L w) {i j : Nat} {iv jv : Int} (hi : i < n) (hj : j < n) (ei : iv = i) (ej : jv = j) :
 Calls Tryz.prog 416 #[.slice (some ⟨g, 0, none⟩) n c, .int .i64 iv, .int .i64 jv] w fun e w' => ∃ bb : Bool, e = .returned (.bool bb) ∧ Hq S w0 b g n c J L w' := by
 subst ei ej
 obtain ⟨x, _, cx, hx⟩ := h.get hi
 obtain ⟨y, _, cy, hy⟩ := h.get hj
 exact (less_it g n c w x y i j hi hj h.small cx cy hx hy).mono fun e w' h' => by
  obtain ⟨h1, q, rfl⟩ := h'
  exact ⟨_, h1, h.drewN q⟩
theorem Hq.mLess {S : List Nat} {w0 w : World} {b g n c : Nat} {J L : List It} (h : Hq S w0 b g n c J L w) : (method 643 416 (.pointer (some ⟨b, 0, none⟩)) "Less").run Tryz.prog w = .ok (416, .slice (some ⟨g, 0, none⟩) n c) w := meth_ptr qf_less (q_ld h.cells)
theorem Hq.mLen {S : List Nat} {w0 w : World} {b g n c : Nat} {J L : List It} (h : Hq S w0 b g n c J L w) : (method 643 416 (.pointer (some ⟨b, 0, none⟩)) "Len").run Tryz.prog w = .ok (241, .slice (some ⟨g, 0, none⟩) n c) w := meth_ptr qf_len (q_ld h.cells)
theorem Hq.mSwap {S : List Nat} {w0 w : World} {b g n c : Nat} {J L : List It} (h : Hq S w0 b g n c J L w) : (method 643 416 (.pointer (some ⟨b, 0, none⟩)) "Swap").run Tryz.prog w = .ok (417, .slice (some ⟨g, 0, none⟩) n c) w := meth_ptr qf_swap (q_ld h.cells)
theorem perm_swap2 {L : List It} {i j : Nat} {x y : It} (hx : L[i]? = some x) (hy : L[j]? = some y) : ((L.set i y).set j x).Perm L := by
 obtain ⟨hi, rfl⟩ := List.getElem?_eq_some_iff.1 hx
 obtain ⟨hj, rfl⟩ := List.getElem?_eq_some_iff.1 hy
 exact List.set_set_perm hi hj
theorem drop_sw {L : List It} {i j n0 : Nat} {x y : It} (hi : i < n0) (hj : j < n0) : ((L.set i y).set j x).drop n0 = L.drop n0 := by
 rw [List.drop_set_of_lt hj, List.drop_set_of_lt hi]
theorem Hq.swap {S : List Nat} {w0 w : World} {b g n c : Nat} {J L : List It} (h : Hq S w0 b g n c J L w) {i j : Nat} {iv jv : Int} (hi : i < n) (hj : j < n) (ei : iv = i) (ej : jv = j) :
 Calls Tryz.prog 417 #[.slice (some ⟨g, 0, none⟩) n c, .int .i64 iv, .int .i64 jv] w fun e w' => e = .returned (.tuple #[]) ∧ ∃ x y, L[i]? = some x ∧ L[j]? = some y ∧ Hq S w0 b g n c J ((L.set i y).set j x) w' := by
 subst ei ej
 obtain ⟨x, hx, cx, _⟩ := h.get hi
 obtain ⟨y, hy, cy, _⟩ := h.get hj
 refine (swap_it g n c w _ _ i j hi hj h.small cx cy (own_cell (h.st.m 0 rfl) (ptrs_get hx)).2 (own_cell (h.st.m 0 rfl) (ptrs_get hy)).2).mono fun e w' h' => ?_
 obtain ⟨h1, q, rfl⟩ := h'
 refine ⟨h1, x, y, hx, hy, ⟨?_, ?_, h.small⟩⟩
 · have h2 := ((h.st.setRow 0 rfl i (.pointer (some ⟨y.1, 0, none⟩))).setRow 0 rfl j (.pointer (some ⟨x.1, 0, none⟩))).drewN q
   have e : ptrs ((L.set i y).set j x) = ((ptrs L).set i (.pointer (some ⟨y.1, 0, none⟩))).set j (.pointer (some ⟨x.1, 0, none⟩)) := by simp [ptrs, List.map_set]
   show St S w0 _ [Rs.row 412 1 _ n (ptrs _)] _
   rw [e]
   exact h2
 · intro z hz
   exact h.sub z ((perm_swap2 hx hy).mem_iff.1 hz)
theorem down_any (b g n c : Nat) (J L : List It) (i n0 : Nat) (hn0 : n0 ≤ n) (hin : i ≤ n) (S : List Nat) (w0 w : World) (h : Hq S w0 b g n c J L w) :
 Calls Tryz.prog 261 #[.iface 416 (.pointer (some ⟨b, 0, none⟩)), .int .i64 i, .int .i64 n0] w fun e w' => (∃ bb : Bool, e = .returned (.bool bb)) ∧ ∃ L', L'.Perm L ∧ L'.drop n0 = L.drop n0 ∧ Hq S w0 b g n c J L' w' := by
 go_enter Tryz.func261, Tryz.ntmps261
 go_wp2
 go_loopw [7] (fun iv wr => ∃ (k : Nat) (L' : List It), iv = .int .i64 k ∧ k ≤ n ∧ L'.Perm L ∧ L'.drop n0 = L.drop n0 ∧ Hq S w0 b g n c J L' wr) (fun iv _ => n0 - (intOf iv).toNat)
 case atStart => exact ⟨i, L, rfl, hin, .refl _, rfl, h⟩
 case round =>
  obtain ⟨k, L', rfl, hkn, hp, hd, hq⟩ := hrel
  have hsm := hq.small
  have mL := hq.mLess
  have mS := hq.mSwap
  have H0 := Zhd (Zan hp hd)
  clear h hp hd
  by_cases h1 : 2 * k + 1 < n0
  · have h1i : 2 * (k : Int) + 1 < (n0 : Int) := by omega
    by_cases h2 : 2 * k + 2 < n0
    · have h2i : 2 * (k : Int) + 1 + 1 < (n0 : Int) := by omega
      go_wp2_with (first
       | (go_at_call 416; refine (hq2.less (i := 2 * k + 2) (j := k) (by omega) (by omega) (by omega) rfl).mono ?_; rintro e w2 ⟨bb2, rfl, hq3⟩; have mS3 := hq3.mSwap)
       | (go_at_call 416; refine (hq2.less (i := 2 * k + 1) (j := k) (by omega) (by omega) (by omega) rfl).mono ?_; rintro e w2 ⟨bb2, rfl, hq3⟩; have mS3 := hq3.mSwap)
       | (go_at_call 416; refine (hq.less (i := 2 * k + 2) (j := 2 * k + 1) (by omega) (by omega) (by omega) (by omega)).mono ?_; rintro e w1 ⟨bb, rfl, hq2⟩; have mL2 := hq2.mLess)
       | (go_at_call 417; refine (hq3.swap (i := k) (j := 2 * k + 2) (by omega) (by omega) rfl (by omega)).mono ?_; rintro e w3 ⟨rfl, x, y, hx, hy, hq4⟩)
       | (go_at_call 417; refine (hq3.swap (i := k) (j := 2 * k + 1) (by omega) (by omega) rfl (by omega)).mono ?_; rintro e w3 ⟨rfl, x, y, hx, hy, hq4⟩)
       | fail)
      all_goals first
       | (go_ret; exact ⟨⟨_, rfl⟩, L', H0.out.1, H0.out.2, hq3⟩)
       | exact ⟨⟨2 * k + 2, _, by go_num, by omega, (perm_swap2 hx hy).trans H0.out.1, (drop_sw (by omega) (by omega)).trans H0.out.2, hq4⟩, by simp [intOf]; omega⟩
       | exact ⟨⟨2 * k + 1, _, by go_num, by omega, (perm_swap2 hx hy).trans H0.out.1, (drop_sw (by omega) (by omega)).trans H0.out.2, hq4⟩, by simp [intOf]; omega⟩
    · have h2i : (n0 : Int) ≤ 2 * (k : Int) + 1 + 1 := by omega
      go_wp2_with (first
       | (go_at_call 416; refine (hq.less (i := 2 * k + 1) (j := k) (by omega) (by omega) (by omega) rfl).mono ?_; rintro e w2 ⟨bb2, rfl, hq3⟩; have mS3 := hq3.mSwap)
       | (go_at_call 417; refine (hq3.swap (i := k) (j := 2 * k + 1) (by omega) (by omega) rfl (by omega)).mono ?_; rintro e w3 ⟨rfl, x, y, hx, hy, hq4⟩)
       | fail)
      all_goals first
       | (go_ret; exact ⟨⟨_, rfl⟩, L', H0.out.1, H0.out.2, hq3⟩)
       | exact ⟨⟨2 * k + 1, _, by go_num, by omega, (perm_swap2 hx hy).trans H0.out.1, (drop_sw (by omega) (by omega)).trans H0.out.2, hq4⟩, by simp [intOf]; omega⟩
  · have h1i : (n0 : Int) ≤ 2 * (k : Int) + 1 := by omega
    go_wp2_with fail
    go_ret
    exact ⟨⟨_, rfl⟩, L', H0.out.1, H0.out.2, hq⟩
theorem down_at (b g n c : Nat) (J L : List It) (i n0 : Nat) (hn0 : n0 ≤ n) (hin : i ≤ n) (S : List Nat) (w0 w : World) (h : Hq S w0 b g n c J L w) {iv : Int} (ei : iv = i) :
 Calls Tryz.prog 261 #[.iface 416 (.pointer (some ⟨b, 0, none⟩)), .int .i64 iv, .int .i64 n0] w fun e w' => (∃ bb : Bool, e = .returned (.bool bb)) ∧ ∃ L', L'.Perm L ∧ L'.drop n0 = L.drop n0 ∧ Hq S w0 b g n c J L' w' := by
 subst ei
 exact down_any b g n c J L i n0 hn0 hin S w0 w h
end
section
open Go Go.Proofs Go.RowKit Go.Lib
open Classical
theorem Hq.start {b g n c : Nat} {J L : List It} {w : World} (h : Ow w ([qrow g n c L] ++ [Rs.its J, qbox b g n c])) (hs : ∀ x ∈ L, x ∈ J) (hn : n < 1000000000) : Hq (foots [qrow g n c L]) w b g n c J L w := ⟨St.start h, hs, hn⟩
theorem Hq.pop {S : List Nat} {w0 w : World} {b g n c : Nat} {J L : List It} (hb : b ∈ S ∨ w0.heap.size ≤ b) (h : Hq S w0 b g (n + 1) c J L w) :
 Calls Tryz.prog 418 #[.pointer (some ⟨b, 0, none⟩)] w fun e w' => (∃ v, e = .returned v) ∧ Hq S w0 b g n c J (L.take n) w' := by
 obtain ⟨x, hx, cx, _⟩ := h.get (i := n) (by omega)
 have hb2 : w.heap[b]? = some (.cells #[.slice (some ⟨g, 0, none⟩) (n + 1 : Nat) c] 411 (0, 0)) := h.st.r 1 rfl
 have hcap : n + 1 ≤ c ∧ c ≤ maxLen := by
  obtain ⟨_, h1 | ⟨g', c', cur, h1, h0, hg, h2, h3, _⟩⟩ := h.st.m 0 rfl
  · cases h1.1
  · cases h1; exact ⟨h2, h3⟩
 have hl := h.len
 refine (pop_it b g n c w _ h.small hcap.1 hcap.2 h.cells (by simp [World.frozen?, hb2]) cx ⟨_, rfl⟩).mono fun e w' h' => ?_
 obtain ⟨h1, rfl⟩ := h'
 refine ⟨h1, ⟨?_, fun y hy => h.sub y (List.mem_of_mem_take hy), by have := h.small; omega⟩⟩
 have h2 := h.st.weak 0 rfl (X' := qrow g n c (L.take n)) (fun hh => by
  have := own_take hh (i := n) (by omega)
  have e : ptrs (L.take n) = (ptrs L).take (n * 1) := by simp [ptrs, List.map_take]
  show w.ownsRow 0 412 1 _ n (ptrs (L.take n))
  rw [e]
  exact this) (fun gg hg => by simpa [Rs.row, Value.ownBlock] using hg)
 simp only [Zs0] at h2
 have h3 := h2.setR 1 rfl (T := [b]) (X' := qbox b g n c) (show Kept [b] w (w.setCell ⟨b, 0, none⟩ (.slice (some ⟨g, 0, none⟩) n c)) from (Kept.refl _ _).setCell _ (by simp)) (fun gg hg _ => by simp at hg; subst hg; exact ⟨by simp [Rs.blk], hb⟩)
  (by show (w.setCell _ _).heap[b]? = _; simp [World.setCell, Array.getElem?_modify, hb2]) (fun gg hg => .inl hg)
 simpa only [Zs0, Zs1] using h3
theorem Hq.lenc {S : List Nat} {w0 w : World} {b g n c : Nat} {J L : List It} (h : Hq S w0 b g n c J L w) : Calls Tryz.prog 241 #[.slice (some ⟨g, 0, none⟩) n c] w fun e w' => e = .returned (.int .i64 n) ∧ w' = w := len_it _ _ _ _
theorem init_q (b g n c : Nat) (J L : List It) (S : List Nat) (w0 w : World) (h : Hq S w0 b g n c J L w) :
 Calls Tryz.prog 240 #[.iface 416 (.pointer (some ⟨b, 0, none⟩))] w fun e w' => e = .returned (.tuple #[]) ∧ ∃ L', L'.Perm L ∧ Hq S w0 b g n c J L' w' := by
 have hsm := h.small
 have mN := h.mLen
 go_enter Tryz.func240, Tryz.ntmps240
 go_wp2_with (first
  | (go_at_call 241; refine h.lenc.mono ?_; rintro e w1 ⟨rfl, rfl⟩)
  | fail)
 go_loopw [3] (fun iv wr => ∃ (k : Nat) (L' : List It), iv = .int .i64 ((k : Int) - 1) ∧ k ≤ n ∧ L'.Perm L ∧ Hq S w0 b g n c J L' wr) (fun iv _ => (intOf iv + 1).toNat)
 case atStart => exact ⟨n / 2, L, by go_num, by omega, .refl _, h⟩
 case round =>
  obtain ⟨k, L', rfl, hkn, hp, hq⟩ := hrel
  clear h mN
  by_cases hk : k = 0
  · subst hk
    go_wp2_with fail
    go_end0
    exact ⟨rfl, L', hp, hq⟩
  · have hk0 : (0 : Int) ≤ (k : Int) - 1 := by omega
    go_wp2_with (first
     | (go_at_call 261; refine (down_at b g n c J L' (k - 1) n (by omega) (by omega) S w0 _ hq (iv := (k : Int) - 1) (by omega)).mono ?_; rintro e w2 ⟨⟨bb, rfl⟩, L2, hp2, hd2, hq2⟩)
     | fail)
    exact ⟨⟨k - 1, L2, by go_num, by omega, hp2.trans hp, hq2⟩, by simp [intOf]; omega⟩
theorem up_q (b g n c : Nat) (J L : List It) (S : List Nat) (w0 w : World) (h : Hq S w0 b g n c J L w) :
 Calls Tryz.prog 262 #[.iface 416 (.pointer (some ⟨b, 0, none⟩)), .int .i64 0] w fun e w' => e = .returned (.tuple #[]) ∧ w' = w := by
 go_enter Tryz.func262, Tryz.ntmps262
 go_wp2
 go_loopw [1] (fun iv wr => iv = .int .i64 0 ∧ wr = w) (fun iv _ => 0)
 case atStart => exact ⟨rfl, rfl⟩
 case round =>
  obtain ⟨rfl, rfl⟩ := hrel
  go_wp2
  go_end0
  exact ⟨rfl, rfl⟩
theorem fix_q (b g n c : Nat) (J L : List It) (S : List Nat) (w0 w : World) (h : Hq S w0 b g n c J L w) :
 Calls Tryz.prog 242 #[.iface 416 (.pointer (some ⟨b, 0, none⟩)), .int .i64 0] w fun e w' => e = .returned (.tuple #[]) ∧ ∃ L', L'.Perm L ∧ Hq S w0 b g n c J L' w' := by
 have hsm := h.small
 have mN := h.mLen
 go_enter Tryz.func242, Tryz.ntmps242
 go_wp2_with (first
  | (go_at_call 241; refine h.lenc.mono ?_; rintro e w1 ⟨rfl, rfl⟩)
  | (go_at_call 261; refine (down_at b g n c J L 0 n (by omega) (by omega) S w0 _ h (iv := 0) rfl).mono ?_; rintro e w2 ⟨⟨bb, rfl⟩, L2, hp2, hd2, hq2⟩)
  | (go_at_call 262; refine (up_q b g n c J L2 S w0 _ hq2).mono ?_; rintro e w3 ⟨rfl, rfl⟩)
  | fail)
 all_goals
  go_end0
  exact ⟨rfl, L2, hp2, hq2⟩
theorem pop_q (b g n c : Nat) (J L : List It) (S : List Nat) (w0 w : World) (hb : b ∈ S ∨ w0.heap.size ≤ b) (h : Hq S w0 b g (n + 1) c J L w) :
 Calls Tryz.prog 243 #[.iface 416 (.pointer (some ⟨b, 0, none⟩))] w fun e w' => (∃ v, e = .returned v) ∧ ∃ x L', L[0]? = some x ∧ (x :: L').Perm L ∧ Hq S w0 b g n c J L' w' := by
 have hsm := h.small
 have mN := h.mLen
 have mS := h.mSwap
 have mP := qm_pop.m
 have h1i : ((n + 1 : Nat) : Int) - 1 = n := by omega
 go_enter Tryz.func243, Tryz.ntmps243
 go_wp2_with (first
  | (go_at_call 241; refine h.lenc.mono ?_; rintro e w1 ⟨rfl, rfl⟩)
  | (go_at_call 417; refine (h.swap (i := 0) (j := n) (by omega) (by omega) rfl (by omega)).mono ?_; rintro e w2 ⟨rfl, x, y, hx, hy, hq2⟩)
  | (go_at_call 261; refine (down_at b g (n + 1) c J _ 0 n (by omega) (by omega) S w0 _ hq2 (iv := 0) rfl).mono ?_; rintro e w3 ⟨⟨bb, rfl⟩, L3, hp3, hd3, hq3⟩)
  | (go_at_call 418; refine (hq3.pop hb).mono ?_; rintro e w4 ⟨⟨v, rfl⟩, hq4⟩)
  | fail)
 go_ret
 have hl3 := hq3.len
 have hl := h.len
 have e : L3.drop n = [x] := by
  rw [hd3]
  obtain ⟨hn1, e1⟩ := List.getElem?_eq_some_iff.1 hy
  rw [List.drop_eq_getElem_cons (by simp; omega)]
  simp [hl]
 refine ⟨⟨_, rfl⟩, x, L3.take n, hx, ?_, hq4⟩
 refine List.Perm.trans ?_ (hp3.trans (perm_swap2 hx hy))
 have h5 := List.take_append_drop n L3
 rw [e] at h5
 refine List.Perm.trans ?_ (List.Perm.of_eq h5)
 exact (List.perm_append_singleton x (L3.take n)).symm
end
end Go.Proofs.YticcnlpfmekagaaGreat
