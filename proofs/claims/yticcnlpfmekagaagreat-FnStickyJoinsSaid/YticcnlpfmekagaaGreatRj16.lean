/- Part 16 of the proof of the row: StFull, HeapA, HeapB, HeapC, Parts. -/
import Derived.Test.YticcnlpfmekagaaGreatRj00
import Derived.Test.YticcnlpfmekagaaGreatRj12
import Derived.Deep.QuietTactic
import Derived.RegionTactic
import Derived.Test.YticcnlpfmekagaaGreatRj14
import Derived.Test.YticcnlpfmekagaaGreatRj13
set_option linter.unusedVariables false
set_option linter.unusedSimpArgs false
set_option maxRecDepth 100000
set_option maxHeartbeats 8000000
namespace Go.Proofs.YticcnlpfmekagaaGreat
section
open Go Go.RowKit
open Classical
section
variable {P : Program} {ops : Array Oper} {o : Oper} {a : Act} {w : World} {rest : List Oper} {Q : Exit → Act → World → Prop}
variable {T : TypeId} {x y : Operand} {S : List Nat} {w0 : World} {M R : List Res} {E sz bytes : Nat} {z : Value}
theorem wl_mkfull (c : Nat) {kl kc : IntKind} (hgd : o.guard = none) (hop : o.op = .makeSlice T x y) (hx : a.eval x = .int kl (c : Int)) (hy : a.eval y = .int kc (c : Int)) (el : Elem P T E sz bytes z) (hst : St S w0 w M R) (hb : bytes * c ≤ 281474976710656) (hc : c ≤ maxLen)
 (hK : ∀ g cs w', cs.length = c * sz → St S w0 w' (Rs.row E sz (.slice (some ⟨g, 0, none⟩) c c) c cs :: M) R → w.heap.size ≤ g → wpList P ops Q rest (a.put o.dst (.slice (some ⟨g, 0, none⟩) c c)) w') : wpList P ops Q (o :: rest) a w := by
 obtain ⟨i, hi, hz, hsz, hby⟩ := el.info
 subst hby hsz
 have hc' : (c : Int) ≤ 9223372036854775807 := by unfold maxLen at hc; omega
 have hb' : (i.bytes : Int) * (c : Int) ≤ 281474976710656 := by
  have h : ((i.bytes * c : Nat) : Int) ≤ 281474976710656 := by omega
  rwa [Int.natCast_mul] at h
 have hrun := run_make (P := P) w T E i z el.und hi hz kl kc c c (by omega) (Int.le_refl _) hb' hc'
 simp only [Int.toNat_natCast] at hrun
 have hsize : (madeCells z.cells (c * i.size)).toList.length = c * i.size := by rw [Array.length_toList]; exact size_madeCells _ _
 refine wl_val (v := .slice (some ⟨w.heap.size, 0, none⟩) c c) (w' := w.alloc (.cells (madeCells z.cells (c * i.size)) E)) hgd ?_ (hK _ (madeCells z.cells (c * i.size)).toList _ hsize ?_ (Nat.le_refl _))
 · simp only [execOp, hop, hx, hy, Sem.run_bind, hrun, Result.andThen_ok]; rfl
 · have := hst.made E i.size c (madeCells z.cells (c * i.size)).toList hsize hc
   simpa using this
theorem own_setE {w : World} {E sz g n c j : Nat} {cs : List Value} (h : w.ownsRow 0 E sz (.slice (some ⟨g, 0, none⟩) n c) n cs) (u : Value) : (w.setCell ⟨g, j, none⟩ u).ownsRow 0 E sz (.slice (some ⟨g, 0, none⟩) n c) n (cs.set j u) := by
 refine ⟨by simpa using h.1, ?_⟩
 rcases h.2 with ⟨h1, _⟩ | ⟨g', cap, cur, h1, h0, hg, hnc, hcm, hcs, ht⟩
 · cases h1
 · cases h1
   refine .inr ⟨g, c, cur.setIfInBounds j u, rfl, h0, by simp [World.setCell, Array.getElem?_modify, hg], hnc, hcm, by simpa using hcs, ?_⟩
   rw [Array.toList_setIfInBounds, List.take_set, ht]
theorem St.setRow {g n c : Nat} {cs : List Value} (h : St S w0 w M R) (i : Nat) (hi : M[i]? = some (Rs.row E sz (.slice (some ⟨g, 0, none⟩) n c) n cs)) (j : Nat) (u : Value) :
 St S w0 (w.setCell ⟨g, j, none⟩ u) (M.set i (Rs.row E sz (.slice (some ⟨g, 0, none⟩) n c) n (cs.set j u))) R :=
 h.set i hi (T := [g]) ((Kept.refl _ _).setCell u (by simp)) (by simp [Rs.row, Value.ownBlock]) (own_setE (h.m i hi) u) (fun g hg => .inl hg)
end
end
section
open Go Go.Proofs Go.RowKit Go.Lib
open Classical
abbrev It := Nat × ByteArray × Option Addr × Nat × Nat
abbrev itCells (x : It) : Array Value := #[.string x.2.1, .slice x.2.2.1 x.2.2.2.1 x.2.2.2.2]
def ptrs (L : List It) : List Value := L.map fun x => .pointer (some ⟨x.1, 0, none⟩)
def moreIt (x y : It) : Bool := if x.2.2.2.1 = y.2.2.2.1 then (!Op.bytesLess x.2.1.toList y.2.1.toList && !x.2.1.toList == y.2.1.toList) else decide (x.2.2.2.1 > y.2.2.2.1)
theorem less_it (g n c : Nat) (w : World) (x y : It) (i j : Nat) (hi : i < n) (hj : j < n) (hn : n < 1000000000)
 (ci : w.cell? ⟨g, i, none⟩ = some (.pointer (some ⟨x.1, 0, none⟩))) (cj : w.cell? ⟨g, j, none⟩ = some (.pointer (some ⟨y.1, 0, none⟩)))
 (hx : w.cell? ⟨x.1, 0, none⟩ = some (.string x.2.1) ∧ w.cell? ⟨x.1, 1, none⟩ = some (.slice x.2.2.1 x.2.2.2.1 x.2.2.2.2))
 (hy : w.cell? ⟨y.1, 0, none⟩ = some (.string y.2.1) ∧ w.cell? ⟨y.1, 1, none⟩ = some (.slice y.2.2.1 y.2.2.2.1 y.2.2.2.2)) :
 Calls Tryz.prog 416 #[.slice (some ⟨g, 0, none⟩) n c, .int .i64 i, .int .i64 j] w fun e w' => e = .returned (.bool (moreIt x y)) ∧ ∃ q, w' = w.drewN q := by
 obtain ⟨bx, mx, ax, nx, cx⟩ := x
 obtain ⟨by', my, ay, ny, cy⟩ := y
 obtain ⟨x0, x1⟩ := hx
 obtain ⟨y0, y1⟩ := hy
 simp only at ci cj x0 x1 y0 y1
 by_cases h0 : nx = ny
 · subst h0
   go_enter Tryz.func416, Tryz.ntmps416
   go_wp2
   go_quiet (fail)
   go_wp2
   go_quiet (fail)
   go_wp2
   go_ret
   exact ⟨by simp [moreIt], _, (by first | rfl | exact World.drewN_drewN ..)⟩
 · have hb : ((nx : Int) == (ny : Int)) = false := by simp; omega
   have e : moreIt (bx, mx, ax, nx, cx) (by', my, ay, ny, cy) = decide ((nx : Int) > (ny : Int)) := by simp [moreIt, h0]
   rw [e]
   go_enter Tryz.func416, Tryz.ntmps416
   go_wp2
   go_quiet (fail)
   go_wp2
   go_quiet (fail)
   go_wp2
   go_ret
   exact ⟨by simp, _, (by first | rfl | exact World.drewN_drewN ..)⟩
theorem swap_it (g n c : Nat) (w : World) (x y : Addr) (i j : Nat) (hi : i < n) (hj : j < n) (hn : n < 1000000000)
 (ci : w.cell? ⟨g, i, none⟩ = some (.pointer (some x))) (cj : w.cell? ⟨g, j, none⟩ = some (.pointer (some y)))
 (f1 : w.frozen? ⟨g, i, none⟩ = false) (f2 : w.frozen? ⟨g, j, none⟩ = false) :
 Calls Tryz.prog 417 #[.slice (some ⟨g, 0, none⟩) n c, .int .i64 i, .int .i64 j] w fun e w' => e = .returned (.tuple #[]) ∧
  ∃ q, w' = ((w.setCell ⟨g, i, none⟩ (.pointer (some y))).setCell ⟨g, j, none⟩ (.pointer (some x))).drewN q := by
 have s1 : (w.setCell ⟨g, i, none⟩ (.pointer (some y))).cell? ⟨g, j, none⟩ = some (.pointer (some y)) := by
  by_cases h : i = j
  · subst h
    simp [go_sem, ci]
  · rw [World.cell?_setCell_other _ _ _ _ (fun e => h (by injection e))]; exact cj
 go_enter Tryz.func417, Tryz.ntmps417
 go_wp2
 go_region
 all_goals (try go_wp2)
 all_goals go_end0
 all_goals exact ⟨rfl, 1, rfl⟩
theorem len_it (v : Option Addr) (n c : Nat) (w : World) : Calls Tryz.prog 241 #[.slice v n c] w fun e w' => e = .returned (.int .i64 n) ∧ w' = w := by
 go_enter Tryz.func241, Tryz.ntmps241
 go_wp2
 go_ret
 exact ⟨rfl, rfl⟩
theorem pop_it (b g n c : Nat) (w : World) (x : Value) (hn : n + 1 < 1000000000) (hc : n + 1 ≤ c) (hc2 : c ≤ maxLen)
 (cb : w.cell? ⟨b, 0, none⟩ = some (.slice (some ⟨g, 0, none⟩) (n + 1 : Nat) c)) (fb : w.frozen? ⟨b, 0, none⟩ = false)
 (cx : w.cell? ⟨g, n, none⟩ = some x) (hx : ∃ a, x = .pointer (some a)) :
 Calls Tryz.prog 418 #[.pointer (some ⟨b, 0, none⟩)] w fun e w' => (∃ v, e = .returned v) ∧ w' = w.setCell ⟨b, 0, none⟩ (.slice (some ⟨g, 0, none⟩) n c) := by
 obtain ⟨a, rfl⟩ := hx
 have h1 : ((n + 1 : Nat) : Int) - 1 = n := by omega
 go_enter Tryz.func418, Tryz.ntmps418
 go_wp2
 go_ret
 exact ⟨⟨_, rfl⟩, rfl⟩
theorem qf_less : (Tryz.prog.info? 416).bind (fun i => (i.methods.find? (·.name == "Less")).map fun m => (m.path.toList.length, m.func)) = some (0, some (416, false)) := by kernel_rfl
theorem meth_ptr {name : String} {f : Nat} {a : Addr} {u : Value} {w : World} (h : (Tryz.prog.info? 416).bind (fun i => (i.methods.find? (·.name == name)).map fun m => (m.path.toList.length, m.func)) = some (0, some (f, false)))
 (hl : (loadVar 411 a).run Tryz.prog w = .ok u w) : (method 643 416 (.pointer (some a)) name).run Tryz.prog w = .ok (f, u) w := by
 obtain ⟨i, hi, h2⟩ := Option.bind_eq_some_iff.1 h
 obtain ⟨m, hm, h3⟩ := Option.map_eq_some_iff.1 h2
 simp only [Prod.mk.injEq] at h3
 obtain ⟨h4, h5⟩ := h3
 have h6 : m.path.toList = [] := List.length_eq_zero_iff.1 h4
 have h7 : m.path.isEmpty = true := by simp [Array.isEmpty, ← Array.length_toList, h4]
 have h8 : (typeInfo 416).run Tryz.prog w = .ok i w := by simp [typeInfo, go_sem, hi]
 rw [method, Sem.run_bind, h8, Result.andThen_ok, hm]
 simp only [h6, h5, h7, follow, pure_bind, if_true, receiverAt, Sem.run_bind]
 have h9 : (underlying 416).run Tryz.prog w = .ok (.pointer 411) w := by simp [go_sem, Tryz.underlying416]
 rw [h9, Result.andThen_ok]
 have h10 : ∀ s, Builtin.ssaWrapNilChk_ #[416] 416 #[.pointer (some a), strVal "", strVal s] = pure (.pointer (some a)) := fun s => rfl
 simp only [Place.get, pure_bind, h10, asAddr, hl, Result.andThen_ok, Sem.run_pure]
theorem qf_len : (Tryz.prog.info? 416).bind (fun i => (i.methods.find? (·.name == "Len")).map fun m => (m.path.toList.length, m.func)) = some (0, some (241, false)) := by kernel_rfl
theorem qf_swap : (Tryz.prog.info? 416).bind (fun i => (i.methods.find? (·.name == "Swap")).map fun m => (m.path.toList.length, m.func)) = some (0, some (417, false)) := by kernel_rfl
theorem qm_pop : IsMeth 416 "Pop" 418 := ⟨fun _ _ => by kernel_rfl, fun _ _ => by kernel_rfl, fun _ _ => by kernel_rfl⟩
theorem q_ld {w : World} {b g n c : Nat} (h : w.cell? ⟨b, 0, none⟩ = some (.slice (some ⟨g, 0, none⟩) n c)) : (loadVar 411 ⟨b, 0, none⟩).run Tryz.prog w = .ok (.slice (some ⟨g, 0, none⟩) n c) w := by simp [go_sem, h]
end
section
open Go Go.Proofs Go.RowKit Go.Lib
open Classical
def Rs.its (J : List It) : Res where
 foot := J.map Prod.fst
 holds := fun w => (∀ x ∈ J, w.heap[x.1]? = some (.cells (itCells x) 414 (0, 0))) ∧ (J.map Prod.fst).Nodup
 stable := fun w w' S k hs h => ⟨fun x hx => k.heap (h.1 x hx) (hs x.1 (List.mem_map.2 ⟨x, hx, rfl⟩)), h.2⟩
abbrev qrow (g n c : Nat) (L : List It) : Res := Rs.row 412 1 (.slice (some ⟨g, 0, none⟩) n c) n (ptrs L)
abbrev qbox (b g n c : Nat) : Res := Rs.blk b (.cells #[.slice (some ⟨g, 0, none⟩) n c] 411 (0, 0))
theorem it_cells {w : World} {x : It} (h : w.heap[x.1]? = some (.cells (itCells x) 414 (0, 0))) : w.cell? ⟨x.1, 0, none⟩ = some (.string x.2.1) ∧ w.cell? ⟨x.1, 1, none⟩ = some (.slice x.2.2.1 x.2.2.2.1 x.2.2.2.2) := by
 exact ⟨by simp [World.cell?, h], by simp [World.cell?, h]⟩
theorem ptrs_get {L : List It} {k : Nat} {x : It} (h : L[k]? = some x) : (ptrs L)[k]? = some (.pointer (some ⟨x.1, 0, none⟩)) := by simp [ptrs, h]
structure Hq (S : List Nat) (w0 : World) (b g n c : Nat) (J L : List It) (w : World) : Prop where
 st : St S w0 w [qrow g n c L] [Rs.its J, qbox b g n c]
 sub : ∀ x ∈ L, x ∈ J
 small : n < 1000000000
theorem Hq.len {S : List Nat} {w0 w : World} {b g n c : Nat} {J L : List It} (h : Hq S w0 b g n c J L w) : L.length = n := by
 have := (h.st.m 0 rfl).1
 simpa [ptrs] using this
theorem Hq.get {S : List Nat} {w0 w : World} {b g n c : Nat} {J L : List It} (h : Hq S w0 b g n c J L w) {i : Nat} (hi : i < n) : ∃ x, L[i]? = some x ∧ w.cell? ⟨g, i, none⟩ = some (.pointer (some ⟨x.1, 0, none⟩)) ∧
 w.cell? ⟨x.1, 0, none⟩ = some (.string x.2.1) ∧ w.cell? ⟨x.1, 1, none⟩ = some (.slice x.2.2.1 x.2.2.2.1 x.2.2.2.2) := by
 have hl := h.len
 refine ⟨L[i], List.getElem?_eq_getElem (by omega), ?_, it_cells ((h.st.r 0 rfl).1 _ (h.sub _ (List.getElem_mem _)))⟩
 exact (own_cell (h.st.m 0 rfl) (ptrs_get (List.getElem?_eq_getElem (by omega)))).1
theorem Hq.drewN {S : List Nat} {w0 w : World} {b g n c : Nat} {J L : List It} (h : Hq S w0 b g n c J L w) (q : Nat) : Hq S w0 b g n c J L (w.drewN q) := ⟨h.st.drewN q, h.sub, h.small⟩
theorem Hq.cells {S : List Nat} {w0 w : World} {b g n c : Nat} {J L : List It} (h : Hq S w0 b g n c J L w) : w.cell? ⟨b, 0, none⟩ = some (.slice (some ⟨g, 0, none⟩) n c) := by
 have h1 : w.heap[b]? = some (.cells #[.slice (some ⟨g, 0, none⟩) n c] 411 (0, 0)) := h.st.r 1 rfl
 simp [World.cell?, h1]
theorem Hq.mLess {S : List Nat} {w0 w : World} {b g n c : Nat} {J L : List It} (h : Hq S w0 b g n c J L w) : (method 643 416 (.pointer (some ⟨b, 0, none⟩)) "Less").run Tryz.prog w = .ok (416, .slice (some ⟨g, 0, none⟩) n c) w := meth_ptr qf_less (q_ld h.cells)
theorem Hq.mLen {S : List Nat} {w0 w : World} {b g n c : Nat} {J L : List It} (h : Hq S w0 b g n c J L w) : (method 643 416 (.pointer (some ⟨b, 0, none⟩)) "Len").run Tryz.prog w = .ok (241, .slice (some ⟨g, 0, none⟩) n c) w := meth_ptr qf_len (q_ld h.cells)
theorem Hq.mSwap {S : List Nat} {w0 w : World} {b g n c : Nat} {J L : List It} (h : Hq S w0 b g n c J L w) : (method 643 416 (.pointer (some ⟨b, 0, none⟩)) "Swap").run Tryz.prog w = .ok (417, .slice (some ⟨g, 0, none⟩) n c) w := meth_ptr qf_swap (q_ld h.cells)
theorem perm_swap2 {L : List It} {i j : Nat} {x y : It} (hx : L[i]? = some x) (hy : L[j]? = some y) : ((L.set i y).set j x).Perm L := by
 obtain ⟨hi, rfl⟩ := List.getElem?_eq_some_iff.1 hx
 obtain ⟨hj, rfl⟩ := List.getElem?_eq_some_iff.1 hy
 exact List.set_set_perm hi hj
theorem drop_sw {L : List It} {i j n0 : Nat} {x y : It} (hi : i < n0) (hj : j < n0) : ((L.set i y).set j x).drop n0 = L.drop n0 := by
 rw [List.drop_set_of_lt hj, List.drop_set_of_lt hi]
theorem Hq.swap {S : List Nat} {w0 w : World} {b g n c : Nat} {J L : List It} (h : Hq S w0 b g n c J L w) {i j : Nat} {iv jv : Int} (hi : i < n) (hj : j < n) (ei : iv = i) (ej : jv = j) :
 Calls Tryz.prog 417 #[.slice (some ⟨g, 0, none⟩) n c, .int .i64 iv, .int .i64 jv] w fun e w' => e = .returned (.tuple #[]) ∧ ∃ x y, L[i]? = some x ∧ L[j]? = some y ∧ Hq S w0 b g n c J ((L.set i y).set j x) w' := by
 subst ei ej
 obtain ⟨x, hx, cx, _⟩ := h.get hi
 obtain ⟨y, hy, cy, _⟩ := h.get hj
 refine (swap_it g n c w _ _ i j hi hj h.small cx cy (own_cell (h.st.m 0 rfl) (ptrs_get hx)).2 (own_cell (h.st.m 0 rfl) (ptrs_get hy)).2).mono fun e w' h' => ?_
 obtain ⟨h1, q, rfl⟩ := h'
 refine ⟨h1, x, y, hx, hy, ⟨?_, ?_, h.small⟩⟩
 · have h2 := ((h.st.setRow 0 rfl i (.pointer (some ⟨y.1, 0, none⟩))).setRow 0 rfl j (.pointer (some ⟨x.1, 0, none⟩))).drewN q
   have e : ptrs ((L.set i y).set j x) = ((ptrs L).set i (.pointer (some ⟨y.1, 0, none⟩))).set j (.pointer (some ⟨x.1, 0, none⟩)) := by simp [ptrs, List.map_set]
   show St S w0 _ [Rs.row 412 1 _ n (ptrs _)] _
   rw [e]
   exact h2
 · intro z hz
   exact h.sub z ((perm_swap2 hx hy).mem_iff.1 hz)
end
section
open Go Go.Proofs Go.RowKit Go.Lib
open Classical
theorem Hq.start {b g n c : Nat} {J L : List It} {w : World} (h : Ow w ([qrow g n c L] ++ [Rs.its J, qbox b g n c])) (hs : ∀ x ∈ L, x ∈ J) (hn : n < 1000000000) : Hq (foots [qrow g n c L]) w b g n c J L w := ⟨St.start h, hs, hn⟩
theorem Hq.pop {S : List Nat} {w0 w : World} {b g n c : Nat} {J L : List It} (hb : b ∈ S ∨ w0.heap.size ≤ b) (h : Hq S w0 b g (n + 1) c J L w) :
 Calls Tryz.prog 418 #[.pointer (some ⟨b, 0, none⟩)] w fun e w' => (∃ v, e = .returned v) ∧ Hq S w0 b g n c J (L.take n) w' := by
 obtain ⟨x, hx, cx, _⟩ := h.get (i := n) (by omega)
 have hb2 : w.heap[b]? = some (.cells #[.slice (some ⟨g, 0, none⟩) (n + 1 : Nat) c] 411 (0, 0)) := h.st.r 1 rfl
 have hcap : n + 1 ≤ c ∧ c ≤ maxLen := by
  obtain ⟨_, h1 | ⟨g', c', cur, h1, h0, hg, h2, h3, _⟩⟩ := h.st.m 0 rfl
  · cases h1.1
  · cases h1; exact ⟨h2, h3⟩
 have hl := h.len
 refine (pop_it b g n c w _ h.small hcap.1 hcap.2 h.cells (by simp [World.frozen?, hb2]) cx ⟨_, rfl⟩).mono fun e w' h' => ?_
 obtain ⟨h1, rfl⟩ := h'
 refine ⟨h1, ⟨?_, fun y hy => h.sub y (List.mem_of_mem_take hy), by have := h.small; omega⟩⟩
 have h2 := h.st.weak 0 rfl (X' := qrow g n c (L.take n)) (fun hh => by
  have := own_take hh (i := n) (by omega)
  have e : ptrs (L.take n) = (ptrs L).take (n * 1) := by simp [ptrs, List.map_take]
  show w.ownsRow 0 412 1 _ n (ptrs (L.take n))
  rw [e]
  exact this) (fun gg hg => by simpa [Rs.row, Value.ownBlock] using hg)
 simp only [Zs0] at h2
 have h3 := h2.setR 1 rfl (T := [b]) (X' := qbox b g n c) (show Kept [b] w (w.setCell ⟨b, 0, none⟩ (.slice (some ⟨g, 0, none⟩) n c)) from (Kept.refl _ _).setCell _ (by simp)) (fun gg hg _ => by simp at hg; subst hg; exact ⟨by simp [Rs.blk], hb⟩)
  (by show (w.setCell _ _).heap[b]? = _; simp [World.setCell, Array.getElem?_modify, hb2]) (fun gg hg => .inl hg)
 simpa only [Zs0, Zs1] using h3
theorem Hq.lenc {S : List Nat} {w0 w : World} {b g n c : Nat} {J L : List It} (h : Hq S w0 b g n c J L w) : Calls Tryz.prog 241 #[.slice (some ⟨g, 0, none⟩) n c] w fun e w' => e = .returned (.int .i64 n) ∧ w' = w := len_it _ _ _ _
theorem up_q (b g n c : Nat) (J L : List It) (S : List Nat) (w0 w : World) (h : Hq S w0 b g n c J L w) :
 Calls Tryz.prog 262 #[.iface 416 (.pointer (some ⟨b, 0, none⟩)), .int .i64 0] w fun e w' => e = .returned (.tuple #[]) ∧ w' = w := by
 go_enter Tryz.func262, Tryz.ntmps262
 go_wp2
 go_loopw [1] (fun iv wr => iv = .int .i64 0 ∧ wr = w) (fun iv _ => 0)
 case atStart => exact ⟨rfl, rfl⟩
 case round =>
  obtain ⟨rfl, rfl⟩ := hrel
  go_wp2
  go_end0
  exact ⟨rfl, rfl⟩
end
section
open Go Go.Proofs Go.RowKit Go.Lib
open Classical
theorem enc_set (A B : List TP) (p q : TP) : (((A ++ q :: B).flatMap encTp).set (A.length * 2) (.string p.1)).set (A.length * 2 + 1) (.int .i32 p.2) = (A ++ p :: B).flatMap encTp := by
 rw [List.flatMap_append, List.flatMap_append, List.flatMap_cons, List.flatMap_cons, ← encs_len]
 simp [encTp, List.set_append]
theorem enc_setc (A : List TP) (r0 r1 : Value) (rs : List Value) (p : TP) : ((A.flatMap encTp ++ r0 :: r1 :: rs).set (A.length * 2) (.string p.1)).set (A.length * 2 + 1) (.int .i32 p.2) = (A ++ [p]).flatMap encTp ++ rs := by
 rw [List.flatMap_append, ← encs_len]
 simp [encTp, List.set_append]
def TpsInv (w : World) (g n c B A r : Nat) (l : List (Value × Value)) (len : Nat) (L : List TP) (wr : World) : Prop :=
 L.length = n ∧ (∀ x ∈ L, ∃ a c, (tpV x, .slice a len c) ∈ l) ∧
 St [] w wr [Rs.blk B (.cells #[.slice (some ⟨g, 0, none⟩) n c] 375 (0, 0)), Rs.row 384 2 (.slice (some ⟨g, 0, none⟩) n c) n (L.flatMap encTp), Rs.blk A (.cells #[.map (some r)] 382 (0, 0))] [Rs.map r isTp l]
theorem swap_lists {L : List TP} {j : Nat} (h0 : 0 < j) (hj : j < L.length) :
 ((((L.flatMap encTp).set (j * 2) (.string (L[j-1]'(by omega)).1)).set (j * 2 + 1) (.int .i32 (L[j-1]'(by omega)).2)).set ((j-1) * 2) (.string L[j].1)).set ((j-1) * 2 + 1) (.int .i32 L[j].2) = ((L.set j (L[j-1]'(by omega))).set (j-1) L[j]).flatMap encTp := by
 obtain ⟨k, rfl⟩ : ∃ k, j = k + 1 := ⟨j - 1, by omega⟩
 obtain ⟨A, x, y, C, rfl, rfl⟩ : ∃ A x y C, L = A ++ x :: y :: C ∧ A.length = k :=
  ⟨L.take k, L[k], L[k+1], L.drop (k+2), by rw [← List.drop_eq_getElem_cons (by omega), ← List.drop_eq_getElem_cons (by omega), List.take_append_drop], by simp; omega⟩
 have e1 : (A ++ x :: y :: C)[A.length + 1 - 1]'(by simp) = x := by simp
 have e2 : (A ++ x :: y :: C)[A.length + 1] = y := by simp
 have e3 : ((A ++ x :: y :: C).set (A.length + 1) x).set (A.length + 1 - 1) y = A ++ y :: x :: C := by simp [List.set_append]
 rw [e1, e2, e3]
 have h1 := enc_set (A ++ [x]) C x y
 simp only [List.length_append, List.length_cons, List.length_nil, Nat.zero_add, List.append_assoc, List.cons_append, List.nil_append] at h1
 rw [h1]
 have h2 := enc_set A (x :: C) y x
 simp only [Nat.add_sub_cancel]
 exact h2
theorem tps_zz (w : World) (g n c B A r len : Nat) (l : List (Value × Value)) (hn : n < 1000000000) :
 ZzOk 263 264 #[.pointer (some ⟨B, 0, none⟩)] #[.pointer (some ⟨A, 0, none⟩), .pointer (some ⟨B, 0, none⟩)] n ltTp (TpsInv w g n c B A r l len) where
 len := fun L wr h => h.1
 swap := fun L wr j h0 hj ⟨hl, hx, hst⟩ => by
  have hc := (hst.cell1 0 rfl).1
  have hrow : wr.ownsRow 0 384 2 (.slice (some ⟨g, 0, none⟩) n c) n (L.flatMap encTp) := hst.m 1 rfl
  have hj1 : j - 1 < L.length := by omega
  obtain ⟨g1, g2⟩ := tp_get (List.getElem?_eq_getElem hj)
  obtain ⟨g3, g4⟩ := tp_get (List.getElem?_eq_getElem hj1)
  have hfr : ∀ k, wr.frozen? ⟨g, k, none⟩ = false := by
   rcases hrow.2 with ⟨h1, _⟩ | ⟨g', cap, cur, h1, _, hg, _⟩
   · cases h1
   · cases h1; intro k; simp [World.frozen?, hg]
  have hne : B ≠ g := by
   have := hst.ow.dis
   simp only [List.cons_append, List.nil_append, List.pairwise_cons] at this
   have h1 := this.1 (Rs.row 384 2 (.slice (some ⟨g, 0, none⟩) n c) n (L.flatMap encTp)) (by simp) B (by simp [Rs.blk])
   simpa [Rs.row, Value.ownBlock] using h1
  have h := swap_tp B g n c wr L[j] L[j-1] j (j-1) (by omega) (by omega) (by omega) (by omega) hc hne (own_cell hrow g1).1 (own_cell hrow g2).1 (own_cell hrow g3).1 (own_cell hrow g4).1 hfr
  have e : ((j - 1 : Nat) : Int) = (j : Int) - 1 := by omega
  rw [e] at h
  refine h.mono ?_
  rintro e w' ⟨rfl, q, rfl⟩
  refine ⟨rfl, by simpa using hl, fun x hx' => ?_, ?_⟩
  · exact hx x ((perm_swap h0 hj).mem_iff.1 hx')
  · have h1 := (((hst.setRow 1 rfl (j * 2) (.string L[j-1].1)).setRow 1 rfl (j * 2 + 1) (.int .i32 L[j-1].2)).setRow 1 rfl ((j-1) * 2) (.string L[j].1)).setRow 1 rfl ((j-1) * 2 + 1) (.int .i32 L[j].2)
    simp only [Zs1, Zs0, swap_lists h0 hj] at h1
    exact h1.drewN q
 less := fun L wr j h0 hj ⟨hl, hx, hst⟩ => by
  have hB := (hst.cell1 0 rfl).1
  have hA := (hst.cell1 2 rfl).1
  have hrow : wr.ownsRow 0 384 2 (.slice (some ⟨g, 0, none⟩) n c) n (L.flatMap encTp) := hst.m 1 rfl
  have hj1 : j - 1 < L.length := by omega
  obtain ⟨g1, g2⟩ := tp_get (List.getElem?_eq_getElem hj)
  obtain ⟨g3, g4⟩ := tp_get (List.getElem?_eq_getElem hj1)
  obtain ⟨a1, k1, m1⟩ := hx L[j] (by simp)
  obtain ⟨a2, k2, m2⟩ := hx L[j-1] (by simp)
  have h := less_tp A B g n c r len l wr L[j] L[j-1] a1 a2 k1 k2 j (j-1) (by omega) (by omega) (by omega) hA hB (own_cell hrow g1).1 (own_cell hrow g2).1 (own_cell hrow g3).1 (own_cell hrow g4).1 (hst.r 0 rfl) m1 m2
  have e : ((j - 1 : Nat) : Int) = (j : Int) - 1 := by omega
  rw [e] at h
  refine h.mono ?_
  rintro e w' ⟨rfl, q, rfl⟩
  exact ⟨rfl, hl, hx, hst.drewN q⟩
theorem body263 : HasBody 263 := by unfold HasBody; intro a w; kernel_rfl
theorem body264 : HasBody 264 := by unfold HasBody; intro a w; kernel_rfl
abbrev itK (rk : Nat) (B : List Sw) (lf : List (Value × Value)) (it : Nat) : Res := Rs.it (Rs.map rk isTp (rawR (rowsS B))) rk (rawR (rowsS B)) lf it (by simp [Rs.map])
def SPInv (w : World) (rk it g Bb A N : Nat) (B : List Sw) (i : Value) (wr : World) : Prop :=
 ∃ (Dn Lf : List Sw) (rs : List Value), i = .int .i64 (Dn.length : Nat) ∧ (Dn ++ Lf).Perm B ∧ rs.length = Lf.length * 2 ∧
  St [] w wr [Rs.blk Bb (.cells #[.slice (some ⟨g, 0, none⟩) N N] 375 (0, 0)), Rs.row 384 2 (.slice (some ⟨g, 0, none⟩) N N) N ((Dn.map (·.1)).flatMap encTp ++ rs), Rs.blk A (.cells #[.map (some rk)] 382 (0, 0))] [itK rk B (rawR (rowsS Lf)) it]
def PartsPost (w : World) (N : Nat) (B : List Sw) (e : Ending) (w' : World) : Prop :=
 ∃ (g c : Nat) (zs : List TP), e = .returned (.slice (some ⟨g, 0, none⟩) N c) ∧ zs.Perm (B.map (·.1)) ∧ St [] w w' [Rs.row 384 2 (.slice (some ⟨g, 0, none⟩) N c) N (zs.flatMap encTp)] []
theorem rawS_len (B : List Sw) : (rawR (rowsS B)).length = B.length := by simp [rawR, rowsS]
theorem sort_parts (rk len N : Nat) (B : List Sw) (w : World) (hrows : RowsAt w isTp rk 9 1 (rowsS B)) (hfull : ∀ x ∈ B, x.2.2.length = len) (hN : (rawR (rowsS B)).length = N) (hN1 : N ≤ 1000) :
 Calls Tryz.prog 244 #[.map (some rk)] w (PartsPost w N B) := by
 have hst0 : St [] w w [] [Rs.map rk isTp (rawR (rowsS B))] := St.start0 (Ow.one hrows.map (by simpa [Rs.map] using hrows.map.lt))
 have hent : ∀ x ∈ B, ∃ a c, (tpV x.1, Value.slice a len c) ∈ rawR (rowsS B) := fun x hx => by
  obtain ⟨_, a, c, e⟩ := p2c_row hrows hx
  rw [hfull x hx] at e
  have := p2c_in hx
  rw [e] at this
  exact ⟨a, c, this⟩
 have HE := Zhd (Zan hent hN); clear hent hrows hfull
 have hlen := fun w' (h : MapAt w' isTp rk (rawR (rowsS B))) => map_len (P := Tryz.prog) h Tryz.underlying382 3
 rw [hN] at hlen
 have hl1 := hlen _ ((hst0.blk (.cells #[.map (some rk)] 382)).r 0 rfl)
 clear hlen hN
 go_enter Tryz.func244, Tryz.ntmps244
 go_wp2_with (first
  | (refine wl_mkfull N rfl rfl rfl rfl elTp (hst0.blk _) (by omega) (by unfold maxLen; omega) ?_
     intro g cs w1 hcs hst1 hg
     have cA : ∀ o, (w1.alloc o).cell? ⟨w.heap.size, 0, none⟩ = some (.map (some rk)) := fun o => ca (hst1.cell1 1 rfl).1
     have HCS := Zhd hcs; clear hcs)
  | (refine wl_rngR 0 rfl rfl rfl Tryz.underlying382 (hst1.blk _) rfl (by simp [Rs.map]) ((hst1.blk _).r 0 rfl) ?_
     intro it w2 hst2 hit)
  | fail)
 simp only [Zs0] at hst2
 have hfit : w.heap.size ≤ it := by have h1 := hst1.size; simp at hit; omega
 have HFIT := Zhd hfit; clear hfit
 clear cA hg hit hst1 hst0 hl1
 generalize w1.heap.size = Bb at hst2 ⊢
 generalize w.heap.size = A at hst2 ⊢
 have h0 : SPInv w rk it g Bb A N B (.int .i64 0) w2 := ⟨[], B, cs, rfl, List.Perm.refl _, by rw [HCS.out, ← HE.out.2, rawS_len], hst2⟩
 have H0 := Zhd h0; clear h0 hst2
 try go_frame
 go_loopw [4] (fun i wr => SPInv w rk it g Bb A N B i wr) (fun _ wr => leftOf wr it rk)
 case atStart => exact H0.out
 case round =>
  obtain ⟨Dn, Lf, rs, rfl, hperm, hrs, hst⟩ := hrel
  have hB : Dn.length + Lf.length = N := by have := hperm.length_eq; simp only [List.length_append] at this; rw [← HE.out.2, rawS_len]; omega
  by_cases hlf : rawR (rowsS Lf) = []
  · have h0 := rawS_nil hlf
    subst h0
    obtain rfl : rs = [] := List.eq_nil_of_length_eq_zero (by simpa using hrs)
    have hB0 := (hst.cell1 0 rfl).1
    have hit0 : IterAt wr it rk (rawR (rowsS B)) [] := (hst.r 0 rfl).2.1
    have hst5 := hst.weakR 0 rfl (X' := Rs.map rk isTp (rawR (rowsS B))) (fun h => h.1) (fun g hg => List.mem_append_left [it] hg)
    simp only [Zs0, List.append_nil] at hst5
    rw [List.append_nil] at hperm
    have hI : TpsInv w g N N Bb A rk (rawR (rowsS B)) len (Dn.map (·.1)) wr := ⟨by rw [List.length_map]; simpa using hB, fun x hx => by
     obtain ⟨y, hy, rfl⟩ := List.mem_map.1 hx
     exact HE.out.1 y (hperm.mem_iff.1 hy), hst5⟩
    have hz := zz_perm 263 264 _ _ N ltTp _ (tps_zz w g N N Bb A rk len (rawR (rowsS B)) (by omega)) body263 body264 (by omega) (Dn.map (·.1)) wr hI
    have HZ := Zhd hz; clear hz hI hst5
    have HP := Zhd hperm; clear hperm hrs
    go_wp2_with (first | (refine wl_nx0 rfl rfl rfl hit0 ?_) | fail)
    refine HZ.out.mono ?_
    rintro e w3 ⟨rfl, L, hp, ⟨hL1, hL2, hst6⟩⟩
    obtain ⟨cB, fB⟩ := hst6.cell1 0 rfl
    have hfin : PartsPost w N B (.returned (.slice (some ⟨g, 0, none⟩) N N)) w3 := ⟨g, N, L, rfl, hp.trans (HP.out.map _), ((hst6.drop 2).drop 0).noR⟩
    have HF := Zhd hfin; clear hfin hst6 hst hp hL1 hL2
    go_wp2_with fail
    go_ret
    exact HF.out
  · have HL := Zhd (Zan hperm hrs); clear hperm hrs
    obtain ⟨wB, rfl⟩ : ∃ wB, wB = wr := ⟨_, rfl⟩
    go_upto_region 6 with (first
     | (refine wl_nx1R 0 (by simp [Rs.map]) rfl rfl rfl hst rfl hlf HFIT.out ?_
        intro k v l1 l2 w2 hsp hst2 hent
        simp only [Zs0] at hst2
        obtain ⟨L1, x, L2, rfl, rfl, rfl, rfl, rfl⟩ := rawS_split hsp
        obtain ⟨p, pv, nm⟩ := x
        have HSP := Zhd hsp; clear hsp)
     | (refine wl_entry rfl rfl rfl hent ?_)
     | fail)
    obtain ⟨r0, r1, rs', rfl⟩ : ∃ r0 r1 rs', rs = r0 :: r1 :: rs' := by
     have h1 := HL.out.2
     match rs, h1 with
     | [], h => simp at h
     | [_], h => (simp at h; omega)
     | r0 :: r1 :: rs', _ => exact ⟨_, _, _, rfl⟩
    have hkl : Dn.length < N := by simp at hB; omega
    have hk1 : (Dn.length : Int) < (N : Int) := by omega
    have hst3 := hst2.alloc (.cells #[.string p.1, .int .i32 p.2] 384)
    have hm1 : ((Dn.map (·.1)).flatMap encTp).length = Dn.length * 2 := by rw [encs_len, List.length_map]
    obtain ⟨c1, f1⟩ := own_cell (show _ from hst3.m 1 rfl) (j := Dn.length * 2) (u := r0) (by rw [← hm1]; simp)
    obtain ⟨c2, f2⟩ := own_cell (show _ from hst3.m 1 rfl) (j := Dn.length * 2 + 1) (u := r1) (by rw [← hm1, List.getElem?_append_right (by omega)]; simp)
    have cB := (hst3.cell1 0 rfl).1
    have s1 : ∀ u, ((w2.alloc (.cells #[.string p.1, .int .i32 p.2] 384)).setCell ⟨g, Dn.length * 2, none⟩ u).cell? ⟨g, Dn.length * 2 + 1, none⟩ = some r1 := fun u => by
     rw [World.cell?_setCell_other _ _ _ _ (fun e => by injection e with _ h; omega)]; exact c2
    have hst4 := (hst3.setRow 1 rfl (Dn.length * 2) (.string p.1)).setRow 1 rfl (Dn.length * 2 + 1) (.int .i32 p.2)
    have hec := enc_setc (Dn.map (·.1)) r0 r1 rs' p
    rw [List.length_map] at hec
    simp only [Zs0, Zs1, hec] at hst4
    have e : rawR (rowsS L1) ++ rawR (rowsS L2) = rawR (rowsS (L1 ++ L2)) := by rw [rowsS_append, rawR_append]
    simp only [e] at hst4
    have hend : SPInv w rk it g Bb A N B (.int .i64 ((Dn.length : Int) + 1)) (((w2.alloc (.cells #[.string p.1, .int .i32 p.2] 384)).setCell ⟨g, Dn.length * 2, none⟩ (.string p.1)).setCell ⟨g, Dn.length * 2 + 1, none⟩ (.int .i32 p.2)) ∧
     leftOf (((w2.alloc (.cells #[.string p.1, .int .i32 p.2] 384)).setCell ⟨g, Dn.length * 2, none⟩ (.string p.1)).setCell ⟨g, Dn.length * 2 + 1, none⟩ (.int .i32 p.2)) it rk < leftOf wB it rk := by
     refine ⟨⟨Dn ++ [(p, pv, nm)], L1 ++ L2, rs', by simp, perm_step HL.out.1, ?_, ?_⟩, ?_⟩
     · have := HL.out.2; simp at this ⊢; omega
     · rw [List.map_append]; exact hst4
     · have h1 : IterAt _ it rk (rawR (rowsS B)) (rawR (rowsS (L1 ++ L2))) := (hst4.r 0 rfl).2.1
       have h2 : IterAt wB it rk (rawR (rowsS B)) _ := (hst.r 0 rfl).2.1
       rw [h1.leftOf, h2.leftOf, HSP.out, ← e]
       simp
    have HEN := Zhd hend; clear hend hst4 hst3 hec e hm1 hB
    go_wp2_with fail
    exact HEN.out
end
end Go.Proofs.YticcnlpfmekagaaGreat
