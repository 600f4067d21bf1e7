/- Part 8 of the proof of the row: StOps2, ZzS, Shelf2, Tp. -/
import Derived.Test.YticcnlpfmekagaaGreatRc00
import Derived.Test.YticcnlpfmekagaaGreatRc07
import Derived.Test.YticcnlpfmekagaaGreatRc05
import Derived.Test.YticcnlpfmekagaaGreatRc06
import Derived.Shelf.SlGeneric
import Derived.Shelf.SlSortCmp.SmallK
import Derived.Shelf.SlicesQ.Contains
import Derived.Ground.SlsfProg
import Derived.Ground.SlgqProg
import Derived.Test.YticcnlpfmekagaaGreatProg
import Derived.Laws.StructEq
set_option linter.unusedVariables false
set_option linter.unusedSimpArgs false
set_option maxRecDepth 100000
set_option maxHeartbeats 8000000
namespace Go.Proofs.YticcnlpfmekagaaGreat
section
open Go Go.RowKit
open Classical
def StampAt (w : World) (r : Nat) (k : Value) (s : Nat) : Prop :=
 ∃ es clock, w.heap[r]? = some (.map es clock) ∧ (es.toList.map MapEntry.born).Pairwise (· < ·) ∧ ∃ e ∈ es.toList, e.born = s ∧ e.key = k
theorem StampAt.kept {w w' : World} {r s : Nat} {k : Value} {S : List Nat} (h : StampAt w r k s) (kk : Kept S w w') (hs : r ∉ S) : StampAt w' r k s := by
 obtain ⟨es, c, h1, h2⟩ := h
 exact ⟨es, c, kk.heap h1 hs, h2⟩
section
variable {P : Program} {w : World} {V : Value → Prop} {r : Nat} {l : List (Value × Value)} {T kT eT : TypeId}
theorem map_mentry_hit (h : MapAt w V r l) (K : KeyT P kT V) (hT : P.underlying T = some (.map kT eT)) {k v : Value} (hk : (k, v) ∈ l) :
 ∃ w' s, (Instr.mapEntry T (.map (some r)) k).run P w = .ok (.tuple #[v, .int .i64 (s : Nat)]) w' ∧ MapAt w' V r l ∧ StampAt w' r k s ∧ Kept [r] w w' ∧ w'.heap.size = w.heap.size := by
 obtain ⟨es, c, hr, hl, hb, hc, hV, hn⟩ := h
 have hVk : V k := hV _ hk
 have hes : ∀ e ∈ es.toList, V e.key := fun e he => hV (e.key, e.val) (by rw [← hl]; exact List.mem_map_of_mem (f := fun e : MapEntry => (e.key, e.val)) he)
 obtain ⟨j, hj⟩ := findVal_hit (i := 0) (es := es.toList) (k := k) (v := v) (by rw [← hl] at hn; simpa [Function.comp_def] using hn) (by rw [hl]; exact hk)
 obtain ⟨l1, e, l2, h1, h2, h3, h4, h5⟩ := findVal_some hj
 have hj' : j = l1.length := by omega
 subst hj'
 have hei : es[l1.length]? = some e := by rw [← Array.getElem?_toList, h1]; simp
 have hmod : (es.modify l1.length fun e => { e with key := k }).toList = es.toList := by
  rw [Array.toList_modify, h1, list_modify_at]
  have : ({ e with key := k } : MapEntry) = e := by cases e; simp only at h3; subst h3; rfl
  rw [this]
 refine ⟨{ w with heap := w.heap.setIfInBounds r (.map (es.modify l1.length fun e => { e with key := k }) c) }, e.born, ?_, ⟨_, _, setBlk_at w _ hr, by rw [hmod]; exact hl, by rw [hmod]; exact hb, by rw [hmod]; exact hc, hV, hn⟩, ⟨_, _, setBlk_at w _ hr, by rw [hmod]; exact hb, e, by rw [hmod, h1]; simp, rfl, h3⟩, setBlk_kept _ _ _, by simp⟩
 simp only [Instr.mapEntry, Sem.run_bind, run_underlying hT, Result.andThen_ok, run_getMap hr, K.check _ _ _ hVk, K.find _ _ _ hVk hes, hj, hei, Option.map_some, Option.getD_some, h3, K.stay _ _ hVk, run_setMap hr]
 rfl
theorem map_mentry_miss (h : MapAt w V r l) (K : KeyT P kT V) (hT : P.underlying T = some (.map kT eT)) {k z : Value} (hVk : V k) (hno : ∀ v, (k, v) ∉ l) (hz : (zeroValue eT).run P w = .ok z w) :
 ∃ w' s, (Instr.mapEntry T (.map (some r)) k).run P w = .ok (.tuple #[z, .int .i64 (s : Nat)]) w' ∧ MapAt w' V r (l ++ [(k, z)]) ∧ StampAt w' r k s ∧ Kept [r] w w' ∧ w'.heap.size = w.heap.size := by
 have hm := h
 obtain ⟨es, c, hr, hl, hb, hc, hV, hn⟩ := h
 have hes : ∀ e ∈ es.toList, V e.key := fun e he => hV (e.key, e.val) (by rw [← hl]; exact List.mem_map_of_mem (f := fun e : MapEntry => (e.key, e.val)) he)
 have hj : findVal k es.toList 0 = none := by
  cases hf : findVal k es.toList 0 with
  | none => rfl
  | some p =>
    obtain ⟨j, u⟩ := p
    obtain ⟨l1, e, l2, h1, h2, h3, h4, h5⟩ := findVal_some hf
    exact absurd (by rw [← hl, h1]; simp [h3, h4]) (hno u)
 have hb' : ((es.push { key := k, val := z, born := c }).toList.map MapEntry.born).Pairwise (· < ·) := by
  simp only [Array.toList_push, List.map_append, List.map_cons, List.map_nil]
  refine List.pairwise_append.2 ⟨hb, by simp, ?_⟩
  intro a ha b hb'
  simp only [Zmc, Znn, or_false] at hb'
  obtain ⟨e, he, rfl⟩ := List.mem_map.1 ha
  rw [hb']; exact hc e he
 refine ⟨{ w with heap := w.heap.setIfInBounds r (.map (es.push { key := k, val := z, born := c }) (c + 1)) }, c, ?_, ⟨_, _, setBlk_at w _ hr, by simp [hl], hb', ?_, ?_, ?_⟩, ⟨_, _, setBlk_at w _ hr, hb', { key := k, val := z, born := c }, by simp, rfl, rfl⟩, setBlk_kept _ _ _, by simp⟩
 · simp only [Instr.mapEntry, Sem.run_bind, run_underlying hT, Result.andThen_ok, run_getMap hr, K.check _ _ _ hVk, K.find _ _ _ hVk hes, hj, hz, run_setMap hr]
   rfl
 · intro e he
   simp only [Array.toList_push, Zap, Zmc, Znn, or_false] at he
   rcases he with he | rfl
   · have := hc e he; omega
   · simp
 · intro p hp
   rcases Zap.1 hp with hp | hp
   · exact hV p hp
   · simp only [Zmc, Znn, or_false] at hp; subst hp; exact hVk
 · rw [List.map_append]
   refine List.nodup_append.2 ⟨hn, by simp, ?_⟩
   intro a ha b hb'
   simp only [List.map_cons, List.map_nil, Zmc, Znn, or_false] at hb'
   subst hb'
   obtain ⟨p, hp, rfl⟩ := List.mem_map.1 ha
   rintro rfl; exact hno p.2 hp
theorem find_born : ∀ (l1 : List MapEntry) (e : MapEntry) (l2 : List MapEntry), ((l1 ++ e :: l2).map MapEntry.born).Pairwise (· < ·) → (l1 ++ e :: l2).findIdx? (fun x => decide ((x.born : Int) = (e.born : Int))) = some l1.length
 | [], e, l2, h => by simp [List.findIdx?_cons]
 | x :: l1, e, l2, h => by
   simp only [List.cons_append, List.map_cons, List.pairwise_cons] at h
   have h1 := h.1 e.born (by simp)
   rw [List.cons_append, List.findIdx?_cons, if_neg (by simp; omega), find_born l1 e l2 h.2]
   simp
theorem map_estore (h : MapAt w V r l) {k : Value} {s : Nat} (hs : StampAt w r k s) (v : Value) :
 ∃ w', (Instr.entryStore T (.map (some r)) (.int .i64 s) v).run P w = .ok () w' ∧ MapAt w' V r (putE l k v) ∧ Kept [r] w w' ∧ w'.heap.size = w.heap.size := by
 obtain ⟨es, c, hr, hl, hb, hc, hV, hn⟩ := h
 obtain ⟨es', c', hr', _, e, he, rfl, rfl⟩ := hs
 rw [hr] at hr'
 cases hr'
 obtain ⟨l1, l2, h1⟩ := List.append_of_mem he
 have hf : es.findIdx? (fun x => (x.born : Int) == (e.born : Int)) = some l1.length := by
  have h2 := find_born l1 e l2 (by rw [← h1]; exact hb)
  rw [show es = (l1 ++ e :: l2).toArray from by rw [← h1], List.findIdx?_toArray, ← h2]
  congr 1
 have hmod : (es.modify l1.length fun x => { x with val := v }).toList = l1 ++ { e with val := v } :: l2 := by
  rw [Array.toList_modify, h1, list_modify_at]
 have hl' : l = l1.map (fun e => (e.key, e.val)) ++ (e.key, e.val) :: l2.map (fun e => (e.key, e.val)) := by rw [← hl, h1]; simp
 refine ⟨{ w with heap := w.heap.setIfInBounds r (.map (es.modify l1.length fun x => { x with val := v }) c) }, ?_, ⟨_, _, setBlk_at w _ hr, ?_⟩, setBlk_kept _ _ _, by simp⟩
 · simp only [Instr.entryStore, Sem.run_bind, run_getMap hr, Result.andThen_ok, asInt, asIntOf, Sem.run_pure, hf]
   exact run_setMap hr _
 · rw [hl'] at hn hV
   rw [hl', putE_hit hn]
   refine ⟨by rw [hmod]; simp, ?_, ?_, ?_, ?_⟩
   · rw [hmod]; rw [h1] at hb; simpa using hb
   · intro x hx
     rw [hmod] at hx
     rw [h1] at hc
     rcases Zap.1 hx with hx | hx
     · exact hc x (by simp [hx])
     · rcases Zmc.1 hx with rfl | hx
       · exact hc e (by simp)
       · exact hc x (by simp [hx])
   · intro p hp
     rcases Zap.1 hp with hp | hp
     · exact hV p (by simp only [Zap]; exact .inl hp)
     · rcases Zmc.1 hp with rfl | hp
       · exact hV (e.key, e.val) (by simp)
       · exact hV p (by simp only [Zap, Zmc]; exact .inr (.inr hp))
   · simpa using hn
end
section
variable {P : Program} {ops : Array Oper} {o : Oper} {a : Act} {w : World} {rest : List Oper} {Q : Exit → Act → World → Prop}
variable {V : Value → Prop} {r : Nat} {l : List (Value × Value)} {T kT eT : TypeId} {m x y : Operand} {kv vv : Value}
variable {S : List Nat} {w0 : World} {M R : List Res} {E sz bytes n k : Nat} {z v xv : Value} {xs ys : List Value} {s : Operand} {tx : TypeId}
theorem wl_mkslice (c : Nat) {kl kc : IntKind} (hgd : o.guard = none) (hop : o.op = .makeSlice T x y) (hx : a.eval x = .int kl 0) (hy : a.eval y = .int kc (c : Int)) (el : Elem P T E sz bytes z) (hst : St S w0 w M R) (hb : bytes * c ≤ 281474976710656) (hc : c ≤ maxLen)
 (hK : ∀ g w', St S w0 w' (Rs.row E sz (.slice (some ⟨g, 0, none⟩) 0 c) 0 [] :: M) R → w.heap.size ≤ g → wpList P ops Q rest (a.put o.dst (.slice (some ⟨g, 0, none⟩) 0 c)) w') : wpList P ops Q (o :: rest) a w := by
 obtain ⟨i, hi, hz, hsz, hby⟩ := el.info
 subst hby
 obtain ⟨w', hrun, hown, hg⟩ := run_make_own (P := P) (w := w) 0 T E i z sz el.und hi hz hsz kl kc c hb hc (Nat.zero_le _)
 have hk : Kept [] w w' := ⟨hg.os, hg.tape, hg.output, hg.size, fun k hk _ => hg.block k hk (by simp)⟩
 refine wl_val (v := .slice (some ⟨w.heap.size, 0, none⟩) 0 c) (w' := w') hgd ?_ (hK _ _ (hst.push hk hown (fun g hg' => ?_)) (Nat.le_refl _))
 · simp only [execOp, hop, hx, hy, Sem.run_bind, hrun, Result.andThen_ok]; rfl
 · simp only [Rs.row, Value.ownBlock, Option.toList, Zmc, Znn, or_false] at hg'
   subst hg'
   exact ⟨Nat.le_refl _, own_lt hown _ rfl⟩
theorem St.made (hst : St S w0 w M R) (E sz n : Nat) (cs : List Value) (hl : cs.length = n * sz) (hn : n ≤ maxLen) :
 St S w0 (w.alloc (.cells cs.toArray E)) (Rs.row E sz (.slice (some ⟨w.heap.size, 0, none⟩) n n) n cs :: M) R :=
 hst.push ((Kept.refl _ _).alloc _) (own_made1 E sz n cs hl hn) (fun g hg => by simp [Rs.row, Value.ownBlock] at hg; subst hg; simp)
theorem new_slN (w : World) (E sz n : Nat) (cs : List Value) (hl : cs.length = n * sz) (hn : n ≤ maxLen) (h1 : ∀ u ∈ cs, u.oneCell' = true) : SlAt (w.alloc (.cells cs.toArray E)) sz (.slice (some ⟨w.heap.size, 0, none⟩) n n) n cs :=
 own_sl (own_made1 E sz n cs hl hn) h1
theorem St.nilrow (hst : St S w0 w M R) (E sz : Nat) : St S w0 w (Rs.row E sz (.slice none 0 0) 0 [] :: M) R :=
 hst.push (Kept.refl _ _) ⟨by simp, .inl ⟨rfl, rfl⟩⟩ (fun g hg => by simp [Rs.row, Value.ownBlock] at hg)
theorem St.blk (hst : St S w0 w M R) (o : Obj) : St S w0 (w.alloc o) (Rs.blk w.heap.size o :: M) R :=
 hst.push ((Kept.refl _ _).alloc _) (heap_alloc_new w o) (fun g hg => by simp [Rs.blk] at hg; subst hg; simp)
theorem St.cell1 {b : Nat} {u : Value} {E : Nat} (h : St S w0 w M R) (i : Nat) (hi : M[i]? = some (Rs.blk b (.cells #[u] E (0, 0)))) : w.cell? ⟨b, 0, none⟩ = some u ∧ w.frozen? ⟨b, 0, none⟩ = false := by
 have h1 : w.heap[b]? = some (.cells #[u] E (0, 0)) := h.m i hi
 exact ⟨by simp [World.cell?, h1], by simp [World.frozen?, h1]⟩
theorem St.cell2 {b : Nat} {u v : Value} {E : Nat} (h : St S w0 w M R) (i : Nat) (hi : M[i]? = some (Rs.blk b (.cells #[u, v] E (0, 0)))) : w.cell? ⟨b, 0, none⟩ = some u ∧ w.cell? ⟨b, 1, none⟩ = some v := by
 have h1 : w.heap[b]? = some (.cells #[u, v] E (0, 0)) := h.m i hi
 exact ⟨by simp [World.cell?, h1], by simp [World.cell?, h1]⟩
theorem St.cell2a {b : Nat} {u v : Value} {E : Nat} (h : St S w0 w M R) (i : Nat) (hi : M[i]? = some (Rs.blk b (.cells #[u, v] E (0, 0)))) : ∀ o, (w.alloc o).cell? ⟨b, 0, none⟩ = some u ∧ (w.alloc o).cell? ⟨b, 1, none⟩ = some v := fun o => (h.alloc o).cell2 i hi
theorem St.store1 {b : Nat} {u : Value} {E : Nat} (h : St S w0 w M R) (i : Nat) (hi : M[i]? = some (Rs.blk b (.cells #[u] E (0, 0)))) (u' : Value) : St S w0 (w.setCell ⟨b, 0, none⟩ u') (M.set i (Rs.blk b (.cells #[u'] E (0, 0)))) R := by
 have h1 : w.heap[b]? = some (.cells #[u] E (0, 0)) := h.m i hi
 refine h.set i hi (T := [b]) ((Kept.refl _ _).setCell u' (by simp)) (by simp [Rs.blk]) ?_ (fun g hg => .inl hg)
 show (w.setCell ⟨b, 0, none⟩ u').heap[b]? = _
 simp [World.setCell, Array.getElem?_modify, h1]
theorem own_some {w : World} {E sz n : Nat} {v : Value} {cs : List Value} (h : w.ownsRow 0 E sz v n cs) (hn : 0 < n) : ∃ g c, v = .slice (some ⟨g, 0, none⟩) n c := by
 rcases h.2 with ⟨_, h1⟩ | ⟨g', cap, cur, h1, _⟩
 · omega
 · exact ⟨g', cap, h1⟩
theorem own_cell {w : World} {E sz g n m c j : Nat} {cs : List Value} {u : Value} (h : w.ownsRow 0 E sz (.slice (some ⟨g, 0, none⟩) n c) m cs) (hj : cs[j]? = some u) : w.cell? ⟨g, j, none⟩ = some u ∧ w.frozen? ⟨g, j, none⟩ = false := by
 rcases h.2 with ⟨h1, _⟩ | ⟨g', cap, cur, h1, _, hg, _, _, _, ht⟩
 · cases h1
 · cases h1
   subst ht
   rw [List.getElem?_take] at hj
   split at hj
   · exact ⟨by simp [World.cell?, hg, ← hj], by simp [World.frozen?, hg]⟩
   · cases hj
theorem own_set {w : World} {E g n c j : Nat} {cs : List Value} (h : w.ownsRow 0 E 1 (.slice (some ⟨g, 0, none⟩) n c) n cs) (hj : j < cs.length) (u : Value) : (w.setCell ⟨g, j, none⟩ u).ownsRow 0 E 1 (.slice (some ⟨g, 0, none⟩) n c) n (cs.set j u) := by
 refine ⟨by simpa using h.1, ?_⟩
 rcases h.2 with ⟨h1, _⟩ | ⟨g', cap, cur, h1, h0, hg, hnc, hcm, hcs, ht⟩
 · cases h1
 · cases h1
   refine .inr ⟨g, c, cur.setIfInBounds j u, rfl, h0, by simp [World.setCell, Array.getElem?_modify, hg], hnc, hcm, by simpa using hcs, ?_⟩
   rw [Array.toList_setIfInBounds, List.take_set, ht]
end
end
section
open Go Go.Proofs Go.RowKit Go.Lib
open Classical
section
variable {α : Type}
structure ZzOk (sw ls : FuncId) (bs bl : Array Value) (n : Nat) (lt : α → α → Bool) (I : List α → World → Prop) : Prop where
 len : ∀ L w, I L w → L.length = n
 swap : ∀ L w (j : Nat) (h0 : 0 < j) (hj : j < L.length), I L w → Calls Tryz.prog sw (#[.int .i64 (j : Int), .int .i64 ((j : Int) - 1)] ++ bs) w fun e w' => e = .returned (.tuple #[]) ∧ I ((L.set j (L[j-1]'(by omega))).set (j-1) L[j]) w'
 less : ∀ L w (j : Nat) (h0 : 0 < j) (hj : j < L.length), I L w → Calls Tryz.prog ls (#[.int .i64 (j : Int), .int .i64 ((j : Int) - 1)] ++ bl) w fun e w' => e = .returned (.bool (lt L[j] (L[j-1]'(by omega)))) ∧ I L w'
theorem perm_swap {L : List α} {j : Nat} (h0 : 0 < j) (hj : j < L.length) : ((L.set j (L[j-1]'(by omega))).set (j-1) L[j]).Perm L := by
 obtain ⟨k, rfl⟩ : ∃ k, j = k + 1 := ⟨j - 1, by omega⟩
 obtain ⟨A, x, y, C, rfl, rfl⟩ : ∃ A x y C, L = A ++ x :: y :: C ∧ A.length = k :=
  ⟨L.take k, L[k], L[k+1], L.drop (k+2), by rw [← List.drop_eq_getElem_cons (by omega), ← List.drop_eq_getElem_cons (by omega), List.take_append_drop], by simp; omega⟩
 have h2 : ((A ++ x :: y :: C).set (A.length + 1) ((A ++ x :: y :: C)[A.length + 1 - 1]'(by simp))).set (A.length + 1 - 1) (A ++ x :: y :: C)[A.length + 1] = A ++ y :: x :: C := by
  simp [List.set_append]
 rw [h2]
 exact List.Perm.append_left _ (List.Perm.swap ..)
theorem zz_sort (sw ls : FuncId) (bs bl : Array Value) (n : Nat) (lt : α → α → Bool) (I : List α → World → Prop) (hz : ZzOk sw ls bs bl n lt I) (hf1 : HasBody sw) (hf2 : HasBody ls) (hb : n < 1000000000)
 (asy : ∀ a b, lt a b = true → ¬ lt b a = true) (tra : ∀ a b c, ¬ lt b a = true → ¬ lt c b = true → ¬ lt c a = true) (L0 : List α) (w : World) (h0 : I L0 w) :
 Calls Tryz.prog 206 #[.int .i64 n, .func (.func sw) #[] bs, .func (.func ls) #[] bl] w fun e w' => e = .returned (.tuple #[]) ∧ ∃ L, L.Perm L0 ∧ I L w' ∧ L.Pairwise (fun a b => ¬ lt b a = true) := by
 unfold HasBody at hf1 hf2
 have HZ := Zhd hz; clear hz
 have HN := Zhd (HZ.out.len _ _ h0)
 have H0 := Zhd h0; clear h0
 go_enter Tryz.func206, Tryz.ntmps206
 go_wp2
 go_loopw [6] (fun i wr => ∃ k L, i = .int .i64 (k : Nat) ∧ 1 ≤ k ∧ L.Perm L0 ∧ I L wr ∧ (L.take k).Pairwise (fun a b => ¬ lt b a = true)) (fun i _ => n + 1 - (intOf i).toNat)
 case atStart =>
  refine ⟨1, L0, rfl, Nat.le_refl _, List.Perm.refl _, H0.out, ?_⟩
  cases L0 <;> simp
 case round =>
  obtain ⟨k, L, rfl, hk, hperm, hI, hp⟩ := hrel
  have hLn : L.length = n := HZ.out.len _ _ hI
  by_cases hkn : k < n
  · have HI := Zhd hI; clear hI
    have HP := Zhd hp; clear hp
    have HLN := Zhd hLn; clear hLn
    have HPE := Zhd hperm; clear hperm
    go_wp2
    go_loopw [7] (fun j wr => ∃ (j' : Nat) (L' : List α), j = .int .i64 (j' : Nat) ∧ j' ≤ k ∧ L'.Perm L0 ∧ I L' wr ∧ Carry (fun a b => lt a b = true) k L' j') (fun j _ => (intOf j).toNat)
    case atStart => exact ⟨k, L, rfl, Nat.le_refl _, HPE.out, HI.out, carry_start HP.out (by rw [HLN.out]; exact hkn)⟩
    case round =>
     obtain ⟨j, L', rfl, hjk, hpe, hI', hca⟩ := hrel
     have hL'n : L'.length = n := HZ.out.len _ _ hI'
     by_cases hj0 : 0 < j
     · have hjl : j < L'.length := by omega
       have hls := HZ.out.less L' _ j hj0 hjl hI'
       have HLS := Zhd hls; clear hls
       have HI' := Zhd hI'; clear hI'
       have HR := Zhd (Zan hpe (Zan hca hL'n)); clear hpe hca hL'n
       go_wp2_with fail
       refine HLS.out.mono ?_
       rintro e w1 ⟨rfl, hI1⟩
       by_cases hlt : lt L'[j] (L'[j-1]'(by omega)) = true
       · rw [hlt]
         have hsw := HZ.out.swap L' _ j hj0 hjl hI1
         have HSW := Zhd hsw; clear hsw
         have hc1 := carry_swap (lt := fun a b => lt a b = true) HR.out.2.1 hj0 hjl hlt
         have hp1 := perm_swap hj0 hjl
         have HC1 := Zhd (Zan hc1 hp1); clear hc1 hp1
         clear hI1
         have HLT := Zhd hlt; clear hlt
         go_wp2_with fail
         refine HSW.out.mono ?_
         rintro e w2 ⟨rfl, hI2⟩
         have HI2 := Zhd hI2; clear hI2
         go_wp2_with fail
         go_roundw
         case rel => exact ⟨j - 1, _, by go_num, by omega, HC1.out.2.trans HR.out.1, HI2.out, HC1.out.1⟩
         case measure => simp [intOf]; omega
       · have hfl : lt L'[j] (L'[j-1]'(by omega)) = false := by simpa using hlt
         rw [hfl]
         have hd := carry_done (lt := fun a b => lt a b = true) asy tra HR.out.2.1 (.inr ⟨hjl, hj0, hlt⟩)
         have HD := Zhd (Zan hd hI1); clear hd hI1
         clear hlt hfl
         go_wp2_with fail
         go_roundw
         case rel => exact ⟨k + 1, L', by go_num, by omega, HR.out.1, HD.out.2, HD.out.1⟩
         case measure => simp [intOf]; omega
     · obtain rfl : j = 0 := by omega
       have hd := carry_done (lt := fun a b => lt a b = true) asy tra hca (.inl rfl)
       have HD := Zhd (Zan hd (Zan hI' hpe)); clear hd hI' hpe hca hL'n
       go_wp2_with fail
       go_roundw
       case rel => exact ⟨k + 1, L', by go_num, by omega, HD.out.2.2, HD.out.2.1, HD.out.1⟩
       case measure => simp [intOf]; omega
  · go_wp2
    go_end0
    refine ⟨rfl, L, hperm, hI, ?_⟩
    rwa [List.take_of_length_le (by omega)] at hp
theorem zz_perm (sw ls : FuncId) (bs bl : Array Value) (n : Nat) (lt : α → α → Bool) (I : List α → World → Prop) (hz : ZzOk sw ls bs bl n lt I) (hf1 : HasBody sw) (hf2 : HasBody ls) (hb : n < 1000000000)
 (L0 : List α) (w : World) (h0 : I L0 w) :
 Calls Tryz.prog 206 #[.int .i64 n, .func (.func sw) #[] bs, .func (.func ls) #[] bl] w fun e w' => e = .returned (.tuple #[]) ∧ ∃ L, L.Perm L0 ∧ I L w' := by
 unfold HasBody at hf1 hf2
 have HZ := Zhd hz; clear hz
 have HN := Zhd (HZ.out.len _ _ h0)
 have H0 := Zhd h0; clear h0
 go_enter Tryz.func206, Tryz.ntmps206
 go_wp2
 go_loopw [6] (fun i wr => ∃ k L, i = .int .i64 (k : Nat) ∧ 1 ≤ k ∧ L.Perm L0 ∧ I L wr) (fun i _ => n + 1 - (intOf i).toNat)
 case atStart =>
  exact ⟨1, L0, rfl, Nat.le_refl _, List.Perm.refl _, H0.out⟩
 case round =>
  obtain ⟨k, L, rfl, hk, hperm, hI⟩ := hrel
  have hLn : L.length = n := HZ.out.len _ _ hI
  by_cases hkn : k < n
  · have HI := Zhd hI; clear hI
    have HLN := Zhd hLn; clear hLn
    have HPE := Zhd hperm; clear hperm
    go_wp2
    go_loopw [7] (fun j wr => ∃ (j' : Nat) (L' : List α), j = .int .i64 (j' : Nat) ∧ j' ≤ k ∧ L'.Perm L0 ∧ I L' wr) (fun j _ => (intOf j).toNat)
    case atStart => exact ⟨k, L, rfl, Nat.le_refl _, HPE.out, HI.out⟩
    case round =>
     obtain ⟨j, L', rfl, hjk, hpe, hI'⟩ := hrel
     have hL'n : L'.length = n := HZ.out.len _ _ hI'
     by_cases hj0 : 0 < j
     · have hjl : j < L'.length := by omega
       have hls := HZ.out.less L' _ j hj0 hjl hI'
       have HLS := Zhd hls; clear hls
       have HI' := Zhd hI'; clear hI'
       have HR := Zhd (Zan hpe hL'n); clear hpe hL'n
       go_wp2_with fail
       refine HLS.out.mono ?_
       rintro e w1 ⟨rfl, hI1⟩
       by_cases hlt : lt L'[j] (L'[j-1]'(by omega)) = true
       · rw [hlt]
         have hsw := HZ.out.swap L' _ j hj0 hjl hI1
         have HSW := Zhd hsw; clear hsw
         have hp1 := perm_swap hj0 hjl
         have HC1 := Zhd hp1; clear hp1
         clear hI1
         have HLT := Zhd hlt; clear hlt
         go_wp2_with fail
         refine HSW.out.mono ?_
         rintro e w2 ⟨rfl, hI2⟩
         have HI2 := Zhd hI2; clear hI2
         go_wp2_with fail
         go_roundw
         case rel => exact ⟨j - 1, _, by go_num, by omega, HC1.out.trans HR.out.1, HI2.out⟩
         case measure => simp [intOf]; omega
       · have hfl : lt L'[j] (L'[j-1]'(by omega)) = false := by simpa using hlt
         rw [hfl]
         have HD := Zhd hI1; clear hI1
         clear hlt hfl
         go_wp2_with fail
         go_roundw
         case rel => exact ⟨k + 1, L', by go_num, by omega, HR.out.1, HD.out⟩
         case measure => simp [intOf]; omega
     · obtain rfl : j = 0 := by omega
       have HD := Zhd (Zan hI' hpe); clear hI' hpe hL'n
       go_wp2_with fail
       go_roundw
       case rel => exact ⟨k + 1, L', by go_num, by omega, HD.out.2, HD.out.1⟩
       case measure => simp [intOf]; omega
  · go_wp2
    go_end0
    exact ⟨rfl, L, hperm, hI⟩
end
end
end Go.Proofs.YticcnlpfmekagaaGreat
namespace Go.Proofs
section
open Go.Shelf
def Tryz.laysSortShr_ren : Go.Shelf.Ren := ⟨fun | 6 => 65 | 15 => 78 | 14 => 83 | 28 => 104 | 29 => 105 | 20 => 107 | 21 => 108 | 22 => 109 | 23 => 110 | 24 => 111 | 25 => 112 | 26 => 113 | 27 => 114 | 46 => 126 | 47 => 121 | 48 => 122 | 49 => 127 | 50 => 128 | 57 => 135 | n => n, fun | 22 => 23 | 24 => 33 | 25 => 129 | 3 => 3 | 39 => 151 | 0 => 0 | 53 => 103 | 55 => 98 | 4 => 4 | 46 => 185 | 45 => 184 | 50 => 190 | 5 => 5 | 9 => 9 | 66 => 235 | 70 => 239 | 76 => 260 | 77 => 261 | n => n, fun | n => n⟩
theorem Tryz.laysSortShr : Go.Proofs.SlLaysF0.n6 Tryz.prog Tryz.laysSortShr_ren := {
 mixed := by kernel_rfl
 f6 := ⟨Tryz.f65.name, by decide, Tryz.func65.trans (congrArg some (by kernel_rfl))⟩
 f14 := ⟨Tryz.f83.name, by decide, Tryz.func83.trans (congrArg some (by kernel_rfl))⟩
 f15 := Tryz.func78.trans (congrArg some (by kernel_rfl))
 f20 := ⟨Tryz.f107.name, by decide, Tryz.func107.trans (congrArg some (by kernel_rfl))⟩
 f21 := ⟨Tryz.f108.name, by decide, Tryz.func108.trans (congrArg some (by kernel_rfl))⟩
 f22 := ⟨Tryz.f109.name, by decide, Tryz.func109.trans (congrArg some (by kernel_rfl))⟩
 f23 := ⟨Tryz.f110.name, by decide, Tryz.func110.trans (congrArg some (by kernel_rfl))⟩
 f24 := ⟨Tryz.f111.name, by decide, Tryz.func111.trans (congrArg some (by kernel_rfl))⟩
 f25 := ⟨Tryz.f112.name, by decide, Tryz.func112.trans (congrArg some (by kernel_rfl))⟩
 f26 := ⟨Tryz.f113.name, by decide, Tryz.func113.trans (congrArg some (by kernel_rfl))⟩
 f27 := ⟨Tryz.f114.name, by decide, Tryz.func114.trans (congrArg some (by kernel_rfl))⟩
 f28 := Tryz.func104.trans (congrArg some (by kernel_rfl))
 f29 := Tryz.func105.trans (congrArg some (by kernel_rfl))
 f46 := ⟨Tryz.f126.name, by decide, Tryz.func126.trans (congrArg some (by kernel_rfl))⟩
 f47 := Tryz.func121.trans (congrArg some (by kernel_rfl))
 f48 := Tryz.func122.trans (congrArg some (by kernel_rfl))
 f49 := ⟨Tryz.f127.name, by decide, Tryz.func127.trans (congrArg some (by kernel_rfl))⟩
 f50 := ⟨Tryz.f128.name, by decide, Tryz.func128.trans (congrArg some (by kernel_rfl))⟩
 f57 := ⟨Tryz.f135.name, by decide, Tryz.func135.trans (congrArg some (by kernel_rfl))⟩
 t0 := Tryz.underlying0
 a0 := Tryz.isAgg0
 z0 := Tryz.sizeOf0
 v0 := Tryz.zeroValue0
 t3 := Tryz.underlying3
 a3 := Tryz.isAgg3
 z3 := Tryz.sizeOf3
 v3 := Tryz.zeroValue3
 t4 := Tryz.underlying4
 a4 := Tryz.isAgg4
 z4 := Tryz.sizeOf4
 v4 := Tryz.zeroValue4
 t5 := Tryz.underlying5
 a5 := Tryz.isAgg5
 z5 := Tryz.sizeOf5
 v5 := Tryz.zeroValue5
 t9 := Tryz.underlying9
 a9 := Tryz.isAgg9
 z9 := Tryz.sizeOf9
 v9 := Tryz.zeroValue9
 t22 := Tryz.underlying23
 a22 := Tryz.isAgg23
 z22 := Tryz.sizeOf23
 v22 := Tryz.zeroValue23
 t25 := Tryz.underlying129
 a25 := Tryz.isAgg129
 z25 := Tryz.sizeOf129
 v25 := Tryz.zeroValue129
 t39 := Tryz.underlying151
 a39 := Tryz.isAgg151
 z39 := Tryz.sizeOf151
 v39 := Tryz.zeroValue151
 t45 := Tryz.underlying184
 a45 := Tryz.isAgg184
 z45 := Tryz.sizeOf184
 v45 := Tryz.zeroValue184
 t46 := Tryz.underlying185
 a46 := Tryz.isAgg185
 z46 := Tryz.sizeOf185
 v46 := Tryz.zeroValue185
 t50 := Tryz.underlying190
 a50 := Tryz.isAgg190
 z50 := Tryz.sizeOf190
 v50 := Tryz.zeroValue190
 t53 := Tryz.underlying103
 a53 := Tryz.isAgg103
 z53 := Tryz.sizeOf103
 v53 := Tryz.zeroValue103
 t55 := Tryz.underlying98
 a55 := Tryz.isAgg98
 z55 := Tryz.sizeOf98
 v55 := Tryz.zeroValue98
 t66 := Tryz.underlying235
 a66 := Tryz.isAgg235
 z66 := Tryz.sizeOf235
 v66 := Tryz.zeroValue235
 t70 := Tryz.underlying239
 a70 := Tryz.isAgg239
 z70 := Tryz.sizeOf239
 v70 := Tryz.zeroValue239
 t76 := Tryz.underlying260
 a76 := Tryz.isAgg260
 z76 := Tryz.sizeOf260
 v76 := Tryz.zeroValue260
 t77 := Tryz.underlying261
 a77 := Tryz.isAgg261
 z77 := Tryz.sizeOf261
 v77 := Tryz.zeroValue261 }
def Tryz.laysContTp_ren : Go.Shelf.Ren := ⟨fun | 7 => 272 | 6 => 276 | n => n, fun | 22 => 375 | 24 => 384 | 4 => 4 | 0 => 0 | 3 => 3 | n => n, fun | n => n⟩
theorem Tryz.laysContTp : Go.Proofs.SlLaysQ.n7 Tryz.prog Tryz.laysContTp_ren := {
 mixed := by kernel_rfl
 f6 := ⟨Tryz.f276.name, by decide, Tryz.func276.trans (congrArg some (by kernel_rfl))⟩
 f7 := ⟨Tryz.f272.name, by decide, Tryz.func272.trans (congrArg some (by kernel_rfl))⟩
 t0 := Tryz.underlying0
 a0 := Tryz.isAgg0
 z0 := Tryz.sizeOf0
 v0 := Tryz.zeroValue0
 t3 := Tryz.underlying3
 a3 := Tryz.isAgg3
 z3 := Tryz.sizeOf3
 v3 := Tryz.zeroValue3
 t4 := Tryz.underlying4
 a4 := Tryz.isAgg4
 z4 := Tryz.sizeOf4
 v4 := Tryz.zeroValue4
 t22 := Tryz.underlying375
 a22 := Tryz.isAgg375
 z22 := Tryz.sizeOf375
 v22 := Tryz.zeroValue375 }
end
end Go.Proofs
namespace Go.Proofs.YticcnlpfmekagaaGreat
section
open Go Go.Proofs Go.RowKit Go.Lib
abbrev TP := ByteArray × Int
def encTp (x : TP) : List Value := [.string x.1, .int .i32 x.2]
abbrev tpV (x : TP) : Value := .agg #[.string x.1, .int .i32 x.2]
def eqTp (x y : TP) : Bool := x.1.toList == y.1.toList && x.2 == y.2
theorem eqlTp : EqlAt Tryz.prog 384 (fun x => .agg (encTp x).toArray) eqTp := by
 refine ⟨fun x y w => ?_, GuardAt.agg _ (by kernel_rfl)⟩
 have u3 := Tryz.underlying3
 have hS : Tryz.prog.underlying 384 = some (.struct (Tryz.prog.fieldsOf 384)) := by kernel_rfl
 have hp : Tryz.prog.stoodInHeld 384 = false := by kernel_rfl
 simp only [encTp]
 rw [run_eql_struct, show (10000 : Nat) = 9999 + 1 from rfl, run_equalIn_agg w 9999 384 _ _ hS hp]
 simp only [Program.fieldsOf, Tryz.underlying384]
 go_simp
 unfold eqTp
 by_cases h1 : x.fst.toList = y.fst.toList <;> by_cases h2 : x.snd = y.snd <;> simp [h1, h2]
theorem Below.kept {w w' : World} (h : Below w.heap.size w w') : Kept [] w w' := ⟨h.os, h.tape, h.output, h.size, fun k hk _ => h.block k hk⟩
theorem contTp_any (b off n c : Nat) (zs : List TP) (x : TP) (w : World) (hz : n ≤ zs.length) (hbig : n ≤ 9223372036854775807)
 (hc : ∀ j, j < zs.length → ∀ i v, (encTp zs[j]!)[i]? = some v → w.cell? ⟨b, off + j * 2 + i, none⟩ = some v) :
 Calls Tryz.prog 272 #[.slice (some ⟨b, off, none⟩) n c, tpV x] w fun e w' => e = .returned (.bool ((zs.take n).any fun y => eqTp x y)) ∧ Kept [] w w' := by
 have h := AnyQ.slices_Contains Tryz.laysContTp 2 Tryz.isAgg384 Tryz.sizeOf384 encTp (fun _ => rfl) eqTp eqlTp b off n c zs x w hz hbig hc
 change Calls Tryz.prog 272 _ _ _ at h
 exact h.mono fun e w' ⟨h1, h2⟩ => ⟨h1, Below.kept h2⟩
theorem idxTp_nil (a : Option Addr) (c : Nat) (x : TP) (w : World) : Calls Tryz.prog 276 #[.slice a 0 c, tpV x] w fun e w' => e = .returned (.int .i64 (-1)) ∧ Kept [] w w' := by
 have HG := Zhd (fun o => (Kept.refl [] w).alloc o)
 go_enter Tryz.func276, Tryz.ntmps276
 go_wp2
 go_loopw [8] (fun i wr => i = .int .i64 0 ∧ Kept [] w wr) (fun _ _ => 0)
 case atStart => exact ⟨rfl, HG.out _⟩
 case round =>
  obtain ⟨rfl, hkw⟩ := hrel
  go_wp2
  go_ret
  exact ⟨rfl, hkw⟩
theorem contTp_nil (a : Option Addr) (c : Nat) (x : TP) (w : World) : Calls Tryz.prog 272 #[.slice a 0 c, tpV x] w fun e w' => e = .returned (.bool false) ∧ Kept [] w w' := by
 have HC := Zhd (idxTp_nil a c x)
 have HG := Zhd (fun o => (Kept.refl [] w).alloc o)
 go_enter Tryz.func272, Tryz.ntmps272
 go_wp2_with (go_at_call 276; refine (HC.out _).mono ?_; rintro e w' ⟨rfl, hk⟩)
 go_ret
 exact ⟨rfl, (HG.out _).trans hk (by simp) (by simp)⟩
theorem enc_at : ∀ (zs : List TP) (j : Nat), j < zs.length → ∀ i v, (encTp zs[j]!)[i]? = some v → (zs.flatMap encTp)[j * 2 + i]? = some v := by
 intro zs
 induction zs with
 | nil => intro j hj; simp at hj
 | cons z zs ih =>
   intro j hj i v hv
   have hi : i < 2 := by have := (List.getElem?_eq_some_iff.1 hv).1; simpa [encTp] using this
   cases j with
   | zero =>
     rw [List.flatMap_cons, List.getElem?_append_left (by simp [encTp]; omega)]
     simpa using hv
   | succ j =>
     rw [List.flatMap_cons, List.getElem?_append_right (by simp [encTp]; omega)]
     have := ih j (by simpa using hj) i v (by simpa using hv)
     have e : (j + 1) * 2 + i - (encTp z).length = j * 2 + i := by simp [encTp]; omega
     rw [e]; exact this
theorem contTp_at {w : World} {v : Value} {zs : List TP} (h : SlAt w 2 v zs.length (zs.flatMap encTp)) (x : TP) (hb : zs.length ≤ 9223372036854775807) :
 Calls Tryz.prog 272 #[v, tpV x] w fun e w' => e = .returned (.bool (zs.any fun y => eqTp x y)) ∧ Kept [] w w' := by
 rcases h.2.2 with ⟨a, c, rfl, h0⟩ | ⟨b, off, cap, rfl, hc⟩
 · have : zs = [] := List.eq_nil_of_length_eq_zero h0
   subst this
   exact contTp_nil a c x w
 · have := contTp_any b off zs.length cap zs x w (Nat.le_refl _) hb (fun j hj i u hi => by
    have h2 := hc (j * 2 + i) u (enc_at zs j hj i u hi)
    rw [show off + j * 2 + i = off + (j * 2 + i) by omega]; exact h2)
   simpa using this
theorem inclTp_at {w : World} {v : Value} {zs : List TP} (h : SlAt w 2 v zs.length (zs.flatMap encTp)) (x : TP) (hb : zs.length ≤ 9223372036854775807) :
 Calls Tryz.prog 266 #[v, tpV x] w fun e w' => e = .returned (.bool (zs.any fun y => eqTp x y)) ∧ Kept [] w w' := by
 have HC := Zhd (fun o => contTp_at (h.alloc o) x hb)
 have HG := Zhd (fun o => (Kept.refl [] w).alloc o)
 clear h
 go_enter Tryz.func266, Tryz.ntmps266
 go_wp2_with (go_at_call 272; refine (HC.out _).mono ?_; rintro e w' ⟨rfl, hk⟩)
 go_ret
 exact ⟨rfl, (HG.out _).trans hk (by simp) (by simp)⟩
end
end Go.Proofs.YticcnlpfmekagaaGreat
