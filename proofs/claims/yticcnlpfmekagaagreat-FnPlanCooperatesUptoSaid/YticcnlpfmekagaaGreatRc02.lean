/- Part 2 of the proof of the row: Base. -/
import Derived.Test.YticcnlpfmekagaaGreatRc00
import Derived.WalkKit
import Derived.WalkSpells
import Derived.WalkLawsBesides
import Derived.Deep.RegionHeld3
import Derived.Deep.QuietTactic
import Derived.BigQuiet
import Derived.Lib.Hide
set_option linter.unusedVariables false
set_option linter.unusedSimpArgs false
set_option maxRecDepth 100000
set_option maxHeartbeats 8000000
namespace Go.Proofs.YticcnlpfmekagaaGreat
section
open Go Go.RowKit
structure Kept (S : List Nat) (w w' : World) : Prop where
 os : w'.os = w.os
 tape : w'.tape = w.tape
 output : w'.output = w.output
 size : w.heap.size ≤ w'.heap.size
 block : ∀ k, k < w.heap.size → k ∉ S → w'.heap[k]? = w.heap[k]?
theorem lt_of_heap {w : World} {b : Nat} {o : Obj} (h : w.heap[b]? = some o) : b < w.heap.size := (Array.getElem?_eq_some_iff.1 h).1
theorem Kept.refl (S : List Nat) (w : World) : Kept S w w := ⟨rfl, rfl, rfl, Nat.le_refl _, fun _ _ _ => rfl⟩
theorem Kept.trans {S T U : List Nat} {a b c : World} (h : Kept S a b) (k : Kept T b c) (hS : ∀ x ∈ S, x ∈ U) (hT : ∀ x ∈ T, x < a.heap.size → x ∈ U) : Kept U a c :=
 ⟨k.os.trans h.os, k.tape.trans h.tape, k.output.trans h.output, Nat.le_trans h.size k.size, fun x hx hn =>
   (k.block x (Nat.lt_of_lt_of_le hx h.size) (fun ht => hn (hT x ht hx))).trans (h.block x hx (fun hs => hn (hS x hs)))⟩
theorem Kept.mono {S T : List Nat} {a b : World} (h : Kept S a b) (hS : ∀ x ∈ S, x < a.heap.size → x ∈ T) : Kept T a b :=
 ⟨h.os, h.tape, h.output, h.size, fun x hx hn => h.block x hx (fun hs => hn (hS x hs hx))⟩
theorem Kept.drew {S : List Nat} {a b : World} (h : Kept S a b) : Kept S a b.drew := ⟨h.os, h.tape, h.output, h.size, h.block⟩
theorem Kept.drewN {S : List Nat} {a b : World} (h : Kept S a b) (n : Nat) : Kept S a (b.drewN n) := ⟨h.os, h.tape, h.output, h.size, h.block⟩
theorem Kept.of_drew {S : List Nat} {a b : World} (h : Kept S a.drew b) : Kept S a b := ⟨h.os, h.tape, h.output, h.size, h.block⟩
theorem Kept.alloc {S : List Nat} {a b : World} (h : Kept S a b) (o : Obj) : Kept S a (b.alloc o) :=
 ⟨h.os, h.tape, h.output, by have := h.size; simp; omega, fun x hx hn => by
   rw [← h.block x hx hn]; show (b.heap.push o)[x]? = _; rw [Array.getElem?_push, if_neg (by have := h.size; omega)]⟩
theorem Kept.setCell {S : List Nat} {a b : World} (h : Kept S a b) {p : Addr} (u : Value) (hp : p.block < a.heap.size → p.block ∈ S) : Kept S a (b.setCell p u) :=
 ⟨h.os, h.tape, h.output, by simpa using h.size, fun x hx hn => by
   rw [← h.block x hx hn]; exact Below.heap_setCell _ _ _ _ (fun e => hn (by subst e; exact hp hx))⟩
theorem Kept.cell {S : List Nat} {w w' : World} (h : Kept S w w') {p : Addr} {v : Value} (hc : w.cell? p = some v) (hs : p.block ∉ S) : w'.cell? p = some v :=
 (World.cell?_of_block (w := w) (h.block p.block (World.block_lt_of_cell? w p hc) hs)).trans hc
theorem Kept.heap {S : List Nat} {w w' : World} (h : Kept S w w') {b : Nat} {o : Obj} (hc : w.heap[b]? = some o) (hs : b ∉ S) : w'.heap[b]? = some o :=
 (h.block b (lt_of_heap hc) hs).trans hc
theorem Kept.frz {S : List Nat} {w w' : World} (h : Kept S w w') {p : Addr} {x : Bool} (hf : w.frozen? p = x) (hb : p.block < w.heap.size) (hs : p.block ∉ S) : w'.frozen? p = x :=
 (World.frozen?_of_block (w := w) (h.block p.block hb hs)).trans hf
theorem Kept.below {w w' : World} (h : Kept [] w w') : Below w.heap.size w w' := ⟨h.os, h.tape, h.output, h.size, fun k hk => h.block k hk (by simp)⟩
theorem ca {w : World} {a : Addr} {v : Value} {o : Obj} (h : w.cell? a = some v) : (w.alloc o).cell? a = some v :=
 (World.cell?_alloc_lt _ _ _ (World.block_lt_of_cell? w a h)).trans h
theorem cd {w : World} {a : Addr} {v : Value} (h : w.cell? a = some v) : w.drew.cell? a = some v := h
theorem cs {w : World} {a b : Addr} {v u : Value} (hne : a.block ≠ b.block) (h : w.cell? a = some v) : (w.setCell b u).cell? a = some v :=
 (World.cell?_of_block (w := w) (Below.heap_setCell _ _ _ _ hne)).trans h
theorem ha {w : World} {b : Nat} {v : Obj} {o : Obj} (h : w.heap[b]? = some v) : (w.alloc o).heap[b]? = some v :=
 (Below.heap_alloc _ _ _ (lt_of_heap h)).trans h
theorem hd {w : World} {b : Nat} {v : Obj} (h : w.heap[b]? = some v) : w.drew.heap[b]? = some v := h
theorem hs {w : World} {b : Nat} {a : Addr} {u : Value} {v : Obj} (hne : b ≠ a.block) (h : w.heap[b]? = some v) : (w.setCell a u).heap[b]? = some v :=
 (Below.heap_setCell _ _ _ _ hne).trans h
end
end Go.Proofs.YticcnlpfmekagaaGreat
