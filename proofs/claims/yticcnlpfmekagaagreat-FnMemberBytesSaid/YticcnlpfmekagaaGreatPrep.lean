import Derived.Test.YticcnlpfmekagaaGreatProg
import Derived.Test.YticcnlpfmekagaaGreatSl
namespace Go.Proofs.YticcnlpfmekagaaGreat
open Go Go.Proofs Go.RowKit
set_option linter.unusedVariables false
set_option linter.unusedSimpArgs false

/-! ## The preparing encoder: it counts -/

def Prep (w : World) (b : Nat) (n : Int) : Prop := w.heap[b]? = some (.cells #[.slice none 0 0, .int .i64 n] 198 (0, 0))
theorem Prep.cell {w : World} {b : Nat} {n : Int} (h : Prep w b n) : w.cell? ⟨b, 0 + 1, none⟩ = some (.int .i64 n) := by unfold Prep at h; simp [World.cell?, h]
theorem Prep.fz {w : World} {b : Nat} {n : Int} (h : Prep w b n) (i : Nat) : w.frozen? ⟨b, i, none⟩ = false := by unfold Prep at h; simp [World.frozen?, h]
theorem Prep.set {w : World} {b : Nat} {n : Int} (h : Prep w b n) (m : Int) : Prep (w.setCell ⟨b, 0 + 1, none⟩ (.int .i64 m)) b m := by
  unfold Prep at *
  simp [World.setCell, Array.getElem?_modify, h]
theorem Prep.kept {w w' : World} {b : Nat} {n : Int} {S : List Nat} (h : Prep w b n) (k : Kept S w w') (hs : b ∉ S) : Prep w' b n := k.heap h hs

/-- what a 'put' of the preparing encoder does: it counts k -/
structure Counted (b : Nat) (n k : Int) (w w' : World) : Prop where
  prep : Prep w' b (n + k)
  kept : Kept [b] w w'
  size : w'.heap.size = w.heap.size
def Counts (b : Nat) (n k : Int) (v : Value) (w : World) (e : Ending) (w' : World) : Prop :=
  e = .returned v ∧ Counted b n k w w'

theorem counts_set {b : Nat} {n k : Int} {w : World} (v : Value) (h : Prep w b n) : Counts b n k v w (.returned v) (w.setCell ⟨b, 0 + 1, none⟩ (.int .i64 (n + k))) :=
  ⟨rfl, h.set _, (Kept.refl _ _).setCell _ (by simp), by simp⟩

theorem prep_putInt32 (b : Nat) (n x : Int) (w : World) (hp : Prep w b n) (h0 : 0 ≤ n) (h1 : n ≤ 1000000000) :
    Calls Tryz.prog 292 #[.pointer (some ⟨b, 0, none⟩), .int .i32 x] w (Counts b n 4 (.tuple #[]) w) := by
  have hc := hp.cell
  have hf := hp.fz (0 + 1)
  go_enter Tryz.func292, Tryz.ntmps292
  go_wp2
  go_end0
  exact counts_set _ hp

theorem prep_putInt16 (b : Nat) (n x : Int) (w : World) (hp : Prep w b n) (h0 : 0 ≤ n) (h1 : n ≤ 1000000000) :
    Calls Tryz.prog 291 #[.pointer (some ⟨b, 0, none⟩), .int .i16 x] w (Counts b n 2 (.tuple #[]) w) := by
  have hc := hp.cell
  have hf := hp.fz (0 + 1)
  go_enter Tryz.func291, Tryz.ntmps291
  go_wp2
  go_end0
  exact counts_set _ hp

theorem prep_putArrayLength (b : Nat) (n : Int) (k : Int) (w : World) (hp : Prep w b n) (h0 : 0 ≤ n) (h1 : n ≤ 1000000000) (hk : k ≤ 1000000000) :
    Calls Tryz.prog 285 #[.pointer (some ⟨b, 0, none⟩), .int .i64 k] w (Counts b n 4 .nilIface w) := by
  have hc := hp.cell
  have hf := hp.fz (0 + 1)
  go_enter Tryz.func285, Tryz.ntmps285
  go_wp2
  go_ret
  exact counts_set _ hp

theorem counts_set2 {b : Nat} {n k1 k2 : Int} {w : World} (v : Value) (h : Prep w b n) : Counts b n (k1 + k2) v w (.returned v) ((w.setCell ⟨b, 0 + 1, none⟩ (.int .i64 (n + k1))).setCell ⟨b, 0 + 1, none⟩ (.int .i64 (n + k1 + k2))) :=
  ⟨rfl, by rw [← Int.add_assoc]; exact (h.set _).set _, ((Kept.refl _ _).setCell _ (by simp)).setCell _ (by simp), by simp⟩

theorem prep_putString (b : Nat) (n : Int) (s : ByteArray) (w : World) (hp : Prep w b n) (h0 : 0 ≤ n) (h1 : n ≤ 1000000000) (hs : s.size ≤ 32767) :
    Calls Tryz.prog 301 #[.pointer (some ⟨b, 0, none⟩), .string s] w (Counts b n (2 + s.size) .nilIface w) := by
  have hc := hp.cell
  have hf := hp.fz (0 + 1)
  go_enter Tryz.func301, Tryz.ntmps301
  go_wp2
  go_ret
  exact counts_set2 _ hp

theorem prep_putRawBytes (b : Nat) (n : Int) (a : Option Addr) (l c : Nat) (w : World) (hp : Prep w b n) (h0 : 0 ≤ n) (h1 : n ≤ 1000000000) (hs : l ≤ 1000000000) :
    Calls Tryz.prog 300 #[.pointer (some ⟨b, 0, none⟩), .slice a l c] w (Counts b n l .nilIface w) := by
  have hc := hp.cell
  have hf := hp.fz (0 + 1)
  go_enter Tryz.func300, Tryz.ntmps300
  go_wp2
  go_ret
  exact counts_set _ hp

theorem Counted.trans {b : Nat} {n k1 k2 : Int} {w w1 w2 : World} (h : Counted b n k1 w w1) (h' : Counted b (n + k1) k2 w1 w2) : Counted b n (k1 + k2) w w2 :=
  ⟨by rw [← Int.add_assoc]; exact h'.prep, h.kept.trans h'.kept (fun _ h => h) (fun _ h _ => h), h'.size.trans h.size⟩
theorem Counted.counts {b : Nat} {n k1 k2 : Int} {v : Value} {w w1 : World} (h : Counted b n k1 w w1) {e' : Ending} {w2 : World} (h' : Counts b (n + k1) k2 v w1 e' w2) : Counts b n (k1 + k2) v w e' w2 :=
  ⟨h'.1, h.trans h'.2⟩

theorem prep_putInt32Array (b : Nat) (n : Int) (a : Option Addr) (l c : Nat) (w : World) (hp : Prep w b n) (h0 : 0 ≤ n) (h1 : n ≤ 100000000) (hl : l ≤ 100000000) :
    Calls Tryz.prog 293 #[.pointer (some ⟨b, 0, none⟩), .slice a l c] w (Counts b n (4 + 4 * l) .nilIface w) := by
  go_enter Tryz.func293, Tryz.ntmps293
  go_wp2_with fail
  refine (prep_putArrayLength b n _ _ hp h0 (by omega) (by omega)).mono ?_
  rintro e w1 ⟨rfl, h⟩
  have hp1 := h.prep
  have hc := hp1.cell
  have hf := hp1.fz (0 + 1)
  go_wp2
  go_ret
  exact h.counts (counts_set _ hp1)

set_option maxRecDepth 100000 in
theorem prep_putBytes (b : Nat) (n : Int) (a : Option Addr) (l c : Nat) (w : World) (hp : Prep w b n) (h0 : 0 ≤ n) (h1 : n ≤ 100000000) (hl : l ≤ 100000000) (ha : a = none → l = 0) :
    Calls Tryz.prog 287 #[.pointer (some ⟨b, 0, none⟩), .slice a l c] w (Counts b n (4 + l) .nilIface w) := by
  have hc := hp.cell
  have hf := hp.fz (0 + 1)
  have hn := fun w => Lib.run_eql_slice_nil (P := Tryz.prog) w 28 5 a l c 0 0 Tryz.underlying28
  cases a with
  | none =>
    obtain rfl := ha rfl
    go_enter Tryz.func287, Tryz.ntmps287
    go_wp2
    go_ret
    exact counts_set _ hp
  | some ad =>
    clear ha
    go_enter Tryz.func287, Tryz.ntmps287
    go_wp2_with fail
    have h := counts_set .nilIface (k := 4) hp
    refine (prep_putRawBytes b (n + 4) _ _ _ _ h.2.prep (by omega) (by omega) (by omega)).mono ?_
    rintro e w1 ⟨rfl, h'⟩
    go_wp2
    go_ret
    exact ⟨rfl, h.2.trans h'⟩
end Go.Proofs.YticcnlpfmekagaaGreat
