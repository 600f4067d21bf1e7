/- Part 17 of 51 of the proof of the row: the texts LessT. -/
import Derived.Test.YticcnlpfmekagaaGreatRd16
import Derived.Test.YticcnlpfmekagaaGreatRd10
namespace Go.Proofs.YticcnlpfmekagaaGreat
open Go Go.Proofs Go.RowKit Go.Lib
set_option linter.unusedVariables false
set_option linter.unusedSimpArgs false

/-! ## the comparison of sortPartitionsByPotentialConsumerAssignments (264) -/

def ltTp (x y : TP) : Bool := if Lib.compareBytes x.1.data.toList y.1.data.toList = 0 then decide (x.2 < y.2) else decide (Lib.compareBytes x.1.data.toList y.1.data.toList < 0)

theorem cmp_quiet {s t : ByteArray} {w : World} {a n : Nat} : Calls Tryz.prog 265 #[.string s, .string t] (w.drewN (a + n)) fun e w'' => e = .returned (.int .i64 (Lib.compareBytes s.data.toList t.data.toList)) ∧ ∃ m, w'' = w.drewN (a + m) :=
  (Tryz.strings_Compare s t (w.drewN (a + n))).mono fun _ _ h => ⟨h.1, n, h.2⟩
theorem drew2 (w : World) (a b : Nat) : ∃ q, (w.drewN a).drewN b = w.drewN q := ⟨_, World.drewN_drewN ..⟩

set_option maxRecDepth 100000 in
set_option maxHeartbeats 4000000 in
theorem less_tp (A B g n c r len : Nat) (l : List (Value × Value)) (w : World) (x y : TP) (ax ay : Option Addr) (cx cy : Nat) (i j : Nat) (hi : i < n) (hj : j < n) (hn : n < 1000000000)
    (hA : w.cell? ⟨A, 0, none⟩ = some (.map (some r))) (hB : w.cell? ⟨B, 0, none⟩ = some (.slice (some ⟨g, 0, none⟩) n c))
    (ci : w.cell? ⟨g, i * 2, none⟩ = some (.string x.1)) (ci' : w.cell? ⟨g, i * 2 + 1, none⟩ = some (.int .i32 x.2)) (cj : w.cell? ⟨g, j * 2, none⟩ = some (.string y.1)) (cj' : w.cell? ⟨g, j * 2 + 1, none⟩ = some (.int .i32 y.2))
    (hm : MapAt w isTp r l) (ex : (tpV x, .slice ax len cx) ∈ l) (ey : (tpV y, .slice ay len cy) ∈ l) :
    Calls Tryz.prog 264 #[.int .i64 i, .int .i64 j, .pointer (some ⟨A, 0, none⟩), .pointer (some ⟨B, 0, none⟩)] w fun e w' => e = .returned (.bool (ltTp x y)) ∧ ∃ q, w' = w.drewN q := by
  have l1 : ∀ q, (Instr.lookup 382 (.map (some r)) (tpV x) false).run Tryz.prog (w.drewN q) = .ok (.slice ax len cx) (w.drewN q) := fun q => by
    simpa using map_lookup_hit (P := Tryz.prog) (hm.kept ((Kept.refl [] w).drewN q) (by simp)) keyT_tp Tryz.underlying382 ex false
  have l2 : ∀ q, (Instr.lookup 382 (.map (some r)) (tpV y) false).run Tryz.prog (w.drewN q) = .ok (.slice ay len cy) (w.drewN q) := fun q => by
    simpa using map_lookup_hit (P := Tryz.prog) (hm.kept ((Kept.refl [] w).drewN q) (by simp)) keyT_tp Tryz.underlying382 ey false
  clear hm ex ey
  have hcq := fun a n => @cmp_quiet x.1 y.1 w a n
  have HCQ := Lib.hid hcq; clear hcq
  generalize hcc : Lib.compareBytes x.1.data.toList y.1.data.toList = cc at *
  by_cases h0 : cc = 0
  · subst h0
    have e : ltTp x y = decide (x.2 < y.2) := by simp [ltTp, hcc]
    rw [e]; clear e hcc
    go_enter Tryz.func264, Tryz.ntmps264
    go_wp2
    go_quiet (fail)
    go_wp2
    go_quiet ((go_at_call 265; exact HCQ.out _ _))
    go_wp2
    go_quiet (fail)
    go_wp2
    go_ret
    exact ⟨rfl, _, (by first | rfl | exact World.drewN_drewN ..)⟩
  · have e : ltTp x y = decide (cc < 0) := by simp [ltTp, hcc, h0]
    rw [e]; clear e hcc
    have hb : ((cc : Int) == 0) = false := by simpa using h0
    go_enter Tryz.func264, Tryz.ntmps264
    go_wp2
    go_quiet (fail)
    go_wp2
    go_quiet ((go_at_call 265; exact HCQ.out _ _))
    go_wp2
    go_ret
    exact ⟨rfl, _, (by first | rfl | exact World.drewN_drewN ..)⟩

end Go.Proofs.YticcnlpfmekagaaGreat
