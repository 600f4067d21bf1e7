/- Part 14 of the proof of the row: SwapT, Shelf3, LessT. -/
import Derived.Test.YticcnlpfmekagaaGreatRj00
import Derived.Test.YticcnlpfmekagaaGreatRj08
import Derived.Deep.QuietTactic
import Derived.RegionTactic
import Derived.Shelf.Small.Strs
import Derived.Test.YticcnlpfmekagaaGreatProg
set_option linter.unusedVariables false
set_option linter.unusedSimpArgs false
set_option maxRecDepth 100000
set_option maxHeartbeats 8000000
namespace Go.Proofs.YticcnlpfmekagaaGreat
section
open Go Go.Proofs Go.RowKit Go.Lib
theorem swap_tp (B g n c : Nat) (w : World) (x y : TP) (i j : Nat) (hi : i < n) (hj : j < n) (hn : n < 1000000000) (hij : i ≠ j)
 (hB : w.cell? ⟨B, 0, none⟩ = some (.slice (some ⟨g, 0, none⟩) n c)) (hBg : B ≠ g)
 (ci : w.cell? ⟨g, i * 2, none⟩ = some (.string x.1)) (ci' : w.cell? ⟨g, i * 2 + 1, none⟩ = some (.int .i32 x.2)) (cj : w.cell? ⟨g, j * 2, none⟩ = some (.string y.1)) (cj' : w.cell? ⟨g, j * 2 + 1, none⟩ = some (.int .i32 y.2))
 (fr : ∀ k, w.frozen? ⟨g, k, none⟩ = false) :
 Calls Tryz.prog 263 #[.int .i64 i, .int .i64 j, .pointer (some ⟨B, 0, none⟩)] w fun e w' => e = .returned (.tuple #[]) ∧
  ∃ q, w' = ((((w.setCell ⟨g, i * 2, none⟩ (.string y.1)).setCell ⟨g, i * 2 + 1, none⟩ (.int .i32 y.2)).setCell ⟨g, j * 2, none⟩ (.string x.1)).setCell ⟨g, j * 2 + 1, none⟩ (.int .i32 x.2)).drewN q := by
 have f1 := fr (i * 2)
 have f2 := fr (i * 2 + 1)
 have f3 := fr (j * 2)
 have f4 := fr (j * 2 + 1)
 clear fr
 have hne : ∀ a b : Nat, a ≠ b → (⟨g, a, none⟩ : Addr) ≠ ⟨g, b, none⟩ := fun a b h e => h (by injection e)
 have s1 : ∀ u v, ((w.setCell ⟨g, i * 2, none⟩ u).setCell ⟨g, i * 2 + 1, none⟩ v).cell? ⟨g, j * 2, none⟩ = some (.string y.1) := fun u v => by
  rw [World.cell?_setCell_other _ _ _ _ (hne _ _ (by omega)), World.cell?_setCell_other _ _ _ _ (hne _ _ (by omega))]; exact cj
 have s2 : ∀ u v, ((w.setCell ⟨g, i * 2, none⟩ u).setCell ⟨g, i * 2 + 1, none⟩ v).cell? ⟨g, j * 2 + 1, none⟩ = some (.int .i32 y.2) := fun u v => by
  rw [World.cell?_setCell_other _ _ _ _ (hne _ _ (by omega)), World.cell?_setCell_other _ _ _ _ (hne _ _ (by omega))]; exact cj'
 have s3 : ∀ u v z, (((w.setCell ⟨g, i * 2, none⟩ u).setCell ⟨g, i * 2 + 1, none⟩ v).setCell ⟨g, j * 2, none⟩ z).cell? ⟨g, j * 2 + 1, none⟩ = some (.int .i32 y.2) := fun u v z => by
  rw [World.cell?_setCell_other _ _ _ _ (hne _ _ (by omega))]; exact s2 u v
 have s4 : ∀ u, (w.setCell ⟨g, i * 2, none⟩ u).cell? ⟨g, i * 2 + 1, none⟩ = some (.int .i32 x.2) := fun u => by
  rw [World.cell?_setCell_other _ _ _ _ (hne _ _ (by omega))]; exact ci'
 clear hne
 go_enter Tryz.func263, Tryz.ntmps263
 go_wp2
 go_region
 all_goals (try go_wp2)
 all_goals go_end0
 all_goals exact ⟨rfl, 1, rfl⟩
end
end Go.Proofs.YticcnlpfmekagaaGreat
namespace Go.Proofs
section
open Go.Shelf
def Tryz.lays106_ren : Go.Shelf.Ren := ⟨fun | 106 => 265 | 213 => 271 | 265 => 275 | n => n, fun | 9 => 9 | 3 => 3 | n => n, fun | n => n⟩
theorem Tryz.lays106 : Go.Proofs.Lays.n106 Tryz.prog Tryz.lays106_ren := {
 mixed := by kernel_rfl
 f106 := Tryz.func265.trans (congrArg some (by kernel_rfl))
 f213 := Tryz.func271.trans (congrArg some (by kernel_rfl))
 f265 := Tryz.func275.trans (congrArg some (by kernel_rfl))
 t3 := Tryz.underlying3
 a3 := Tryz.isAgg3
 z3 := Tryz.sizeOf3
 v3 := Tryz.zeroValue3
 t9 := Tryz.underlying9
 a9 := Tryz.isAgg9
 z9 := Tryz.sizeOf9
 v9 := Tryz.zeroValue9 }
open Go.RowKit in
theorem Tryz.strings_Compare (a b : ByteArray) (w : World) :
 Calls Tryz.prog 265 #[.string a, .string b] w fun e w' => e = .returned (.int .i64 (Lib.compareBytes a.data.toList b.data.toList)) ∧ w' = w := Any.strings_Compare Tryz.lays106 a b w
end
end Go.Proofs
namespace Go.Proofs.YticcnlpfmekagaaGreat
section
open Go Go.Proofs Go.RowKit Go.Lib
def ltTp (x y : TP) : Bool := if Lib.compareBytes x.1.data.toList y.1.data.toList = 0 then decide (x.2 < y.2) else decide (Lib.compareBytes x.1.data.toList y.1.data.toList < 0)
theorem cmp_quiet {s t : ByteArray} {w : World} {a n : Nat} : Calls Tryz.prog 265 #[.string s, .string t] (w.drewN (a + n)) fun e w'' => e = .returned (.int .i64 (Lib.compareBytes s.data.toList t.data.toList)) ∧ ∃ m, w'' = w.drewN (a + m) :=
 (Tryz.strings_Compare s t (w.drewN (a + n))).mono fun _ _ h => ⟨h.1, n, h.2⟩
theorem less_tp (A B g n c r len : Nat) (l : List (Value × Value)) (w : World) (x y : TP) (ax ay : Option Addr) (cx cy : Nat) (i j : Nat) (hi : i < n) (hj : j < n) (hn : n < 1000000000)
 (hA : w.cell? ⟨A, 0, none⟩ = some (.map (some r))) (hB : w.cell? ⟨B, 0, none⟩ = some (.slice (some ⟨g, 0, none⟩) n c))
 (ci : w.cell? ⟨g, i * 2, none⟩ = some (.string x.1)) (ci' : w.cell? ⟨g, i * 2 + 1, none⟩ = some (.int .i32 x.2)) (cj : w.cell? ⟨g, j * 2, none⟩ = some (.string y.1)) (cj' : w.cell? ⟨g, j * 2 + 1, none⟩ = some (.int .i32 y.2))
 (hm : MapAt w isTp r l) (ex : (tpV x, .slice ax len cx) ∈ l) (ey : (tpV y, .slice ay len cy) ∈ l) :
 Calls Tryz.prog 264 #[.int .i64 i, .int .i64 j, .pointer (some ⟨A, 0, none⟩), .pointer (some ⟨B, 0, none⟩)] w fun e w' => e = .returned (.bool (ltTp x y)) ∧ ∃ q, w' = w.drewN q := by
 have l1 : ∀ q, (Instr.lookup 382 (.map (some r)) (tpV x) false).run Tryz.prog (w.drewN q) = .ok (.slice ax len cx) (w.drewN q) := fun q => by
  simpa using map_lookup_hit (P := Tryz.prog) (hm.kept ((Kept.refl [] w).drewN q) (by simp)) keyT_tp Tryz.underlying382 ex false
 have l2 : ∀ q, (Instr.lookup 382 (.map (some r)) (tpV y) false).run Tryz.prog (w.drewN q) = .ok (.slice ay len cy) (w.drewN q) := fun q => by
  simpa using map_lookup_hit (P := Tryz.prog) (hm.kept ((Kept.refl [] w).drewN q) (by simp)) keyT_tp Tryz.underlying382 ey false
 clear hm ex ey
 have hcq := fun a n => @cmp_quiet x.1 y.1 w a n
 have HCQ := Zhd hcq; clear hcq
 generalize hcc : Lib.compareBytes x.1.data.toList y.1.data.toList = cc at *
 by_cases h0 : cc = 0
 · subst h0
   have e : ltTp x y = decide (x.2 < y.2) := by simp [ltTp, hcc]
   rw [e]; clear e hcc
   go_enter Tryz.func264, Tryz.ntmps264
   go_wp2
   go_quiet (fail)
   go_wp2
   go_quiet ((go_at_call 265; exact HCQ.out _ _))
   go_wp2
   go_quiet (fail)
   go_wp2
   go_ret
   exact ⟨rfl, _, (by first | rfl | exact World.drewN_drewN ..)⟩
 · have e : ltTp x y = decide (cc < 0) := by simp [ltTp, hcc, h0]
   rw [e]; clear e hcc
   have hb : ((cc : Int) == 0) = false := by simpa using h0
   go_enter Tryz.func264, Tryz.ntmps264
   go_wp2
   go_quiet (fail)
   go_wp2
   go_quiet ((go_at_call 265; exact HCQ.out _ _))
   go_wp2
   go_ret
   exact ⟨rfl, _, (by first | rfl | exact World.drewN_drewN ..)⟩
end
end Go.Proofs.YticcnlpfmekagaaGreat
