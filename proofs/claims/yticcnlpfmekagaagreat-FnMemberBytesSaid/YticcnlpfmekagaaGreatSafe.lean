import Derived.Test.YticcnlpfmekagaaGreatBig
import Derived.Defers
import Derived.Recover
namespace Go.Proofs.YticcnlpfmekagaaGreat
open Go Go.Proofs Go.RowKit
set_option linter.unusedVariables false
set_option linter.unusedSimpArgs false

/-! ## safe -/

def HasBody (f : FuncId) : Prop := ∀ (args : Array Value) (w : World), (callFunc f args).run Tryz.prog w = .ok (.enter f args) w

set_option maxRecDepth 100000 in
set_option maxHeartbeats 400000 in
theorem catch_idle (p : Addr) (w : World) (x : Value) (hc : w.cell? p = some x) (hz : w.frozen? p = false) :
    CallsD Tryz.prog 72 #[.pointer (some p)] .returning w fun e u' w' => e = .returned (.tuple #[]) ∧ u' = .returning ∧ w' = w.setCell p (.bool true) := by
  refine callsD_of_wpS Tryz.func72 rfl fun c₀ cs hu => ?_
  apply wpS_region
  simp [wpOpsS, go_sem, recoverD, hu, Tryz.ntmps72, Exit.thenS, hc, hz, bodyPostS, results, Tryz.results72]
  cases c₀
  simp_all

set_option maxRecDepth 100000 in
set_option maxHeartbeats 400000 in
theorem safe_any (f : FuncId) (cap : Array Value) (w : World) (R : World → Prop) (S : List Nat) (hf : HasBody f) (hS : ∀ x ∈ S, x < w.heap.size)
    (h : Calls Tryz.prog f cap (w.alloc (.cells #[.bool false] 4)) fun e w' => e = .returned (.tuple #[]) ∧ R w' ∧ Kept S (w.alloc (.cells #[.bool false] 4)) w') :
    Calls Tryz.prog 43 #[.func (.func f) #[] cap] w fun e w' => e = .returned (.bool true) ∧ ∃ w1, R w1 ∧ Kept S w w1 ∧ Kept [w.heap.size] w1 w' := by
  have HH := Lib.hid h; clear h
  unfold HasBody at hf
  go_enter_defers Tryz.func43, Tryz.ntmps43
  go_wp2_with fail
  refine HH.out.mono ?_
  rintro e w1 ⟨rfl, hR, hk⟩
  have hne : w.heap.size ∉ S := fun hx => Nat.lt_irrefl _ (hS _ hx)
  have hc : w1.cell? ⟨w.heap.size, 0, none⟩ = some (.bool false) :=
    hk.cell (p := ⟨w.heap.size, 0, none⟩) (by simp [go_sem]) hne
  have hz : w1.frozen? ⟨w.heap.size, 0, none⟩ = false :=
    hk.frz (p := ⟨w.heap.size, 0, none⟩) (by simp [go_sem]) (by simp [go_sem]) hne
  have hlt : w.heap.size < w1.heap.size := by have := hk.size; simp [go_sem] at this; omega
  go_wp2_with fail
  refine leaves_cons (f := 72) (args := #[.pointer (some ⟨w.heap.size, 0, none⟩)]) (by simp) (by simp [go_sem]) ?_
  refine (catch_idle ⟨w.heap.size, 0, none⟩ _ (.bool true) ?_ ?_).mono ?_
  · simp [go_sem, hc]
  · simp [go_sem, hz]
  rintro e u' w'' ⟨rfl, rfl, rfl⟩
  have h1 : Kept S w w1 := ((Kept.refl S w).alloc _).trans hk (fun x hx => hx) (fun x hx _ => hx)
  have h2 : Kept [w.heap.size] w1 ((w1.setCell ⟨w.heap.size, 0, none⟩ (.bool true)).setCell ⟨w.heap.size, 0, none⟩ (.bool true)) :=
    ((Kept.refl _ _).setCell _ (by simp)).setCell _ (by simp)
  simp [Leaves, settle, results, Tryz.results43, go_sem, hc]
  exact ⟨w1, hR, h1, h2⟩
end Go.Proofs.YticcnlpfmekagaaGreat
