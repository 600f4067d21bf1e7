import Derived.Test.YticcnlpfmekagaaGreatGroup
namespace Go.Proofs.YticcnlpfmekagaaGreat
open Go Go.Proofs Go.RowKit
set_option linter.unusedVariables false
set_option linter.unusedSimpArgs false

theorem MemsAt.kept0 {w w' : World} {v : Value} {L : List Mem} (h : MemsAt w v L) (k : Kept [] w w') : MemsAt w' v L :=
  ⟨h.form, h.cells.kept k (by simp), fun m hm => ⟨(h.each m hm).tops.kept k (by simp), ⟨(h.each m hm).data.1, (h.each m hm).data.2.kept k (by simp)⟩, (h.each m hm).owned.kept k (by simp) (by simp)⟩⟩

theorem hasBody44 : HasBody 44 := by unfold HasBody; intro a w; kernel_rfl

set_option maxRecDepth 100000 in
set_option maxHeartbeats 1000000 in
theorem groupPlan_any (n : Nat) (hn : n < 4) (f : FuncId) (hf : IsMeth (stratT n) "Plan" f) (am : Option Addr) (cm : Nat) (Ms : List Mem) (at' : Option Addr) (ct : Nat) (Ts : List Shr) (Good : PL → Prop) (w : World)
    (hm : MemsAt w (.slice am Ms.length cm) Ms) (hok : ∀ m ∈ Ms, MemOk m) (hnd : (ids Ms).Nodup) (hml : Ms.length ≤ 1000) (hm1 : 1 ≤ Ms.length)
    (ht : ShrsAt w (.slice at' Ts.length ct) Ts) (htl : Ts.length ≤ 1000) (htnd : (Ts.map (·.top)).Nodup) (htsz : ∀ x ∈ Ts, x.parts.length ≤ 1000)
    (hplan : ∀ w', Kept [] w w' → PlanC n f w' Ms Ts Good) (hgood : ∀ P, Good P → ∀ m ∈ Ms, ∃ r D, (m.id, r, D) ∈ P ∧ D.length ≤ 1 ∧ ∀ x ∈ D, x.2.2.length ≤ 1000000) :
    Calls Tryz.prog 18 #[.int .i64 n, .slice am Ms.length cm, .slice at' Ts.length ct] w fun e w' =>
      ∃ P LL a c, e = .returned (.tuple #[.slice a LL.flatten.length c, .bool true]) ∧ Good P ∧ OutOf P (sortedNames (ids Ms)) LL ∧ ShrsAt w' (.slice a LL.flatten.length c) LL.flatten ∧
        (∀ g, (Value.slice a LL.flatten.length c).ownBlock = some g → w.heap.size ≤ g) ∧ (∀ x ∈ LL.flatten, ∀ g, x.val.ownBlock = some g → w.heap.size ≤ g) ∧ Kept [] w w' := by
  have hclo : ∀ w0 : World, w0 = (((((w.alloc (.cells #[.int .i64 n] 3)).alloc (.cells #[.slice am Ms.length cm] 22)).alloc (.cells #[.slice at' Ts.length ct] 23)).alloc (.cells #[.slice none 0 0] 23)).alloc (.cells #[.bool false] 4)) →
      Kept [] w w0 ∧ w0.heap.size = w.heap.size + 5 ∧ _ := fun w0 e => ⟨by subst e; exact (((((Kept.refl [] w).alloc _).alloc _).alloc _).alloc _).alloc _, by subst e; simp,
      safe_any 44 #[.pointer (some ⟨w.heap.size + 1, 0, none⟩), .pointer (some ⟨w.heap.size, 0, none⟩), .pointer (some ⟨w.heap.size + 2, 0, none⟩), .pointer (some ⟨w.heap.size + 4, 0, none⟩), .pointer (some ⟨w.heap.size + 3, 0, none⟩)] w0
        (fun w' => GroupRes (w.heap.size + 6) w.heap.size Good (sortedNames (ids Ms)) w') [w.heap.size + 3, w.heap.size + 4] hasBody44 (by subst e; simp) (by
          have k0 : Kept [] w (w0.alloc (.cells #[.bool false] 4)) := by subst e; exact ((((((Kept.refl [] w).alloc _).alloc _).alloc _).alloc _).alloc _).alloc _
          have hz : (w0.alloc (.cells #[.bool false] 4)).heap.size = w.heap.size + 6 := by subst e; simp
          have h1 := plan_closure n hn f hf w.heap.size am cm Ms (.slice at' Ts.length ct) Ts Good (w0.alloc (.cells #[.bool false] 4)) (hm.kept0 k0) hok hnd hml hm1 (ht.kept k0 (by simp) (by simp)) htl htnd htsz (hplan _ k0) hgood
            (by subst e; simp [go_sem]) (by subst e; simp [go_sem]) (by subst e; simp)
          rw [hz] at h1
          exact h1)⟩
  obtain ⟨hk0, hs0, hsafe⟩ := hclo _ rfl
  have HSF := Lib.hid hsafe; clear hsafe hclo
  clear hm ht hplan hgood hok hnd htnd htsz
  go_enter Tryz.func18, Tryz.ntmps18
  go_wp2_with
    (go_at_call 43
     refine (HSF.out).mono ?_
     rintro e w2 ⟨rfl, w1, ⟨P, LL, a, c, hg, hout, c3, hsh, c4, f3, f4, ho1, ho2⟩, hk1, hk2⟩
     have hs1 := hk1.size
     rw [hs0] at hk2 hs1
     have d3 : w2.cell? ⟨w.heap.size + 1 + 1 + 1, 0, none⟩ = some (.slice a LL.flatten.length c) := hk2.cell c3 (by simp)
     have d4 : w2.cell? ⟨w.heap.size + 1 + 1 + 1 + 1, 0, none⟩ = some (.bool true) := hk2.cell c4 (by simp)
     have e3 : w2.frozen? ⟨w.heap.size + 1 + 1 + 1, 0, none⟩ = false := hk2.frz f3 (by simp; omega) (by simp)
     have e4 : w2.frozen? ⟨w.heap.size + 1 + 1 + 1 + 1, 0, none⟩ = false := hk2.frz f4 (by simp; omega) (by simp)
     have hsh2 := hsh.kept hk2 (fun g hg => by have := ho1 g hg; simp; omega) (fun x hx g hg => by have := ho2 x hx g hg; simp; omega)
     generalize hvl : LL.flatten.length = vl at *
     have HV := Lib.hid hvl; clear hvl
     have HRES := Lib.hid (And.intro hout (And.intro hsh2 (And.intro ho1 ho2))); clear hout hsh hsh2 ho1 ho2
     clear c3 c4 f3 f4)
  have k12 : Kept [] w w2 := (hk0.trans hk1 (U := []) (by simp) (by simp <;> omega)).trans hk2 (by simp) (by simp <;> omega)
  have k3 : Kept [w.heap.size + 3, w.heap.size + 4] w2 ((w2.setCell ⟨w.heap.size + 1 + 1 + 1, 0, none⟩ (.slice a vl c)).setCell ⟨w.heap.size + 1 + 1 + 1 + 1, 0, none⟩ (.bool true)) :=
    ((Kept.refl _ _).setCell _ (by simp)).setCell _ (by simp)
  have hend2 := k12.trans k3 (U := []) (by simp) (by simp <;> omega)
  obtain ⟨hout, hsh2, ho1, ho2⟩ := HRES.out
  have hend := hsh2.kept k3 (fun g hg => by have := ho1 g hg; simp; omega) (fun x hx g hg => by have := ho2 x hx g hg; simp; omega)
  have hv := HV.out
  have hfin : ∃ P LL a' c', Ending.returned (.tuple #[.slice a vl c, .bool true]) = .returned (.tuple #[.slice a' (List.flatten LL).length c', .bool true]) ∧ Good P ∧ OutOf P (sortedNames (ids Ms)) LL ∧ ShrsAt ((w2.setCell ⟨w.heap.size + 1 + 1 + 1, 0, none⟩ (.slice a vl c)).setCell ⟨w.heap.size + 1 + 1 + 1 + 1, 0, none⟩ (.bool true)) (.slice a' (List.flatten LL).length c') LL.flatten ∧
        (∀ g, (Value.slice a' LL.flatten.length c').ownBlock = some g → w.heap.size ≤ g) ∧ (∀ x ∈ LL.flatten, ∀ g, x.val.ownBlock = some g → w.heap.size ≤ g) ∧ Kept [] w ((w2.setCell ⟨w.heap.size + 1 + 1 + 1, 0, none⟩ (.slice a vl c)).setCell ⟨w.heap.size + 1 + 1 + 1 + 1, 0, none⟩ (.bool true)) :=
    ⟨P, LL, a, c, by rw [hv], hg, hout, by rw [hv]; exact hend, by rw [hv]; exact fun g hg => by have := ho1 g hg; omega, fun x hx g hg => by have := ho2 x hx g hg; omega, hend2⟩
  refine bodyPost_ret (v := .tuple #[.slice a vl c, .bool true]) ?_ rfl hfin
  simp [results, Tryz.results18, go_sem, d3, d4]
end Go.Proofs.YticcnlpfmekagaaGreat
