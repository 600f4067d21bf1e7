/- Part 36 of 51 of the proof of the row: the texts PlAdd, Group2, SharesS. -/
import Derived.Test.YticcnlpfmekagaaGreatRd29
import Derived.Test.YticcnlpfmekagaaGreatRd35
import Derived.Test.YticcnlpfmekagaaGreatRd22
import Derived.Test.YticcnlpfmekagaaGreatRd13
namespace Go.Proofs.YticcnlpfmekagaaGreat
open Go Go.Proofs Go.RowKit Go.Lib
open Classical
set_option linter.unusedVariables false
set_option linter.unusedSimpArgs false

/-! ## BalanceStrategyPlan.Add (93), one partition at a time -/
def rowsI (I : Tops) : List MRow := I.map fun x => (.string x.1, x.2.1, i32s x.2.2)
abbrev Rs.inn (r : Nat) (I : Tops) : Res := Rs.rows isStr r 21 1 (rowsI I)
theorem rowsI_append (A B : Tops) : rowsI (A ++ B) = rowsI A ++ rowsI B := by simp [rowsI]
theorem rowsI_keys {I : Tops} {t : ByteArray} (h : t ∉ I.map (·.1)) : Value.string t ∉ (rowsI I).map (·.1) := by
  intro hu
  obtain ⟨y, hy, e⟩ := List.mem_map.1 hu
  obtain ⟨z, hz, rfl⟩ := List.mem_map.1 hy
  simp only [Value.string.injEq] at e
  exact h (e ▸ List.mem_map_of_mem hz)
theorem rawI_miss {I : Tops} {t : ByteArray} (h : t ∉ I.map (·.1)) : ∀ u, (Value.string t, u) ∉ rawR (rowsI I) := by
  intro u hu
  obtain ⟨y, hy, e⟩ := List.mem_map.1 hu
  rw [Prod.mk.injEq] at e
  exact rowsI_keys h (List.mem_map.2 ⟨y, hy, e.1⟩)
theorem i32s_one (xs : List Int) : ∀ u ∈ i32s xs, u.oneCell' = true := by
  intro u hu
  obtain ⟨x, _, rfl⟩ := List.mem_map.1 hu
  rfl
def AddNew (p : Nat) (m t : ByteArray) (n : Int) (l : List (Value × Value)) (w : World) (e : Ending) (w' : World) : Prop :=
  e = .returned (.tuple #[]) ∧ ∃ r v, St [p] w w' [Rs.map p isStr (l ++ [(.string m, .map (some r))]), Rs.inn r [(t, v, [n])]] []

set_option maxRecDepth 100000 in
set_option maxHeartbeats 2000000 in
theorem add_new (p : Nat) (m t : ByteArray) (n : Int) (a : Option Addr) (c : Nat) (l : List (Value × Value)) (w : World) (how : Ow w ([Rs.map p isStr l] ++ [Rs.row 21 1 (.slice a 1 c) 1 [.int .i32 n]])) (hm : ∀ u, (Value.string m, u) ∉ l) :
    Calls Tryz.prog 93 #[.map (some p), .string m, .string t, .slice a 1 c] w (AddNew p m t n l w) := by
  have hst0 : St [p] w w [Rs.map p isStr l] [Rs.row 21 1 (.slice a 1 c) 1 [.int .i32 n]] := by
    have := St.start how
    simpa [foots, Rs.map] using this
  have hmk : ∀ w : World, (Instr.makeMap 90 (some (.int .i64 1))).run Tryz.prog w = .ok (.map (some w.heap.size)) (w.alloc (.map #[] 0)) := fun w => by
    simp [Instr.makeMap, go_sem]
  have hlk := map_lookup_miss (P := Tryz.prog) (hst0.m 0 rfl : MapAt w isStr p l) (keyT_str Tryz.underlying9) Tryz.underlying82 (k := .string m) ⟨_, rfl⟩ hm (Tryz.zeroValue90 w) true
  simp only [if_true] at hlk
  have hst1 : St [p] w (w.alloc (.map #[] 0)) [Rs.map w.heap.size isStr [], Rs.map p isStr l] [Rs.row 21 1 (.slice a 1 c) 1 [.int .i32 n]] :=
    hst0.push ((Kept.refl _ _).alloc _) (MapAt.new w isStr) (by simp [Rs.map])
  have HM := Lib.hid hm; clear hm how hst0
  go_enter Tryz.func93, Tryz.ntmps93
  go_upto_region 4 with (first | (refine wl_upd (kv := .string m) (vv := .map (some w.heap.size)) 1 rfl rfl rfl rfl rfl (keyT_str Tryz.underlying9) Tryz.underlying82 hst1 rfl ⟨_, rfl⟩ ?_; intro w2 hst2) | fail)
  simp only [List.set_cons_zero, List.set_cons_succ] at hst2
  rw [putE_miss HM.out] at hst2
  generalize w.heap.size = r at hst2 ⊢
  have hst3 := hst2.nilrow 21 1
  have hl1 : ∀ w', MapAt w' isStr p (l ++ [(.string m, .map (some r))]) → (Instr.lookup 82 (.map (some p)) (.string m) false).run Tryz.prog w' = .ok (.map (some r)) w' := fun w' h' => by
    have h1 := map_lookup_hit (P := Tryz.prog) h' (keyT_str Tryz.underlying9) Tryz.underlying82 (k := .string m) (v := .map (some r)) (by simp) false
    simpa using h1
  have hl2 := map_lookup_miss (P := Tryz.prog) (w := w2.drew) (MapAt.drew (hst2.m 0 rfl)) (keyT_str Tryz.underlying9) Tryz.underlying90 (k := .string t) ⟨_, rfl⟩ (by simp) (Tryz.zeroValue31 _) false
  simp only [Bool.false_eq_true, if_false] at hl2
  have hsl : SlAt w2.drew 1 (.slice a 1 c) 1 [.int .i32 n] := (own_sl (show w2.ownsRow 0 21 1 (.slice a 1 c) 1 [.int .i32 n] from hst2.r 0 rfl) (by intro u hu; simp at hu; subst hu; rfl)).drew
  have hsrc := hsl.src Tryz.underlying31
  have HSRC := Lib.hid hsrc; clear hsrc hsl
  have hm2 : MapAt w2 isStr p (l ++ [(.string m, .map (some r))]) := hst2.m 1 rfl
  have HST := Lib.hid hst3; clear hst3 hst2 hst1
  go_region_held3 (fun w' => MapAt w' isStr p (l ++ [(.string m, .map (some r))]))
    (first | exact hm4 | exact hm3 | exact hm2.drew | fail)
    (first
      | (refine sl_push 0 rfl rfl elI32 rfl rfl HST.out.drew rfl HSRC.out (by omega) (by omega) ?_
         intro v' w3 hst4
         simp only [List.set_cons_zero, List.nil_append, Nat.zero_add] at hst4
         have hm3 : MapAt w3 isStr p (l ++ [(.string m, .map (some r))]) := hst4.m 2 rfl)
      | (refine up_upd (vv := v') 1 (fun _ _ => rfl) (keyT_str Tryz.underlying9) Tryz.underlying90 hst4 rfl ⟨_, rfl⟩ ?_
         intro w4 hst5
         simp only [List.set_cons_zero, List.set_cons_succ] at hst5
         have hm4 : MapAt w4 isStr p (l ++ [(.string m, .map (some r))]) := hst5.m 2 rfl)
      | fail)
  all_goals
    go_end0
    rw [putE_miss (by simp), List.nil_append] at hst5
    have h6 := hst5.front 1 rfl
    simp only [List.eraseIdx_cons_zero, List.eraseIdx_cons_succ] at h6
    have h7 := (St.oneRow h6).front 1 rfl
    simp only [List.eraseIdx_cons_zero, List.eraseIdx_cons_succ] at h7
    exact ⟨rfl, r, v', h7.noR⟩

def AddMore (p r : Nat) (t : ByteArray) (n : Int) (l : List (Value × Value)) (I : Tops) (w : World) (e : Ending) (w' : World) : Prop :=
  e = .returned (.tuple #[]) ∧ ∃ I', (topTps I').Perm (topTps I ++ [(t, n)]) ∧ (∀ y ∈ I', y.2.2 ≠ [] ∨ y ∈ I) ∧ St (foots [Rs.map p isStr l, Rs.inn r I]) w w' [Rs.map p isStr l, Rs.inn r I'] []

set_option maxRecDepth 100000 in
set_option maxHeartbeats 4000000 in
theorem add_more (p r : Nat) (m t : ByteArray) (n : Int) (a : Option Addr) (c : Nat) (l : List (Value × Value)) (I : Tops) (w : World) (how : Ow w ([Rs.map p isStr l, Rs.inn r I] ++ [Rs.row 21 1 (.slice a 1 c) 1 [.int .i32 n]])) (hm : (Value.string m, Value.map (some r)) ∈ l) (hb : ∀ x ∈ I, x.2.2.length ≤ 1000) :
    Calls Tryz.prog 93 #[.map (some p), .string m, .string t, .slice a 1 c] w (AddMore p r t n l I w) := by
  have hst0 : St (foots [Rs.map p isStr l, Rs.inn r I]) w w [Rs.map p isStr l, Rs.inn r I] [Rs.row 21 1 (.slice a 1 c) 1 [.int .i32 n]] := St.start how
  unfold AddMore
  generalize foots [Rs.map p isStr l, Rs.inn r I] = S at *
  have hl0 : ∀ w' ok, MapAt w' isStr p l → (Instr.lookup 82 (.map (some p)) (.string m) ok).run Tryz.prog w' = .ok (if ok then .tuple #[.map (some r), .bool true] else .map (some r)) w' := fun w' ok h' =>
    map_lookup_hit (P := Tryz.prog) h' (keyT_str Tryz.underlying9) Tryz.underlying82 hm ok
  have hlk := hl0 w true (hst0.m 0 rfl)
  simp only [if_true] at hlk
  have hl1 : ∀ w', MapAt w' isStr p l → (Instr.lookup 82 (.map (some p)) (.string m) false).run Tryz.prog w' = .ok (.map (some r)) w' := fun w' h' => by
    have := hl0 w' false h'
    simpa using this
  clear hl0
  have hm2 : MapAt w isStr p l := hst0.m 0 rfl
  have hsl : SlAt w.drew 1 (.slice a 1 c) 1 [.int .i32 n] := (own_sl (show w.ownsRow 0 21 1 (.slice a 1 c) 1 [.int .i32 n] from hst0.r 0 rfl) (by intro u hu; simp at hu; subst hu; rfl)).drew
  have hsrc := hsl.src Tryz.underlying31
  have HSRC := Lib.hid hsrc; clear hsrc hsl
  by_cases ht : t ∈ I.map (·.1)
  · obtain ⟨⟨t', v, xs⟩, hx, rfl⟩ := List.mem_map.1 ht
    clear ht
    have hbx := hb _ hx
    obtain ⟨A, B, rfl⟩ := List.append_of_mem hx
    clear hx hb
    simp only at hbx
    have hst1 := hst0.front 1 rfl
    simp only [List.eraseIdx_cons_zero, List.eraseIdx_cons_succ] at hst1
    have e0 : rowsI (A ++ (t', v, xs) :: B) = rowsI A ++ (.string t', v, i32s xs) :: rowsI B := by simp [rowsI]
    unfold Rs.inn at hst1
    rw [e0] at hst1
    obtain ⟨k, hst2⟩ := hst1.rowOut
    have hk : k = xs.length := by
      have h1 := (show w.ownsRow 0 21 1 v k (i32s xs) from hst2.m 1 rfl).1
      simpa [i32s] using h1.symm
    have hin : (Value.string t', v) ∈ rawR (rowsI A ++ (.string t', v, i32s xs) :: rowsI B) := by rw [rawR_append, rawR_cons]; simp
    have hmr : MapAt w isStr r (rawR (rowsI A ++ (.string t', v, i32s xs) :: rowsI B)) := hst2.m 0 rfl
    have hput := fun v' => rawR_put (v' := v') (ys := i32s xs ++ [.int .i32 n]) hmr
    have hl2 := map_lookup_hit (P := Tryz.prog) hmr.drew (keyT_str Tryz.underlying9) Tryz.underlying90 hin false
    simp only [Bool.false_eq_true, if_false] at hl2
    have hkb : k ≤ 1000 := by omega
    have HST := Lib.hid (And.intro hst2 (And.intro hk hput)); clear hst2 hst1 hst0 hk hmr hin e0 hbx hput how
    go_enter Tryz.func93, Tryz.ntmps93
    go_upto_region 4 with fail
    go_region_held3 (fun w' => MapAt w' isStr p l)
      (first | exact hm4 | exact hm3 | exact hm2.drew | fail)
      (first
        | (refine sl_push 1 rfl rfl elI32 rfl rfl HST.out.1.drew rfl HSRC.out (by omega) (by omega) ?_
           intro v' w3 hst4
           simp only [List.set_cons_zero, List.set_cons_succ] at hst4
           have hm3 : MapAt w3 isStr p l := hst4.m 3 rfl)
        | (refine up_upd (vv := v') 0 (fun _ _ => rfl) (keyT_str Tryz.underlying9) Tryz.underlying90 hst4 rfl ⟨_, rfl⟩ ?_
           intro w4 hst5
           simp only [List.set_cons_zero, List.set_cons_succ] at hst5
           have hm4 : MapAt w4 isStr p l := hst5.m 3 rfl)
        | fail)
    all_goals
      go_end0
      rw [HST.out.2.2] at hst5
      have h6 := (St.rowIn hst5).front 1 rfl
      simp only [List.eraseIdx_cons_zero, List.eraseIdx_cons_succ] at h6
      refine ⟨rfl, A ++ (t', v', xs ++ [n]) :: B, ?_, fun y hy => ?_, ?_⟩
      · simp only [topTps, List.flatMap_append, List.flatMap_cons, tpsOf, List.map_append, List.map_cons, List.map_nil, List.append_assoc]
        refine List.Perm.append_left _ (List.Perm.append_left _ ?_)
        exact List.perm_append_comm
      · rcases List.mem_append.1 hy with hy | hy
        · exact .inr (by simp [hy])
        · rcases List.mem_cons.1 hy with rfl | hy
          · exact .inl (by simp)
          · exact .inr (by simp [hy])
      · have e1 : rowsI (A ++ (t', v', xs ++ [n]) :: B) = rowsI A ++ (.string t', v', i32s xs ++ [.int .i32 n]) :: rowsI B := by simp [rowsI, i32s]
        unfold Rs.inn
        rw [e1]
        exact h6.noR
  · have hmiss := rawI_miss ht
    have hst1 := (hst0.front 1 rfl).unrowL.nilrow 21 1
    simp only [List.eraseIdx_cons_zero, List.eraseIdx_cons_succ] at hst1
    have hmr : MapAt w isStr r (rawR (rowsI I)) := hst1.m 1 rfl
    have hl2 := map_lookup_miss (P := Tryz.prog) hmr.drew (keyT_str Tryz.underlying9) Tryz.underlying90 (k := .string t) ⟨_, rfl⟩ hmiss (Tryz.zeroValue31 _) false
    simp only [Bool.false_eq_true, if_false] at hl2
    have HST := Lib.hid (And.intro hst1 (And.intro hmiss ht)); clear hst1 hst0 hmr hmiss ht how hb
    go_enter Tryz.func93, Tryz.ntmps93
    go_upto_region 4 with fail
    go_region_held3 (fun w' => MapAt w' isStr p l)
      (first | exact hm4 | exact hm3 | exact hm2.drew | fail)
      (first
        | (refine sl_push 0 rfl rfl elI32 rfl rfl HST.out.1.drew rfl HSRC.out (by omega) (by omega) ?_
           intro v' w3 hst4
           simp only [List.set_cons_zero, List.nil_append, Nat.zero_add] at hst4
           have hm3 : MapAt w3 isStr p l := hst4.m 3 rfl)
        | (refine up_upd (vv := v') 1 (fun _ _ => rfl) (keyT_str Tryz.underlying9) Tryz.underlying90 hst4 rfl ⟨_, rfl⟩ ?_
           intro w4 hst5
           simp only [List.set_cons_zero, List.set_cons_succ] at hst5
           have hm4 : MapAt w4 isStr p l := hst5.m 3 rfl)
        | fail)
    all_goals
      go_end0
      rw [putE_miss HST.out.2.1] at hst5
      have e0 : rawR (rowsI I) ++ [(Value.string t, v')] = rawR (rowsI I ++ [(.string t, v', [.int .i32 n])]) := by rw [rawR_append, rawR_cons]; simp [rawR]
      rw [e0] at hst5
      have h6 := hst5.front 1 rfl
      simp only [List.eraseIdx_cons_zero, List.eraseIdx_cons_succ] at h6
      have h7 := (St.rowJoin h6).front 1 rfl
      simp only [List.eraseIdx_cons_zero, List.eraseIdx_cons_succ] at h7
      refine ⟨rfl, I ++ [(t, v', [n])], ?_, fun y hy => ?_, ?_⟩
      · simp [topTps, tpsOf]
      · rcases List.mem_append.1 hy with hy | hy
        · exact .inr hy
        · simp only [List.mem_cons, List.not_mem_nil, or_false] at hy
          subst hy; exact .inl (by simp)
      · have e1 : rowsI (I ++ [(t, v', [n])]) = rowsI I ++ [(.string t, v', [.int .i32 n])] := by simp [rowsI, i32s]
        unfold Rs.inn
        rw [e1]
        exact h7.noR
end Go.Proofs.YticcnlpfmekagaaGreat
namespace Go.Proofs.YticcnlpfmekagaaGreat
open Go Go.Proofs Go.RowKit
set_option linter.unusedVariables false
set_option linter.unusedSimpArgs false

theorem MemsAt.kept0 {w w' : World} {v : Value} {L : List Mem} (h : MemsAt w v L) (k : Kept [] w w') : MemsAt w' v L :=
  ⟨h.form, h.cells.kept k (by simp), fun m hm => ⟨(h.each m hm).tops.kept k (by simp), ⟨(h.each m hm).data.1, (h.each m hm).data.2.kept k (by simp)⟩, (h.each m hm).owned.kept k (by simp) (by simp)⟩⟩

theorem hasBody44 : HasBody 44 := by unfold HasBody; intro a w; kernel_rfl

set_option maxRecDepth 100000 in
set_option maxHeartbeats 1000000 in
theorem groupPlan_any (n : Nat) (hn : n < 4) (f : FuncId) (hf : IsMeth (stratT n) "Plan" f) (am : Option Addr) (cm : Nat) (Ms : List Mem) (at' : Option Addr) (ct : Nat) (Ts : List Shr) (Good : PL → Prop) (w : World)
    (hm : MemsAt w (.slice am Ms.length cm) Ms) (hok : ∀ m ∈ Ms, MemOk m) (hnd : (ids Ms).Nodup) (hml : Ms.length ≤ 1000) (hm1 : 1 ≤ Ms.length)
    (ht : ShrsAt w (.slice at' Ts.length ct) Ts) (htl : Ts.length ≤ 1000) (htnd : (Ts.map (·.top)).Nodup) (htsz : ∀ x ∈ Ts, x.parts.length ≤ 1000)
    (hplan : ∀ w', Kept [] w w' → PlanC n f w' Ms Ts Good) (hgood : ∀ P, Good P → ∀ m ∈ Ms, ∃ r D, (m.id, r, D) ∈ P ∧ D.length ≤ 1 ∧ ∀ x ∈ D, x.2.2.length ≤ 1000000) :
    Calls Tryz.prog 18 #[.int .i64 n, .slice am Ms.length cm, .slice at' Ts.length ct] w fun e w' =>
      ∃ P LL a c, e = .returned (.tuple #[.slice a LL.flatten.length c, .bool true]) ∧ Good P ∧ OutOf P (sortedNames (ids Ms)) LL ∧ ShrsAt w' (.slice a LL.flatten.length c) LL.flatten ∧
        (∀ g, (Value.slice a LL.flatten.length c).ownBlock = some g → w.heap.size ≤ g) ∧ (∀ x ∈ LL.flatten, ∀ g, x.val.ownBlock = some g → w.heap.size ≤ g) ∧ Kept [] w w' := by
  have hclo : ∀ w0 : World, w0 = (((((w.alloc (.cells #[.int .i64 n] 3)).alloc (.cells #[.slice am Ms.length cm] 22)).alloc (.cells #[.slice at' Ts.length ct] 23)).alloc (.cells #[.slice none 0 0] 23)).alloc (.cells #[.bool false] 4)) →
      Kept [] w w0 ∧ w0.heap.size = w.heap.size + 5 ∧ _ := fun w0 e => ⟨by subst e; exact (((((Kept.refl [] w).alloc _).alloc _).alloc _).alloc _).alloc _, by subst e; simp,
      safe_any 44 #[.pointer (some ⟨w.heap.size + 1, 0, none⟩), .pointer (some ⟨w.heap.size, 0, none⟩), .pointer (some ⟨w.heap.size + 2, 0, none⟩), .pointer (some ⟨w.heap.size + 4, 0, none⟩), .pointer (some ⟨w.heap.size + 3, 0, none⟩)] w0
        (fun w' => GroupRes (w.heap.size + 6) w.heap.size Good (sortedNames (ids Ms)) w') [w.heap.size + 3, w.heap.size + 4] hasBody44 (by subst e; simp) (by
          have k0 : Kept [] w (w0.alloc (.cells #[.bool false] 4)) := by subst e; exact ((((((Kept.refl [] w).alloc _).alloc _).alloc _).alloc _).alloc _).alloc _
          have hz : (w0.alloc (.cells #[.bool false] 4)).heap.size = w.heap.size + 6 := by subst e; simp
          have h1 := plan_closure n hn f hf w.heap.size am cm Ms (.slice at' Ts.length ct) Ts Good (w0.alloc (.cells #[.bool false] 4)) (hm.kept0 k0) hok hnd hml hm1 (ht.kept k0 (by simp) (by simp)) htl htnd htsz (hplan _ k0) hgood
            (by subst e; simp [go_sem]) (by subst e; simp [go_sem]) (by subst e; simp)
          rw [hz] at h1
          exact h1)⟩
  obtain ⟨hk0, hs0, hsafe⟩ := hclo _ rfl
  have HSF := Lib.hid hsafe; clear hsafe hclo
  clear hm ht hplan hgood hok hnd htnd htsz
  go_enter Tryz.func18, Tryz.ntmps18
  go_wp2_with
    (go_at_call 43
     refine (HSF.out).mono ?_
     rintro e w2 ⟨rfl, w1, ⟨P, LL, a, c, hg, hout, c3, hsh, c4, f3, f4, ho1, ho2⟩, hk1, hk2⟩
     have hs1 := hk1.size
     rw [hs0] at hk2 hs1
     have d3 : w2.cell? ⟨w.heap.size + 1 + 1 + 1, 0, none⟩ = some (.slice a LL.flatten.length c) := hk2.cell c3 (by simp)
     have d4 : w2.cell? ⟨w.heap.size + 1 + 1 + 1 + 1, 0, none⟩ = some (.bool true) := hk2.cell c4 (by simp)
     have e3 : w2.frozen? ⟨w.heap.size + 1 + 1 + 1, 0, none⟩ = false := hk2.frz f3 (by simp; omega) (by simp)
     have e4 : w2.frozen? ⟨w.heap.size + 1 + 1 + 1 + 1, 0, none⟩ = false := hk2.frz f4 (by simp; omega) (by simp)
     have hsh2 := hsh.kept hk2 (fun g hg => by have := ho1 g hg; simp; omega) (fun x hx g hg => by have := ho2 x hx g hg; simp; omega)
     generalize hvl : LL.flatten.length = vl at *
     have HV := Lib.hid hvl; clear hvl
     have HRES := Lib.hid (And.intro hout (And.intro hsh2 (And.intro ho1 ho2))); clear hout hsh hsh2 ho1 ho2
     clear c3 c4 f3 f4)
  have k12 : Kept [] w w2 := (hk0.trans hk1 (U := []) (by simp) (by simp <;> omega)).trans hk2 (by simp) (by simp <;> omega)
  have k3 : Kept [w.heap.size + 3, w.heap.size + 4] w2 ((w2.setCell ⟨w.heap.size + 1 + 1 + 1, 0, none⟩ (.slice a vl c)).setCell ⟨w.heap.size + 1 + 1 + 1 + 1, 0, none⟩ (.bool true)) :=
    ((Kept.refl _ _).setCell _ (by simp)).setCell _ (by simp)
  have hend2 := k12.trans k3 (U := []) (by simp) (by simp <;> omega)
  obtain ⟨hout, hsh2, ho1, ho2⟩ := HRES.out
  have hend := hsh2.kept k3 (fun g hg => by have := ho1 g hg; simp; omega) (fun x hx g hg => by have := ho2 x hx g hg; simp; omega)
  have hv := HV.out
  have hfin : ∃ P LL a' c', Ending.returned (.tuple #[.slice a vl c, .bool true]) = .returned (.tuple #[.slice a' (List.flatten LL).length c', .bool true]) ∧ Good P ∧ OutOf P (sortedNames (ids Ms)) LL ∧ ShrsAt ((w2.setCell ⟨w.heap.size + 1 + 1 + 1, 0, none⟩ (.slice a vl c)).setCell ⟨w.heap.size + 1 + 1 + 1 + 1, 0, none⟩ (.bool true)) (.slice a' (List.flatten LL).length c') LL.flatten ∧
        (∀ g, (Value.slice a' LL.flatten.length c').ownBlock = some g → w.heap.size ≤ g) ∧ (∀ x ∈ LL.flatten, ∀ g, x.val.ownBlock = some g → w.heap.size ≤ g) ∧ Kept [] w ((w2.setCell ⟨w.heap.size + 1 + 1 + 1, 0, none⟩ (.slice a vl c)).setCell ⟨w.heap.size + 1 + 1 + 1 + 1, 0, none⟩ (.bool true)) :=
    ⟨P, LL, a, c, by rw [hv], hg, hout, by rw [hv]; exact hend, by rw [hv]; exact fun g hg => by have := ho1 g hg; omega, fun x hx g hg => by have := ho2 x hx g hg; omega, hend2⟩
  refine bodyPost_ret (v := .tuple #[.slice a vl c, .bool true]) ?_ rfl hfin
  simp [results, Tryz.results18, go_sem, d3, d4]
end Go.Proofs.YticcnlpfmekagaaGreat
namespace Go.Proofs.YticcnlpfmekagaaGreat
open Go Go.Proofs Go.RowKit
set_option linter.unusedVariables false
set_option linter.unusedSimpArgs false

/-! ## shares of a member in the order of the topics (49), up to 12 topics -/

set_option maxRecDepth 100000 in
set_option maxHeartbeats 1000000 in
theorem shares_many (mem : ByteArray) (r : Nat) (D : Tops) (w : World) (hD : TopsAt w r D) (hn : D.length ≤ 12) (hsz : ∀ x ∈ D, x.2.2.length ≤ 1000000) (hlt : ∀ x ∈ D, ∀ g, x.2.1.ownBlock = some g → g < w.heap.size) :
    Calls Tryz.prog 49 #[.string mem, .map (some r)] w fun e w' => ∃ a c L, e = .returned (.slice a L.length c) ∧ ShrsAt w' (.slice a L.length c) L ∧ (L.map trip).Perm ((D.filter full).map (tripOf mem)) ∧ L.Pairwise (fun x y => topLt y.top x.top = false) ∧ Kept [] w w' ∧ Fresh w (.slice a L.length c) ∧ (∀ x ∈ L, ∀ g, x.val.ownBlock = some g → w.heap.size ≤ g ∧ g < w'.heap.size) := by
  have hrl := hD.map.lt
  have HD := Lib.hid hD; clear hD
  have HSZ := Lib.hid hsz; clear hsz
  have HLT := Lib.hid hlt; clear hlt
  go_enter Tryz.func49, Tryz.ntmps49
  go_wp2_with (refine wl_range rfl rfl rfl Tryz.underlying90 HD.out.map ?_; intro w2 hit2 hmap2 hk2 hsz2)
  go_frame
  have hitr : w.heap.size ≠ r := by omega
  have own0 := own_nil 33 3 (w := w2)
  go_loopw [5] (fun v wr => ∃ A M : Tops, ∃ L : List Shr, (A ++ M).Perm D ∧ IterAt wr w.heap.size r (rawT D) (rawT M) ∧ wr.ownsRow 0 33 3 v L.length (L.flatMap shrCells) ∧ (∀ x ∈ L, SlInts wr x.val x.parts) ∧ L.map trip = (A.filter full).map (tripOf mem) ∧
      Kept [] w wr ∧ Fresh w2 v ∧ (∀ x ∈ L, ∀ g, x.val.ownBlock = some g → w2.heap.size ≤ g ∧ g < wr.heap.size) ∧ (∀ g, v.ownBlock = some g → (∀ x ∈ L, x.val.ownBlock ≠ some g) ∧ g < wr.heap.size) ∧ w2.heap.size ≤ wr.heap.size) (fun _ wr => leftOf wr w.heap.size r)
  case atStart => exact ⟨[], D, [], by simp, hit2, own0, by simp, by simp, hk2, Fresh.nil _, by simp, by simp [Value.ownBlock], Nat.le_refl _⟩
  case round =>
    obtain ⟨A, M, L, hperm, hit, hown, hints, htrip, hkw, hfv, hfL, hdis, hszw⟩ := hrel
    obtain ⟨va, vn, vc, rfl⟩ := own_form hown
    have hLl : L.length ≤ 12 := by
      have h1 := congrArg List.length htrip
      have h2 := hperm.length_eq
      have h3 := List.length_filter_le full A
      simp only [List.length_map, List.length_append] at h1 h2
      omega
    cases M with
    | nil =>
      have hit0 : IterAt wr w.heap.size r (rawT D) [] := hit
      clear hit
      obtain rfl : vn = L.length := by
        rcases hown.2 with ⟨h1, h2⟩ | ⟨g, cap, cur, h1, _⟩
        · cases h1; exact h2.symm
        · cases h1; rfl
      have hsrt := fun w' (k' : Kept [] wr w') => sortShr_any 79 cmpTop79 (.slice va L.length vc) L w' (own_kept hown k' (by simp)) (fun x hx => by obtain ⟨⟨a, c, hv⟩, _⟩ := hints x hx; rw [hv]; rfl) hLl
      have HSL := Lib.hid hsrt; clear hsrt hown
      have HP := Lib.hid hperm; clear hperm
      have HI := Lib.hid hints; clear hints
      have HT := Lib.hid htrip; clear htrip
      have HF := Lib.hid (And.intro hfv hfL); clear hfv hfL
      have HD2 := Lib.hid hdis; clear hdis
      go_wp2_with (first
        | (refine wl_next0 rfl rfl rfl hit0 hitr ?_)
        | (go_at_call 65
           refine (HSL.out _ (Kept.refl _ _)).mono ?_
           rintro e w3 ⟨rfl, L', hL', hso, hsl3, hk3⟩)
        | fail)
      go_ret
      have hp := HP.out
      rw [List.append_nil] at hp
      have el := hL'.length_eq
      refine ⟨va, vc, L', by rw [el]; rfl, ⟨⟨_, _, by rw [el]⟩, by rw [el]; exact hsl3, fun x hx => (HI.out x (hL'.mem_iff.1 hx)).kept hk3 (fun g hg h => ?_)⟩, ?_, hso, hkw.trans hk3 (by simp) (fun y hy hl => ?_), fun g hg => ?_, fun x hx g hg => ?_⟩
      · simp only [Option.mem_toList] at h
        exact (HD2.out g h).1 x (hL'.mem_iff.1 hx) hg
      · refine (hL'.map trip).trans ?_
        rw [HT.out]
        exact (hp.filter full).map (tripOf mem)
      · simp only [Option.mem_toList] at hy
        have := HF.out.1 y hy; omega
      · rw [el] at hg
        have := HF.out.1 g hg; omega
      · have := HF.out.2 x (hL'.mem_iff.1 hx) g hg; have := hk3.size; omega
    | cons x0 M0 =>
      have hne0 : rawT (x0 :: M0) ≠ [] := by simp [rawT]
      generalize x0 :: M0 = M at *
      have HP := Lib.hid hperm; clear hperm
      have HO := Lib.hid hown; clear hown
      have HI := Lib.hid hints; clear hints
      have HT := Lib.hid htrip; clear htrip
      have HF := Lib.hid (And.intro hfv hfL); clear hfv hfL
      have HDis := Lib.hid hdis; clear hdis
      go_wp2_with (first
        | (refine wl_next1 rfl rfl rfl hit hitr hne0 ?_
           intro k v l1 l2 w3 hsplit hit3 hent hk3 hsz3
           obtain ⟨L1, x, L2, hM, hl1, hl2, hk, hv⟩ := rawT_split hsplit
           clear hsplit
           have hxD : x ∈ D := HP.out.mem_iff.1 (by rw [hM]; simp)
           obtain ⟨xt, xv, xp⟩ := x
           obtain ⟨⟨pa, pc, hpv⟩, hsp⟩ := HD.out.parts _ hxD
           simp only at hpv hsp hk hv
           subst hpv
           have hkw3 : Kept [] w w3 := hkw.trans hk3 (by simp) (by simp)
           have hcl := clone_i32 (.slice pa xp.length pc) xp w3 (SlInts.kept ⟨⟨_, _, rfl⟩, hsp⟩ hkw3 (by simp)) (by have := HSZ.out _ hxD; simp only at this; omega)
           have HCL := Lib.hid hcl; clear hcl hsp
           have HXD := Lib.hid hxD; clear hxD
           have HM := Lib.hid hM; clear hM
           have HL12 := Lib.hid (And.intro hl1 hl2); clear hl1 hl2)
        | (refine wl_entry rfl rfl rfl hent ?_)
        | (go_at_call 62
           refine HCL.out.mono ?_
           rintro e w4 ⟨v1, rfl, ⟨⟨qa, qc, rfl⟩, hsv⟩, hk4, hg4, _⟩
           have hk34 : Kept [w.heap.size] wr w4 := hk3.trans hk4 (by simp) (by simp)
           have ho4 := own_kept HO.out hk34 (fun g hg => by have := HF.out.1 g hg; simp; omega))
        | (refine wl_app (v := .slice va vn vc) rfl rfl elSh rfl rfl (own_kept ho4 ((Kept.refl [] _).alloc _) (by simp)) ((new_sl3 _ _ _ _ _ rfl).src Tryz.underlying23) (by omega) (by omega) ?_
           intro v' w5 hown5 hk5 hd5)
        | fail)
      · obtain ⟨hl1, hl2⟩ := HL12.out
        have hMM := HM.out
        have hk45 : Kept [] w w4 := hkw3.trans hk4 (by simp) (by simp)
        have hs34 := hk4.size
        have hs45 := hk5.size
        simp only [World.size_alloc] at hs45 hd5
        have hvb : ∀ g, (Value.slice va vn vc).ownBlock = some g → w2.heap.size ≤ g ∧ g < wr.heap.size := fun g hg => ⟨HF.out.1 g hg, (HDis.out g hg).2⟩
        have hk35 : Kept (Value.slice va vn vc).ownBlock.toList w3 w5 := (hk4.trans ((Kept.refl [] _).alloc _) (U := []) (by simp) (by simp)).trans hk5 (by simp) (fun y hy _ => hy)
        have hkr5 : Kept (w.heap.size :: (Value.slice va vn vc).ownBlock.toList) wr w5 := hk3.trans hk35 (by simp) (fun y hy _ => by simp [hy])
        have hit5 : IterAt w5 w.heap.size r (rawT D) (rawT (L1 ++ L2)) := by
          have : rawT (L1 ++ L2) = l1 ++ l2 := by rw [hl1, hl2]; simp [rawT]
          rw [this]
          refine hit3.kept hk35 (fun h => ?_) (fun h => ?_)
          · simp only [Option.mem_toList] at h; have := hvb _ h; omega
          · simp only [Option.mem_toList] at h; have := hvb _ h; omega
        have hv'b : ∀ g, v'.ownBlock = some g → w2.heap.size ≤ g ∧ g < w5.heap.size ∧ (∀ y ∈ L, y.val.ownBlock ≠ some g) ∧ (Value.slice qa xp.length qc).ownBlock ≠ some g := by
          intro g hg
          rcases hd5 with ⟨h1, h2⟩ | ⟨h1, h2⟩
          · rw [h1] at hg
            have h3 := hvb g hg
            refine ⟨h3.1, by omega, (HDis.out g hg).1, fun h => ?_⟩
            have := hg4 g h
            omega
          · rw [h1] at hg
            simp only [Option.some.injEq] at hg
            refine ⟨by omega, by omega, fun y hy h => ?_, fun h => ?_⟩
            · have := HF.out.2 y hy g h; omega
            · have := hg4 g h; omega
        have hints5 : ∀ y ∈ L ++ [(⟨mem, xt, .slice qa xp.length qc, xp⟩ : Shr)], SlInts w5 y.val y.parts := by
          intro y hy
          rcases List.mem_append.1 hy with hy | hy
          · refine (HI.out y hy).kept hkr5 (fun g hg => ?_)
            have h1 := HF.out.2 y hy g hg
            simp only [List.mem_cons, Option.mem_toList, not_or]
            exact ⟨by omega, fun h => (HDis.out g h).1 y hy hg⟩
          · simp only [List.mem_cons, List.not_mem_nil, or_false] at hy
            subst hy
            refine SlInts.kept ⟨⟨_, _, rfl⟩, hsv⟩ (((Kept.refl [] w4).alloc _).trans hk5 (by simp) (fun y hy _ => hy)) (fun g hg => ?_)
            simp only [Option.mem_toList]
            intro h
            have h1 := hg4 g hg
            have h2 := hvb g h
            omega
        refine ⟨⟨A ++ [(xt, .slice pa xp.length pc, xp)], L1 ++ L2, L ++ [⟨mem, xt, .slice qa xp.length qc, xp⟩], ?_, hit5, ?_, hints5, ?_, ?_, ?_, ?_, ?_, ?_⟩, ?_⟩
        · refine List.Perm.trans ?_ HP.out
          rw [hMM, List.append_assoc, List.singleton_append]
          exact List.Perm.append_left A (List.perm_middle (a := (xt, Value.slice pa xp.length pc, xp)) (l₁ := L1) (l₂ := L2)).symm
        · simpa [shrCells] using hown5
        · rw [List.map_append, HT.out, List.filter_append, List.map_append]
          have : full (xt, Value.slice pa xp.length pc, xp) = true := by
            unfold full; cases xp with
            | nil => simp at *
            | cons a b => rfl
          simp [this, trip, tripOf]
        · exact (hkw3.trans hk35 (U := []) (by simp) (fun y hy hlt => by simp only [Option.mem_toList] at hy; have := hvb y hy; omega))
        · exact fun g hg => (hv'b g hg).1
        · intro y hy g hg
          rcases List.mem_append.1 hy with hy | hy
          · have := HF.out.2 y hy g hg; omega
          · simp only [List.mem_cons, List.not_mem_nil, or_false] at hy
            subst hy
            have := hg4 g hg
            omega
        · intro g hg
          have h := hv'b g hg
          refine ⟨fun y hy => ?_, h.2.1⟩
          rcases List.mem_append.1 hy with hy | hy
          · exact h.2.2.1 y hy
          · simp only [List.mem_cons, List.not_mem_nil, or_false] at hy
            subst hy
            exact h.2.2.2
        · omega
        · rw [hit.leftOf, hit5.leftOf]
          simp [rawT, hMM]
      · obtain ⟨hl1, hl2⟩ := HL12.out
        have hMM := HM.out
        have hit5 : IterAt w3 w.heap.size r (rawT D) (rawT (L1 ++ L2)) := by
          have : rawT (L1 ++ L2) = l1 ++ l2 := by rw [hl1, hl2]; simp [rawT]
          rw [this]; exact hit3
        refine ⟨⟨A ++ [(xt, .slice pa xp.length pc, xp)], L1 ++ L2, L, ?_, hit5, own_kept HO.out hk3 ?_, fun y hy => (HI.out y hy).kept hk3 ?_, ?_, hkw3, HF.out.1, ?_, ?_, ?_⟩, ?_⟩
        · refine List.Perm.trans ?_ HP.out
          rw [hMM, List.append_assoc, List.singleton_append]
          exact List.Perm.append_left A (List.perm_middle (a := (xt, Value.slice pa xp.length pc, xp)) (l₁ := L1) (l₂ := L2)).symm
        · intro g hg; have := HF.out.1 g hg; simp; omega
        · intro g hg; have := HF.out.2 y hy g hg; simp; omega
        · rw [HT.out, List.filter_append]
          have : full (xt, Value.slice pa xp.length pc, xp) = false := by
            unfold full; cases xp with
            | nil => rfl
            | cons a b => simp at *
          simp [this]
        · intro y hy g hg; have := HF.out.2 y hy g hg; omega
        · intro g hg; have := HDis.out g hg; exact ⟨this.1, by omega⟩
        · omega
        · rw [hit.leftOf, hit5.leftOf]
          simp [rawT, hMM]

end Go.Proofs.YticcnlpfmekagaaGreat
