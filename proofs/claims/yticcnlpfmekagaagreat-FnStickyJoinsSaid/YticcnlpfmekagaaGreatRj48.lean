/- Part 48 of the proof of the row: Even, LawJn. -/
import Derived.Test.YticcnlpfmekagaaGreatRj00
import Derived.Test.YticcnlpfmekagaaGreatRj47
import Derived.Test.YticcnlpfmekagaaGreatRj44
import Derived.Test.YticcnlpfmekagaaGreatRj45
import Derived.Test.YticcnlpfmekagaaGreatRj39
set_option linter.unusedVariables false
set_option linter.unusedSimpArgs false
set_option maxRecDepth 100000
set_option maxHeartbeats 8000000
namespace Go.Proofs.YticcnlpfmekagaaGreat
section
open Go Go.Proofs Go.RowKit Go.Lib
def EvRel (w : World) (L : List Nat) (N : Nat) (a b i : Value) (wr : World) : Prop := Kept [] w wr ∧ ∃ k : Nat, i = .int .i64 k ∧ k ≤ N ∧ ∃ x ∈ L, ∃ y ∈ L, a = .int .i64 (x : Int) ∧ b = .int .i64 (y : Int)
theorem even_any (am : Option Addr) (N cm : Nat) (Ms : List Mem) (at' : Option Addr) (nt ct : Nat) (Ts : List Shr) (ap : Option Addr) (np cp : Nat) (S : List Shr) (w : World) (hm : MemsAt w (.slice am N cm) Ms) (hN : Ms.length = N) (ht : ShrsAt w (.slice at' nt ct) Ts) (hT : Ts.length = nt)
 (hS : ShrsAt w (.slice ap np cp) S) (hn : S.length = np) (hok : CntOk Ms Ts S) (hb : N ≤ 1000 ∧ nt ≤ 1000) (hbt : ∀ m ∈ Ms, m.tops.length ≤ maxLen) (hpt : ∀ x ∈ Ts, x.parts.length ≤ 1000) :
 Calls Tryz.prog 25 #[.slice am N cm, .slice at' nt ct, .slice ap np cp] w fun e w' => e = .returned (.bool true) ∧ Kept [] w w' := by
 have hc := counted_any am N cm Ms at' nt ct Ts ap np cp S w hm hN ht hT hS hn hok hb hbt hpt
 have hcb : ∀ m : Mem, cntS S m.id ≤ 1000 := fun m => by have := cntS_le S m.id; have := hok.all; have := hok.b1; omega
 have hN1 : 1 ≤ N := by have := hok.n1; omega
 have HC := Zhd (Zan hc (Zan hN (Zan hok.near hcb))); clear hc hm hN ht hT hS hn hok hbt hpt hcb
 go_enter Tryz.func25, Tryz.ntmps25
 go_upto_region 4 with (first
  | (go_at_call 17
     refine HC.out.1.mono ?_
     rintro e w1 ⟨g, rfl, hrow, hk1⟩)
  | fail)
 have hcell : ∀ (j : Nat) m, Ms[j]? = some m → ∀ V, Kept [] w1 V → V.cell? ⟨g, j, none⟩ = some (.int .i64 ((cntS S m.id : Nat) : Int)) := fun j m hj V hV => hV.cell (own_cell (j := j) hrow (by unfold cntRow0; rw [List.getElem?_map, hj]; rfl)).1 (by simp)
 obtain ⟨m0, hm0⟩ : ∃ m, Ms[0]? = some m := ⟨_, List.getElem?_eq_getElem (by have := HC.out.2.1; omega)⟩
 have c0 := hcell 0 m0 hm0 w1 (Kept.refl _ _)
 have h0m := List.mem_of_getElem? hm0
 have HX := Zhd (Zan hcell (Zan hk1 h0m)); clear hcell hk1 h0m hrow hm0
 go_region
 all_goals
  have hN0 : (0 : Int) < (N : Int) := by omega
  have h20 : EvRel w1 (Ms.map fun m => cntS S m.id) N (.int .i64 ((cntS S m0.id : Nat) : Int)) (.int .i64 ((cntS S m0.id : Nat) : Int)) (.int .i64 0) w1.drew := ⟨(Kept.refl [] w1).drew, 0, rfl, Nat.zero_le _, _, List.mem_map_of_mem (f := fun m : Mem => cntS S m.id) HX.out.2.2, _, List.mem_map_of_mem (f := fun m : Mem => cntS S m.id) HX.out.2.2, rfl, rfl⟩
  have H20 := Zhd h20; clear h20 c0
  go_wp2_with fail
  go_loopw [10, 11, 12] (fun a b i wr => EvRel w1 (Ms.map fun m => cntS S m.id) N a b i wr) (fun _ _ i _ => N - (intOf i).toNat)
  case atStart => exact H20.out
  case round =>
   clear H20
   obtain ⟨hkw, k, rfl, hk, x, hx, y, hy, rfl, rfl⟩ := hrel
   by_cases hkn : k < N
   · obtain ⟨m, hmk⟩ : ∃ m, Ms[k]? = some m := ⟨_, List.getElem?_eq_getElem (by have := HC.out.2.1; omega)⟩
     have hki : (k : Int) < (N : Int) := by omega
     have ck := HX.out.1 k m hmk wr hkw
     have hmM := List.mem_map_of_mem (f := fun m : Mem => cntS S m.id) (List.mem_of_getElem? hmk)
     have HM := Zhd (Zan hx (Zan hy hmM)); clear hx hy hmM
     generalize cntS S m.id = v at *
     go_upto_region 8 with fail
     go_quiet (fail)
     go_wp2_with fail
     refine ⟨⟨hkw.drewN _, k + 1, by go_num, by omega, min x v, ?_, max y v, ?_, by congr 1; omega, by congr 1; omega⟩, by simp [intOf]; omega⟩
     · rcases Nat.le_total x v with h | h
       · rw [Nat.min_eq_left h]; exact HM.out.1
       · rw [Nat.min_eq_right h]; exact HM.out.2.2
     · rcases Nat.le_total y v with h | h
       · rw [Nat.max_eq_right h]; exact HM.out.2.2
       · rw [Nat.max_eq_left h]; exact HM.out.2.1
   · obtain rfl : k = N := by omega
     have h1 := HC.out.2.2.1 x hx y hy
     have h2 := HC.out.2.2.1 y hy x hx
     have hx1 : x ≤ 1000 := by obtain ⟨m, _, rfl⟩ := List.mem_map.1 hx; exact HC.out.2.2.2 m
     have hy1 : y ≤ 1000 := by obtain ⟨m, _, rfl⟩ := List.mem_map.1 hy; exact HC.out.2.2.2 m
     have hdec : decide ((y : Int) - (x : Int) ≤ 1) = true := decide_eq_true (by omega)
     have HD := Zhd hdec; clear hdec h1 h2
     go_wp2_with fail
     go_ret
     exact ⟨congrArg (fun b : Bool => Ending.returned (.bool b)) HD.out, HX.out.2.1.trans hkw (by simp) (by simp)⟩
end
section
open Go Go.Proofs Go.RowKit Go.Lib Go.Deep
theorem open_cap {H : Type} {enc : TypeId × Value → H} {w : World} {t e : TypeId} {fuel : Nat} {a : Option Addr} {n c : Nat} {x : DataW H × List MemPlace} (ht : Tryz.prog.underlying t = some (.slice e)) (h : DataW.trod enc Tryz.prog w 0 (fun _ => true) true fuel t [.slice a n c] = some x) : n ≤ c := by
 rcases open_slice ht h with ⟨h0, _⟩ | ⟨ad, len, cap, m, k, D, Pl, h0, hb, hl, hm, hmm, rfl, hx⟩
 · simp only [List.cons.injEq, and_true, Value.slice.injEq] at h0
   omega
 · simp only [List.cons.injEq, and_true, Value.slice.injEq] at h0
   obtain ⟨_, rfl, rfl⟩ := h0
   simp only [if_true] at hmm
   omega
theorem mem_take8 : ∀ (L : List Mem) (k : Nat), (L.flatMap memCells).take (k * 8) = (L.take k).flatMap memCells
 | [], k => by simp
 | x :: L, 0 => by simp
 | x :: L, k + 1 => by
   rw [List.flatMap_cons, List.take_succ_cons, List.flatMap_cons, ← mem_take8 L k]
   have : (memCells x).length = 8 := by simp [memCells]
   rw [List.take_append, this, List.take_of_length_le (by rw [this]; omega), show (k + 1) * 8 - 8 = k * 8 by omega]
theorem MemsAt.take {w : World} {a : Option Addr} {n c : Nat} {L : List Mem} (h : MemsAt w (.slice a n c) L) (hn : L.length = n) {k : Nat} (hk : k ≤ n) : MemsAt w (.slice a k c) (L.take k) := by
 have hl : (L.take k).length = k := by rw [List.length_take]; omega
 have hc := h.cells
 rw [hn] at hc
 refine ⟨⟨a, c, by rw [hl]⟩, ?_, fun x hx => h.each x (List.mem_of_mem_take hx)⟩
 rw [hl, ← mem_take8]
 have hcl := hc.1
 refine ⟨by rw [List.length_take, hcl]; omega, fun u hu => hc.2.1 u (List.mem_of_mem_take hu), ?_⟩
 rcases hc.2.2 with ⟨a', c', e, h0⟩ | ⟨b, off, cap, e, h1⟩
 · left
   simp only [Value.slice.injEq] at e
   have : k = 0 := by omega
   subst this
   exact ⟨a, c, rfl, rfl⟩
 · right
   simp only [Value.slice.injEq] at e
   obtain ⟨rfl, _, rfl⟩ := e
   exact ⟨b, off, c, rfl, fun j u hj => by
    have hjk : j < k * 8 := by
     have := (List.getElem?_eq_some_iff.1 hj).1
     rw [List.length_take] at this; omega
    rw [List.getElem?_take_of_lt hjk] at hj
    exact h1 j u hj⟩
theorem law_joins (am : Option Addr) (N cm : Nat) (Ms : List Mem) (at' : Option Addr) (nt ct : Nat) (Ts : List Shr) (gen : Int) (w0 : World) (hm : MemsAt w0 (.slice am N cm) Ms) (hN : Ms.length = N) (ht : ShrsAt w0 (.slice at' nt ct) Ts) (hT : Ts.length = nt)
 (hg : isI32 gen) (hmd : ∀ m ∈ Ms, MemRd w0 m) (htd : ∀ t ∈ Ts, t.top.size ≤ maxLen) (hb : N ≤ maxLen ∧ nt ≤ maxLen) (hcap : N ≤ cm) :
 Calls Tryz.prog 7 #[.slice am N cm, .slice at' nt ct, .int .i32 gen] w0 fun e w' => e = .returned (.bool true) ∧ Kept [] w0 w' := by
 have hmx : maxLen = 9223372036854775807 := rfl
 have hf2 := fits2_any am N cm Ms w0 hm hN hb.1 (fun m hmM => ⟨(hmd m hmM).ln.1, (hmd m hmM).ln.2.2⟩)
 have hf5 := fun W (k : Kept [] w0 W) => fits5 (.slice at' nt ct) Ts W (ht.kept k (by simp) (by simp)) (by omega)
 have hgf := fun W (k : Kept [] w0 W) => groupFits_any am N cm Ms at' nt ct Ts W (hm.keptW k) hN (ht.kept k (by simp) (by simp)) hT (fun m hmM => (hmd m hmM).kept0 k) htd ⟨hb.1, hb.2⟩
 have hak := fun W (k : Kept [] w0 W) (h : GFit Ms Ts) => ask_any am N cm Ms at' nt ct Ts W (hm.keptW k) hN (ht.kept k (by simp) (by simp)) hT (by have := h.m6; have := h.t6; omega) (fun m hmM => (hmd m hmM).ln.1)
 have HC := Zhd (Zan hf2 (Zan hf5 (Zan hgf hak))); clear hf2 hf5 hgf hak
 have HAL := Zhd alive
 have HM0 := Zhd (Zan hm (Zan hN (Zan ht (Zan hT (Zan hg hmd))))); clear hm hN ht hT hg hmd htd
 by_cases h2n : (N : Int) < 2
 · go_enter Tryz.func7, Tryz.ntmps7
   go_wp2_with (first
    | (go_at_call 12; refine HC.out.1.mono ?_; rintro e w1 ⟨⟨b1, rfl⟩, hk1⟩; cases b1)
    | (go_at_call 13; refine (HC.out.2.1 _ hk1).mono ?_; rintro e w2 ⟨⟨b2, rfl⟩, hk2⟩; have hk3 := hk1.trans hk2 (U := []) (by simp) (by simp); cases b2)
    | (go_at_call 15; refine (HC.out.2.2.1 _ hk3).mono ?_; rintro e w4 ⟨⟨rfl, hg⟩ | rfl, hk4⟩ <;> have hk5 := hk3.trans hk4 (U := []) (by simp) (by simp))
    | (go_at_call 16; refine (HC.out.2.2.2 _ hk5 hg).mono ?_; rintro e w6 ⟨⟨rfl, ha⟩ | rfl, hk6⟩ <;> have hk7 := hk5.trans hk6 (U := []) (by simp) (by simp))
    | (go_at_call 14; refine (HAL.out _).mono ?_; rintro e w8 ⟨rfl, hk8⟩; first | have hk9 := hk7.trans hk8 (U := []) (by simp) (by simp) | have hk9 := hk5.trans hk8 (U := []) (by simp) (by simp))
    | fail)
   all_goals
    go_ret
    first | exact ⟨rfl, hk9⟩ | exact ⟨rfl, hk3⟩ | exact ⟨rfl, hk1⟩
 by_cases hneg : gen < 0
 · go_enter Tryz.func7, Tryz.ntmps7
   go_wp2_with (first
    | (go_at_call 12; refine HC.out.1.mono ?_; rintro e w1 ⟨⟨b1, rfl⟩, hk1⟩; cases b1)
    | (go_at_call 13; refine (HC.out.2.1 _ hk1).mono ?_; rintro e w2 ⟨⟨b2, rfl⟩, hk2⟩; have hk3 := hk1.trans hk2 (U := []) (by simp) (by simp); cases b2)
    | (go_at_call 15; refine (HC.out.2.2.1 _ hk3).mono ?_; rintro e w4 ⟨⟨rfl, hg⟩ | rfl, hk4⟩ <;> have hk5 := hk3.trans hk4 (U := []) (by simp) (by simp))
    | (go_at_call 16; refine (HC.out.2.2.2 _ hk5 hg).mono ?_; rintro e w6 ⟨⟨rfl, ha⟩ | rfl, hk6⟩ <;> have hk7 := hk5.trans hk6 (U := []) (by simp) (by simp))
    | (go_at_call 14; refine (HAL.out _).mono ?_; rintro e w8 ⟨rfl, hk8⟩; first | have hk9 := hk7.trans hk8 (U := []) (by simp) (by simp) | have hk9 := hk5.trans hk8 (U := []) (by simp) (by simp))
    | fail)
   all_goals
    go_ret
    first | exact ⟨rfl, hk9⟩ | exact ⟨rfl, hk3⟩ | exact ⟨rfl, hk1⟩
 · go_enter Tryz.func7, Tryz.ntmps7
   go_upto_region 3 with (first
    | (go_at_call 12; refine HC.out.1.mono ?_; rintro e w1 ⟨⟨b1, rfl⟩, hk1⟩; cases b1)
    | (go_at_call 13; refine (HC.out.2.1 _ hk1).mono ?_; rintro e w2 ⟨⟨b2, rfl⟩, hk2⟩; have hk3 := hk1.trans hk2 (U := []) (by simp) (by simp); cases b2)
    | fail)
   · go_wp2
     go_ret
     exact ⟨rfl, hk1⟩
   · go_wp2
     go_ret
     exact ⟨rfl, hk3⟩
   go_upto_region 5 with (first
    | (go_at_call 15; refine (HC.out.2.2.1 _ hk3).mono ?_; rintro e w4 ⟨⟨rfl, hg⟩ | rfl, hk4⟩ <;> have hk5 := hk3.trans hk4 (U := []) (by simp) (by simp))
    | (go_at_call 16; refine (HC.out.2.2.2 _ hk5 hg).mono ?_; rintro e w6 ⟨⟨rfl, ha⟩ | rfl, hk6⟩ <;> have hk7 := hk5.trans hk6 (U := []) (by simp) (by simp))
    | fail)
   rotate_left
   all_goals try
    go_wp2_with (first
     | (go_at_call 14; refine (HAL.out _).mono ?_; rintro e w8 ⟨rfl, hk8⟩; first | have hk9 := hk7.trans hk8 (U := []) (by simp) (by simp) | have hk9 := hk5.trans hk8 (U := []) (by simp) (by simp))
     | fail)
    go_ret
    exact ⟨rfl, hk9⟩
   have hfa : FitA Ms Ts := ⟨hg, ha⟩
   clear HC hg ha hk1 hk2 hk3 hk4 hk5 hk6
   have hN := HM0.out.2.1
   have hT := HM0.out.2.2.2.1
   obtain ⟨k, hk⟩ : ∃ k, N = k + 1 := ⟨N - 1, by omega⟩
   subst hk
   have hN6 : k ≤ 5 := by have := hfa.g.m6; omega
   have hk1 : 1 ≤ k := by omega
   have hnt6 : nt ≤ 6 := by have := hfa.g.t6; omega
   obtain ⟨gm, om, rfl⟩ : ∃ gm om, am = some ⟨gm, om, none⟩ := by
    have h1 := HM0.out.1.cells
    rw [hN] at h1
    rcases h1.2.2 with ⟨_, _, _, h0⟩ | ⟨b, off, cap, h2, _⟩
    · omega
    · simp only [Value.slice.injEq] at h2
      exact ⟨b, off, h2.1⟩
   have hkl : (Ms.take k).length = k := by rw [List.length_take]; omega
   have hfs := hfa.take hk1 (show k ≤ Ms.length by omega)
   have hmk := fun W (k' : Kept [] w6 W) => (HM0.out.1.keptW (hk7.trans k' (U := []) (by simp) (by simp))).take hN (Nat.le_succ k)
   have hgs := group_sticky (some ⟨gm, om, none⟩) cm (Ms.take k) at' ct Ts (fun _ => []) (fun _ => 0) w6 (by rw [hkl]; exact hmk _ (Kept.refl _ _)) (by rw [hT]; exact HM0.out.2.2.1.kept hk7 (by simp) (by simp)) hfs.stin
   rw [hkl, hT] at hgs
   have HG := Zhd hgs; clear hgs
   have b0 : (0 : Int) ≤ (k : Int) := by omega
   have b6 : (k : Int) ≤ (cm : Int) := by omega
   have b7 : (k : Int) + 1 - 1 = (k : Int) := by omega
   have b8 : IntKind.i64.wrap (k : Int) = (k : Int) := by rw [IntKind.wrap_i64]; omega
   go_upto_region 7 with (first
    | (go_at_call 18
       refine HG.out.mono ?_
       rintro e w ⟨A, S, ap, cp, rfl, hA1, hA2, hA3, hL, _, _, hk8⟩
       obtain ⟨np, hn⟩ : ∃ n, S.length = n := ⟨_, rfl⟩
       rw [hn] at hL ⊢)
    | fail)
   have hpl : PlanL (Ms.take k) Ts S := ⟨A, hA1, hA2, hA3⟩
   have hpb := hpl.len hfs
   have hkw := hk7.trans hk8 (U := []) (by simp) (by simp)
   have hto := told_own (some ⟨gm, om, none⟩) k cm (Ms.take k) ap np cp S gen w (hmk w hk8) hkl hL hn HM0.out.2.2.2.2.1 ⟨by omega, by omega, by have := hpb.1; omega⟩ (fun m _ => hpl.own hfs _ _)
   have HT := Zhd (Zan hto (Zan hpl (Zan hpb (Zan hL (Zan hn hkw))))); clear hto HG hpl hpb hL hn hkw hk7 hk8 hA1 hA2 hA3 hfs hmk
   go_upto_region 10 with (first
    | (go_at_call 24
       refine HT.out.1.mono ?_
       rintro e w3 ⟨Ms', g5, c5, rfl, hrow, hN', hg5, hms', htl, hk3⟩)
    | fail)
   obtain ⟨mn, hmn⟩ : ∃ mn, Ms[k]? = some mn := ⟨_, List.getElem?_eq_getElem (by omega)⟩
   obtain ⟨Old', Gen', hsi, hgp⟩ := PlanL.join hfa hk1 hmn hN HT.out.2.1 HM0.out.2.2.2.2.1 hN' htl
   have hkw3 := HT.out.2.2.2.2.2.trans hk3 (U := []) (by simp) (by simp)
   obtain ⟨gm', om', ta, tc, da, dc, oa, oc, hgm, e1, e2, e3, hcm⟩ := mem_at HM0.out.1 hN hmn
   simp only [Option.some.injEq, Addr.mk.injEq] at hgm
   obtain ⟨rfl, rfl, _⟩ := hgm
   obtain ⟨k0, k1, k2, k3, k4, k5, k6, k7⟩ := hcm w3 hkw3
   have hmn0 := (HM0.out.1.each mn (List.mem_of_getElem? hmn))
   have hgb : w0.heap.size ≤ g5 := by have := HT.out.2.2.2.2.2.size; omega
   have hsl := (new_sl8 w3 30 (.string mn.id) (.int .i16 mn.ver) (.slice ta mn.tops.length tc) (.slice da mn.data.length dc) (.slice oa mn.owned.length oc) (.int .i32 mn.gen) (.string mn.rack) (.bool mn.has) rfl).src Tryz.underlying22
   have hmc : memCells mn = [.string mn.id, .int .i16 mn.ver, .slice ta mn.tops.length tc, .slice da mn.data.length dc, .slice oa mn.owned.length oc, .int .i32 mn.gen, .string mn.rack, .bool mn.has] := by
    unfold memCells; rw [e1, e2, e3]
   have hnx : ∀ v' w5, w5.ownsRow 0 30 8 v' (k + 1) (Ms'.flatMap memCells ++ memCells mn) → Kept [g5] w3 w5 → ∃ a5 c6 Al, v' = .slice a5 (k + 1) c6 ∧ Al = Ms' ++ [mn] ∧ MemsAt w5 (.slice a5 (k + 1) c6) Al ∧ Al.length = k + 1 ∧ Kept [] w0 w5 ∧ Calls Tryz.prog 18 #[.int .i64 2, .slice a5 (k + 1) c6, .slice at' nt ct] w5 (GrpPostJ w5 Al Ts Old' mn.id) := fun v' w5 ho hk5 => by
    have hk0 : Kept [] w0 w5 := hkw3.trans hk5 (U := []) (by simp) (fun g hg hlt => by simp only [Zmc, Znn, or_false] at hg; omega)
    obtain ⟨a5, c6, rfl, hma, hal⟩ := joined_mems hN' hms' hk5 ho (hmn0.kept0 hk0)
    have hgs := group_join a5 c6 (Ms' ++ [mn]) at' ct Ts Old' Gen' mn.id w5 (by rw [hal]; exact hma) (by rw [hT]; exact HM0.out.2.2.1.kept hk0 (by simp) (by simp)) hsi
    rw [hal, hT] at hgs
    exact ⟨a5, c6, _, rfl, rfl, hma, hal, hk0, hgs⟩
   have hat : ∀ m ∈ Ms' ++ [mn], m.tops.length ≤ maxLen := fun m hm => by
    have h1 := (hsi.tops m hm).length_eq
    simp only [List.length_map] at h1
    omega
   have HJ := Zhd (Zan hrow (Zan hsl (Zan hmc (Zan hnx (Zan hgp (Zan hk3 hat)))))); clear hrow hsl hmc hnx hgp hsi hN' hms' htl hk3 hat e1 e2 e3 hcm hmn0 hkw3 hgb
   have hk1' : k + 1 ≤ 6 := by omega
   generalize Ms'.flatMap memCells = xs at *
   go_upto_region 11 with (first
    | (refine wl_app (v := .slice (some ⟨g5, 0, none⟩) k c5) rfl rfl elMem rfl rfl (own_kept HJ.out.1 ((Kept.refl [] _).alloc _) (by simp)) HJ.out.2.1 (by omega) (by omega) ?_
       intro v' w5 ho hk5 _)
    | fail)
   have hk6 : Kept [g5] w3 w5 := ((Kept.refl [g5] w3).alloc _).trans hk5 (by simp) (by simp [Value.ownBlock])
   rw [← HJ.out.2.2.1] at ho
   obtain ⟨a5, c6, Al, rfl, hAl, hma, hal, hk0, hgs⟩ := HJ.out.2.2.2.1 v' w5 ho hk6
   have HG := Zhd hgs; clear hgs
   go_upto_region 12 with (first
    | (go_at_call 18
       refine HG.out.mono ?_
       rintro e w6 ⟨A2, S2, a2, c2, rfl, hB1, hB2, hB3, hL2, _, _, hk7⟩
       obtain ⟨n2, hn2⟩ : ∃ n, S2.length = n := ⟨_, rfl⟩
       rw [hn2] at hL2 ⊢)
    | fail)
   subst hAl
   obtain ⟨hce, hb2n, hktt⟩ := HJ.out.2.2.2.2.1 S2 A2 hB1 hB2 hB3
   have hkw6 := hk0.trans hk7 (U := []) (by simp) (by simp)
   have hev := even_any a5 (k + 1) c6 (Ms' ++ [mn]) at' nt ct Ts a2 n2 c2 S2 w6 (hma.keptW hk7) hal (HM0.out.2.2.1.kept hkw6 (by simp) (by simp)) hT hL2 hn2 hce ⟨by omega, by omega⟩
    HJ.out.2.2.2.2.2.2 (fun x hx => by have := (hfa.g.tops x hx).p2; omega)
   have hL6 := HT.out.2.2.2.1.kept ((HJ.out.2.2.2.2.2.1.trans hk6 (U := []) (by simp) (fun g hg hlt => by
    simp only [Zmc, Znn, or_false] at hg; omega)).trans hk7 (U := []) (by simp) (by simp)) (by simp) (by simp)
   have HE := Zhd (Zan hev (Zan hktt (Zan hb2n (Zan hL2 (Zan hn2 (Zan hkw6 hL6)))))); clear hev hktt hb2n hL2 hn2 hkw6 hL6 hce hB1 hB2 hB3 hma hal hk0 hk6 hk7 hk5 ho
   go_upto_region 14 with (first
    | (go_at_call 25
       refine HE.out.1.mono ?_
       rintro e w7 ⟨rfl, hk7⟩)
    | fail)
   have hpn := HT.out.2.2.1
   have hn := HT.out.2.2.2.2.1
   have hkw7 := HE.out.2.2.2.2.2.1.trans hk7 (U := []) (by simp) (by simp)
   have hkk : ∀ m ∈ Ms.take k, ∀ W, Kept [] w7 W → Calls Tryz.prog 26 #[.string m.id, .slice a2 n2 c2, .slice ap np cp] W fun e w' => e = .returned (.bool true) ∧ Kept [] W w' := fun m hm W hW =>
    have h7 := hk7.trans hW (U := []) (by simp) (by simp)
    kept_any m.id a2 n2 c2 S2 ap np cp S W (HE.out.2.2.2.1.kept h7 (by simp) (by simp)) HE.out.2.2.2.2.1 (HE.out.2.2.2.2.2.2.kept h7 (by simp) (by simp)) hn ⟨by have := HE.out.2.2.1.1; have := HE.out.2.2.2.2.1; omega, by have := hpn.1; omega⟩ (fun x hx => by have := HE.out.2.2.1.2 x hx; omega) (fun x hx => by have := hpn.2 x hx; omega) (HE.out.2.1 m hm)
   have HK := Zhd (Zan hkk (Zan (HM0.out.1.keptW hkw7) hkw7)); clear hkk hkw7 hpn hn hk7 HE HG HT HJ
   go_wp2_with fail
   go_loopw [14] (fun i wr => KR1 w7 k i wr) (fun i _ => k - (intOf i).toNat)
   case atStart => exact ⟨Kept.refl _ _, 0, rfl, Nat.zero_le _⟩
   case round =>
    obtain ⟨hkr, j, rfl, hj⟩ := hrel
    by_cases hjn : j < k
    · obtain ⟨m, hmj⟩ : ∃ m, Ms[j]? = some m := ⟨_, List.getElem?_eq_getElem (by omega)⟩
      obtain ⟨gm, off, ta, tc, da, dc, oa, oc, hgm2, e1, e2, e3, hcm⟩ := mem_at HK.out.2.1 hN hmj
      simp only [Option.some.injEq, Addr.mk.injEq] at hgm2
      obtain ⟨rfl, rfl, _⟩ := hgm2
      have c0 := (hcm wr hkr).1
      have hjk : (j : Int) < (k : Int) := by omega
      have hmt : m ∈ Ms.take k := List.mem_of_getElem? (i := j) (by rw [List.getElem?_take_of_lt hjn]; exact hmj)
      have HJJ := Zhd (HK.out.1 m hmt); clear hmj e1 e2 e3 hcm hmt
      generalize m.id = mid at *
      go_wp2_with (first
       | (go_at_call 26
          refine (HJJ.out _ hkr).mono ?_
          rintro e w8 ⟨rfl, hk8⟩
          have hk9 := hkr.trans hk8 (U := []) (by simp) (by simp))
       | fail)
      exact ⟨⟨hk9, j + 1, by go_num, by omega⟩, by simp [intOf]; omega⟩
    · obtain rfl : j = k := by omega
      go_wp2_with (first
       | (go_at_call 14; refine (HAL.out _).mono ?_; rintro e w8 ⟨rfl, hk8⟩)
       | fail)
      go_ret
      exact ⟨rfl, (HK.out.2.2.trans hkr (U := []) (by simp) (by simp)).trans hk8 (by simp) (by simp)⟩
theorem law_joins_row (am : Option Addr) (cm : Nat) (Ms : List Mem) (at' : Option Addr) (ct : Nat) (Ts : List Shr) (gen : Int) (w : World) (hm : MemsAt w (.slice am Ms.length cm) Ms) (hml : Ms.length ≤ maxLen) (hmd : ∀ z ∈ Ms, MemRd w z) (hcap : Ms.length ≤ cm) (ht : ShrsAt w (.slice at' Ts.length ct) Ts) (htl : Ts.length ≤ maxLen)
 (htd : ∀ z ∈ Ts, z.mem.size ≤ maxLen ∧ z.top.size ≤ maxLen ∧ z.parts.length ≤ maxLen) (hg : (Lit.int .i32 gen).wf = true) :
 Calls Tryz.prog 7 #[.slice am Ms.length cm, .slice at' Ts.length ct, .int .i32 gen] w fun e w' => e = .returned (.bool true) ∧ Kept [] w w' := by
 simp [Lit.wf, IntKind.min, IntKind.max, IntKind.signed, IntKind.bits] at hg
 exact law_joins am _ cm Ms at' _ ct Ts gen w hm rfl ht rfl (by unfold isI32; omega) hmd (fun t h => (htd t h).2.1) ⟨hml, htl⟩ hcap
end
end Go.Proofs.YticcnlpfmekagaaGreat
