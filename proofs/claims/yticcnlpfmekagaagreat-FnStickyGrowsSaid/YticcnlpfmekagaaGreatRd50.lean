/- Part 50 of 51 of the proof of the row: the texts LawRnd. -/
import Derived.Test.YticcnlpfmekagaaGreatRd48
import Derived.Test.YticcnlpfmekagaaGreatRd44
import Derived.Test.YticcnlpfmekagaaGreatRd49
namespace Go.Proofs.YticcnlpfmekagaaGreat
open Go Go.Proofs Go.RowKit Go.Lib
set_option linter.unusedVariables false
set_option linter.unusedSimpArgs false

/-! ## FnStickyRounds (9) -/
def RndRel (w : World) (Ms : List Mem) (Ts : List Shr) (sn : Nat) (p gen i : Value) (wr : World) : Prop :=
  ∃ (k g : Nat) (L : List Shr) (a : Option Addr) (n c : Nat), p = .slice a n c ∧ L.length = n ∧ gen = .int .i32 g ∧ i = .int .i64 k ∧ k ≤ sn ∧ g ≤ k * 256 ∧ PlanL Ms Ts L ∧ ShrsAt wr (.slice a n c) L ∧ Kept [] w wr

theorem MemRd.kept0 {w w' : World} {m : Mem} (h : MemRd w m) (k : Kept [] w w') : MemRd w' m := ⟨h.at_.kept0 k, h.id, h.ver, h.gen, h.rack, h.data, h.ln, h.ow, h.tsz⟩

set_option maxRecDepth 100000 in
set_option maxHeartbeats 8000000 in
theorem law_rounds (am : Option Addr) (N cm : Nat) (Ms : List Mem) (at' : Option Addr) (nt ct : Nat) (Ts : List Shr) (a3 : Option Addr) (sn cs : Nat) (xs : List Int) (w : World) (hm : MemsAt w (.slice am N cm) Ms) (hN : Ms.length = N) (ht : ShrsAt w (.slice at' nt ct) Ts) (hT : Ts.length = nt)
    (hs : SlAt w 1 (.slice a3 sn cs) sn (xs.map (.int .u8))) (hsn : xs.length = sn) (hx : ∀ x ∈ xs, 0 ≤ x ∧ x < 256) (hmd : ∀ m ∈ Ms, MemRd w m) (htd : ∀ t ∈ Ts, t.top.size ≤ maxLen) (hb : N ≤ maxLen ∧ nt ≤ maxLen ∧ sn ≤ maxLen) :
    Calls Tryz.prog 9 #[.slice am N cm, .slice at' nt ct, .slice a3 sn cs] w fun e w' => e = .returned (.bool true) ∧ Kept [] w w' := by
  have hmx : maxLen = 9223372036854775807 := rfl
  have hf2 := fits2_any am N cm Ms w hm hN hb.1 (fun m hmM => ⟨(hmd m hmM).ln.1, (hmd m hmM).ln.2.2⟩)
  have hf5 := fun W (k : Kept [] w W) => fits5 (.slice at' nt ct) Ts W (ht.kept k (by simp) (by simp)) (by omega)
  have hgf := fun W (k : Kept [] w W) => groupFits_any am N cm Ms at' nt ct Ts W (hm.keptW k) hN (ht.kept k (by simp) (by simp)) hT (fun m hmM => (hmd m hmM).kept0 k) htd ⟨hb.1, hb.2.1⟩
  have hak := fun W (k : Kept [] w W) (h : GFit Ms Ts) => ask_any am N cm Ms at' nt ct Ts W (hm.keptW k) hN (ht.kept k (by simp) (by simp)) hT (by have := h.m6; have := h.t6; omega) (fun m hmM => (hmd m hmM).ln.1)
  have HC := Lib.hid (And.intro hf2 (And.intro hf5 (And.intro hgf hak))); clear hf2 hf5 hgf hak
  have HAL := Lib.hid alive
  have HM := Lib.hid (And.intro hm (And.intro hN (And.intro ht (And.intro hT (And.intro hs (And.intro hsn hx)))))); clear hm hN ht hT hs hsn hx hmd htd
  by_cases hbig : (2147483647 : Int) < (sn : Int)
  · go_enter Tryz.func9, Tryz.ntmps9
    go_wp2_with (first
      | (go_at_call 12; refine HC.out.1.mono ?_; rintro e w1 ⟨⟨b1, rfl⟩, hk1⟩; cases b1)
      | (go_at_call 13; refine (HC.out.2.1 _ hk1).mono ?_; rintro e w2 ⟨⟨b2, rfl⟩, hk2⟩; have hk3 := hk1.trans hk2 (U := []) (by simp) (by simp); cases b2)
      | fail)
    all_goals
      go_ret
      first | exact ⟨rfl, hk3⟩ | exact ⟨rfl, hk1⟩
  · go_enter Tryz.func9, Tryz.ntmps9
    go_upto_region 3 with (first
      | (go_at_call 12; refine HC.out.1.mono ?_; rintro e w1 ⟨⟨b1, rfl⟩, hk1⟩; cases b1)
      | (go_at_call 13; refine (HC.out.2.1 _ hk1).mono ?_; rintro e w2 ⟨⟨b2, rfl⟩, hk2⟩; have hk3 := hk1.trans hk2 (U := []) (by simp) (by simp); cases b2)
      | fail)
    · go_wp2
      go_ret
      exact ⟨rfl, hk1⟩
    · go_wp2
      go_ret
      exact ⟨rfl, hk3⟩
    · by_cases h5 : (5 : Int) < (sn : Int)
      · go_wp2_with (first
          | (go_at_call 15; refine (HC.out.2.2.1 _ hk3).mono ?_; rintro e w4 ⟨⟨rfl, hg⟩ | rfl, hk4⟩ <;> have hk5 := hk3.trans hk4 (U := []) (by simp) (by simp))
          | (go_at_call 16; refine (HC.out.2.2.2 _ hk5 hg).mono ?_; rintro e w6 ⟨⟨rfl, ha⟩ | rfl, hk6⟩ <;> have hk7 := hk5.trans hk6 (U := []) (by simp) (by simp))
          | (go_at_call 14; refine (HAL.out _).mono ?_; rintro e w8 ⟨rfl, hk8⟩; first | have hk9 := hk7.trans hk8 (U := []) (by simp) (by simp) | have hk9 := hk5.trans hk8 (U := []) (by simp) (by simp))
          | fail)
        all_goals
          go_ret
          exact ⟨rfl, hk9⟩
      · go_upto_region 5 with (first
          | (go_at_call 15; refine (HC.out.2.2.1 _ hk3).mono ?_; rintro e w4 ⟨⟨rfl, hg⟩ | rfl, hk4⟩ <;> have hk5 := hk3.trans hk4 (U := []) (by simp) (by simp))
          | (go_at_call 16; refine (HC.out.2.2.2 _ hk5 hg).mono ?_; rintro e w6 ⟨⟨rfl, ha⟩ | rfl, hk6⟩ <;> have hk7 := hk5.trans hk6 (U := []) (by simp) (by simp))
          | fail)
        · have hfa : FitA Ms Ts := ⟨hg, ha⟩
          clear HC hg ha hk1 hk2 hk3 hk4 hk5 hk6
          have hN := HM.out.2.1
          have hT := HM.out.2.2.2.1
          have hgs := group_sticky am cm Ms at' ct Ts (fun _ => []) (fun _ => 0) w6 (by rw [hN]; exact HM.out.1.keptW hk7) (by rw [hT]; exact HM.out.2.2.1.kept hk7 (by simp) (by simp)) hfa.stin
          rw [hN, hT] at hgs
          have HG := Lib.hid hgs; clear hgs
          go_upto_region 9 with (first
            | (go_at_call 18
               refine HG.out.mono ?_
               rintro e w8 ⟨A, L, a, c, rfl, hA1, hA2, hA3, hL, _, _, hk8⟩
               have hk9 := hk7.trans hk8 (U := []) (by simp) (by simp)
               obtain ⟨n, hn⟩ : ∃ n, L.length = n := ⟨_, rfl⟩
               rw [hn] at hL ⊢)
            | fail)
          have h0 : RndRel w Ms Ts sn (.slice a n c) (.int .i32 0) (.int .i64 0) w8 := ⟨0, 0, L, a, n, c, rfl, hn, rfl, rfl, Nat.zero_le _, Nat.zero_le _, ⟨A, hA1, hA2, hA3⟩, hL, hk9⟩
          have H0 := Lib.hid h0; clear h0 hA1 hA2 hA3 hL hk8 hk9 hk7 HG hn
          go_wp2_with fail
          go_loopw [7, 9, 10] (fun p g i wr => RndRel w Ms Ts sn p g i wr) (fun _ _ i _ => sn - (intOf i).toNat)
          case atStart => exact H0.out
          case round =>
            clear H0
            obtain ⟨k, g, L, a, n, c, rfl, hn, rfl, rfl, hk, hg, hpl, hL, hkw⟩ := hrel
            by_cases hks : k < sn
            · obtain ⟨v, hv⟩ : ∃ v, xs[k]? = some v := ⟨_, List.getElem?_eq_getElem (by have := HM.out.2.2.2.2.2.1; omega)⟩
              have hv2 := HM.out.2.2.2.2.2.2 v (List.mem_of_getElem? hv)
              obtain ⟨q, rfl⟩ : ∃ q : Nat, v = q := ⟨v.toNat, by omega⟩
              obtain ⟨b, o2, cap, hva, hcl⟩ : ∃ b off cap, Value.slice a3 sn cs = .slice (some ⟨b, off, none⟩) sn cap ∧ ∀ j u, (xs.map (Value.int .u8))[j]? = some u → w.cell? ⟨b, off + j, none⟩ = some u := by
                rcases HM.out.2.2.2.2.1.2.2 with ⟨_, _, _, h0⟩ | h
                · omega
                · exact h
              simp only [Value.slice.injEq] at hva
              obtain ⟨rfl, _, rfl⟩ := hva
              have c5 := hkw.cell (hcl k (.int .u8 q) (by simp [hv])) (by simp)
              have hki : (k : Int) < (sn : Int) := by omega
              have hw0 : IntKind.i32.wrap (q : Int) = (q : Int) := IntWalk.i32_in _ (by omega)
              have hw1 : IntKind.i32.wrap (1 + (q : Int)) = ((1 + q : Nat) : Int) := by rw [IntWalk.i32_in _ (by omega)]; omega
              have hw2 : IntKind.i32.wrap ((g : Int) + ((1 + q : Nat) : Int)) = ((g + (1 + q) : Nat) : Int) := by rw [IntWalk.i32_in _ (by omega)]; omega
              have hgi : isI32 ((g + (1 + q) : Nat) : Int) := by unfold isI32; omega
              have hpn := hpl.len hfa
              have hto := told_any am N cm Ms a n c L ((g + (1 + q) : Nat) : Int) wr (HM.out.1.keptW hkw) HM.out.2.1 hL hn hgi ⟨by have := hfa.g.m1; have := HM.out.2.1; omega, by have := hfa.g.m6; have := HM.out.2.1; omega, by omega⟩ (fun m _ => hpl.own hfa _ _)
              have HR := Lib.hid (And.intro hto (And.intro hL (And.intro hn (And.intro hpl (And.intro hgi hpn))))); clear hto hL hn hpl hgi hpn hcl hv
              go_upto_region 14 with (first
                | (go_at_call 24
                   refine HR.out.1.mono ?_
                   rintro e w1 ⟨Ms', a5, c6, rfl, hm', hN', _, _, htl, hk1⟩)
                | fail)
              obtain ⟨Old', hst, hnx⟩ := HR.out.2.2.2.1.next hfa HR.out.2.2.2.2.1 (hN'.trans HM.out.2.1.symm) htl
              have hkw1 := hkw.trans hk1 (U := []) (by simp) (by simp)
              have hgs := group_sticky a5 c6 Ms' at' ct Ts Old' (fun _ => ((g + (1 + q) : Nat) : Int)) w1 (by rw [hN']; exact hm') (by rw [hT]; exact HM.out.2.2.1.kept hkw1 (by simp) (by simp)) hst
              rw [hN', hT] at hgs
              have HG := Lib.hid (And.intro hgs hnx); clear hgs hnx hst htl hm' hN'
              go_upto_region 19 with (first
                | (go_at_call 18
                   refine HG.out.1.mono ?_
                   rintro e w2 ⟨A2, L2, a2, c2, rfl, hA1, hA2, hA3, hL2, _, _, hk2⟩
                   have hkw2 := hkw1.trans hk2 (U := []) (by simp) (by simp)
                   obtain ⟨n2, hn2⟩ : ∃ n2, L2.length = n2 := ⟨_, rfl⟩
                   rw [hn2] at hL2 ⊢)
                | fail)
              obtain ⟨hpl2, hkt⟩ := HG.out.2 L2 A2 hA1 hA2 hA3
              have hp2 := hpl2.len hfa
              have hLw := HR.out.2.1.kept (hk1.trans hk2 (U := []) (by simp) (by simp)) (by simp) (by simp)
              have hbn := HR.out.2.2.2.2.2
              have hnn := HR.out.2.2.1
              have hkk : ∀ m ∈ Ms, ∀ W, Kept [] w2 W → (Calls Tryz.prog 26 #[.string m.id, .slice a n c, .slice a2 n2 c2] W fun e w' => e = .returned (.bool true) ∧ Kept [] W w') ∧ (Calls Tryz.prog 26 #[.string m.id, .slice a2 n2 c2, .slice a n c] W fun e w' => e = .returned (.bool true) ∧ Kept [] W w') := fun m hm W hW =>
                ⟨kept_any m.id a n c L a2 n2 c2 L2 W (hLw.kept hW (by simp) (by simp)) hnn (hL2.kept hW (by simp) (by simp)) hn2 (by omega) (fun x hx => by have := hbn.2 x hx; omega) (fun x hx => by have := hp2.2 x hx; omega) (hkt m.id (List.mem_map_of_mem (f := fun m : Mem => m.id) hm)).1,
                 kept_any m.id a2 n2 c2 L2 a n c L W (hL2.kept hW (by simp) (by simp)) hn2 (hLw.kept hW (by simp) (by simp)) hnn (by omega) (fun x hx => by have := hp2.2 x hx; omega) (fun x hx => by have := hbn.2 x hx; omega) (hkt m.id (List.mem_map_of_mem (f := fun m : Mem => m.id) hm)).2⟩
              have HI := Lib.hid (And.intro hkk (And.intro hpl2 (And.intro hL2 (And.intro hn2 hkw2)))); clear hkk hpl2 hL2 hn2 hkt hp2 hLw hbn hnn HG HR hA1 hA2 hA3 hk1 hk2 hkw1 hkw2 c5
              go_wp2_with fail
              go_loopw [15] (fun i wr' => KR1 w2 N i wr') (fun i _ => N - (intOf i).toNat)
              case atStart => exact ⟨Kept.refl _ _, 0, rfl, Nat.zero_le _⟩
              case round =>
                obtain ⟨hk2, j, rfl, hj⟩ := hrel
                by_cases hjn : j < N
                · obtain ⟨m, hmj⟩ : ∃ m, Ms[j]? = some m := ⟨_, List.getElem?_eq_getElem (by have := HM.out.2.1; omega)⟩
                  obtain ⟨gm, off, ta, tc, da, dc, oa, oc, rfl, e1, e2, e3, hcm⟩ := mem_at HM.out.1 HM.out.2.1 hmj
                  have c0 := (hcm wr (HI.out.2.2.2.2.trans hk2 (by simp) (by simp))).1
                  have hc0 := fun W (hW : Kept [] wr W) => (hcm W (HI.out.2.2.2.2.trans (hk2.trans hW (U := []) (by simp) (by simp)) (by simp) (by simp))).1
                  have hjk : (j : Int) < (N : Int) := by omega
                  have HJ := Lib.hid (And.intro (HI.out.1 m (List.mem_of_getElem? hmj)) hc0); clear hmj e1 e2 e3 hcm hc0
                  generalize m.id = mid at *
                  go_wp2_with (first
                    | (go_at_call 26
                       refine ((HJ.out.1 _ hk4).2).mono ?_
                       rintro e w5 ⟨rfl, hk5⟩
                       have hk6 := hk4.trans hk5 (U := []) (by simp) (by simp))
                    | (go_at_call 26
                       refine ((HJ.out.1 _ hk2).1).mono ?_
                       rintro e w3 ⟨rfl, hk3⟩
                       have hk4 := hk2.trans hk3 (U := []) (by simp) (by simp)
                       have c1 := HJ.out.2 _ hk3)
                    | fail)
                  exact ⟨⟨hk6, j + 1, by go_num, by omega⟩, by simp [intOf]; omega⟩
                · obtain rfl : j = N := by omega
                  go_wp2_with fail
                  exact ⟨⟨k + 1, g + (1 + q), L2, a2, n2, c2, rfl, HI.out.2.2.2.1, rfl, by go_num, by omega, by omega, HI.out.2.1, HI.out.2.2.1.kept hk2 (by simp) (by simp), HI.out.2.2.2.2.trans hk2 (by simp) (by simp)⟩, by simp [intOf]; omega⟩
            · obtain rfl : k = sn := by omega
              clear hpl hL hn
              go_wp2_with (first
                | (go_at_call 14; refine (HAL.out _).mono ?_; rintro e w8 ⟨rfl, hk8⟩)
                | fail)
              go_ret
              exact ⟨rfl, hkw.trans hk8 (by simp) (by simp)⟩
        all_goals
          go_wp2_with (first
            | (go_at_call 14; refine (HAL.out _).mono ?_; rintro e w8 ⟨rfl, hk8⟩; first | have hk9 := hk7.trans hk8 (U := []) (by simp) (by simp) | have hk9 := hk5.trans hk8 (U := []) (by simp) (by simp))
            | fail)
          go_ret
          exact ⟨rfl, hk9⟩
theorem law_rounds_row (am : Option Addr) (cm : Nat) (Ms : List Mem) (at' : Option Addr) (ct : Nat) (Ts : List Shr) (a3 : Option Addr) (cs : Nat) (xs : List Int) (w : World) (hm : MemsAt w (.slice am Ms.length cm) Ms) (hml : Ms.length ≤ maxLen) (hmd : ∀ z ∈ Ms, MemRd w z) (ht : ShrsAt w (.slice at' Ts.length ct) Ts) (htl : Ts.length ≤ maxLen)
    (htd : ∀ z ∈ Ts, z.mem.size ≤ maxLen ∧ z.top.size ≤ maxLen ∧ z.parts.length ≤ maxLen) (hs : SlAt w 1 (.slice a3 xs.length cs) xs.length (xs.map (.int .u8))) (hsl : xs.length ≤ maxLen) (hx : ∀ x ∈ xs, 0 ≤ x ∧ x < 256) :
    Calls Tryz.prog 9 #[.slice am Ms.length cm, .slice at' Ts.length ct, .slice a3 xs.length cs] w fun e w' => e = .returned (.bool true) ∧ Kept [] w w' :=
  law_rounds am _ cm Ms at' _ ct Ts a3 _ cs xs w hm rfl ht rfl hs rfl hx hmd (fun t h => (htd t h).2.1) ⟨hml, htl, hsl⟩
end Go.Proofs.YticcnlpfmekagaaGreat
