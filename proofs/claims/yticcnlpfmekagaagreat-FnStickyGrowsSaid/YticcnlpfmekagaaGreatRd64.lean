/- Part of the proof of the row: the texts SubW, LawGr. -/
import Derived.Test.YticcnlpfmekagaaGreatRd62
import Derived.Test.YticcnlpfmekagaaGreatRd50
import Derived.Test.YticcnlpfmekagaaGreatRd42
namespace Go.Proofs.YticcnlpfmekagaaGreat
open Go Go.Proofs Go.RowKit Go.Lib
set_option linter.unusedVariables false
set_option linter.unusedSimpArgs false

/-! ## subscribed (23) -/
def SubPost (w : World) (N : Nat) (Ms : List Mem) (Ts : List Shr) (e : Ending) (w' : World) : Prop :=
  ∃ (tv : Value) (a : Option Addr) (c : Nat), e = .returned (.slice a N c) ∧ MemsAt w' (.slice a N c) (Ms.map (subM tv (Ts.map (·.top)))) ∧ Kept [] w w'
def SB1 (w : World) (Ts : List Shr) (kt : Nat) (v i : Value) (wr : World) : Prop := ∃ k : Nat, i = .int .i64 k ∧ k ≤ kt ∧ St [] w wr [Rs.row 9 1 v k (strs ((Ts.take k).map (·.top)))] []
def SB2 (w : World) (g c N kt : Nat) (Ms : List Mem) (lv : Value) (ts : List ByteArray) (i : Value) (wr : World) : Prop :=
  ∃ k : Nat, i = .int .i64 k ∧ k ≤ N ∧ St [] w wr [Rs.row 30 8 (.slice (some ⟨g, 0, none⟩) N c) N (((Ms.take k).map (subM lv ts) ++ Ms.drop k).flatMap memCells), Rs.row 9 1 lv kt (strs ts)] []
theorem set_midN {A B : List Mem} {m m' : Mem} {j : Nat} {u : Value} (hj : j < 8) (h : (memCells m).set j u = memCells m') {k : Nat} (hk : A.length = k) : ((A ++ m :: B).flatMap memCells).set (k * 8 + j) u = (A ++ m' :: B).flatMap memCells := by
  rw [List.flatMap_append, List.flatMap_append, List.flatMap_cons, List.flatMap_cons, ← h]
  rw [List.set_append_right _ _ (by rw [memCells_len, hk]; omega), memCells_len, hk]
  rw [show k * 8 + j - k * 8 = j by omega, List.set_append_left _ _ (by simp [memCells]; omega)]
set_option maxRecDepth 100000 in
set_option maxHeartbeats 8000000 in
theorem subscribed_any (am : Option Addr) (N cm : Nat) (Ms : List Mem) (at' : Option Addr) (kt ct : Nat) (Ts : List Shr) (w : World) (hm : MemsAt w (.slice am N cm) Ms) (hN : Ms.length = N) (ht : ShrsAt w (.slice at' kt ct) Ts) (hT : Ts.length = kt) (hb : 1 ≤ N ∧ N ≤ 1000 ∧ kt ≤ 1000) :
    Calls Tryz.prog 23 #[.slice am N cm, .slice at' kt ct] w (SubPost w N Ms Ts) := by
  have hst0 : St [] w w [] [] := St.start0 (Ow.nil w)
  have h10 : SB1 w Ts kt (.slice none 0 0) (.int .i64 0) w := ⟨0, rfl, Nat.zero_le _, by simpa [strs] using hst0.nilrow 9 1⟩
  have HM := Lib.hid (And.intro hm (And.intro hN (And.intro ht (And.intro hT h10)))); clear hm hN ht hT h10 hst0
  obtain ⟨hb1, hb2, hb3⟩ := hb
  go_enter Tryz.func23, Tryz.ntmps23
  go_wp2_with fail
  go_loopw [5, 6] (fun v i wr => SB1 w Ts kt v i wr) (fun _ i _ => kt - (intOf i).toNat)
  case atStart => exact HM.out.2.2.2.2
  case round =>
    obtain ⟨k, rfl, hk, hst⟩ := hrel
    by_cases hkn : k < kt
    · obtain ⟨x, hx⟩ : ∃ x, Ts[k]? = some x := ⟨_, List.getElem?_eq_getElem (by have := HM.out.2.2.2.1; omega)⟩
      obtain ⟨gt, ot, va, vc, rfl, hv, hct⟩ := shr_at HM.out.2.2.1 HM.out.2.2.2.1 hx
      obtain ⟨d0, d1, d2⟩ := hct wr hst.kept
      have hki : (k : Int) < (kt : Int) := by omega
      have hsn : strs ((Ts.take k).map (·.top)) ++ [.string x.top] = strs ((Ts.take (k + 1)).map (·.top)) := by rw [take_snoc' hx]; simp [strs]
      have HX := Lib.hid (And.intro hct hsn); clear hct hsn hv hx
      go_wp2_with (first
        | (refine wl_build1 (x := .string x.top) rfl rfl rfl (build_str x.top _) ?_)
        | (refine wl_push 0 rfl rfl elStr rfl rfl (hst.alloc _) rfl ((new_str _ (.string x.top) rfl).src Tryz.underlying27) (by omega) (by omega) ?_
           intro v' w2 hst2
           simp only [List.set_cons_zero] at hst2
           rw [HX.out.2] at hst2)
        | fail)
      exact ⟨⟨k + 1, by go_num, by omega, hst2⟩, by simp [intOf]; omega⟩
    · obtain rfl : kt = k := by omega
      rw [List.take_of_length_le (by have := HM.out.2.2.2.1; omega)] at hst
      obtain ⟨la, ln, lc, rfl⟩ := own_form (show wr.ownsRow 0 9 1 u5 kt _ from hst.m 0 rfl)
      obtain rfl : kt = ln := by first | exact own_len (show wr.ownsRow 0 9 1 _ kt _ from hst.m 0 rfl) | exact (own_len (show wr.ownsRow 0 9 1 _ kt _ from hst.m 0 rfl)).symm
      have hst1 := hst.made 30 8 0 [] rfl (by decide)
      have hms := HM.out.1.cells
      rw [HM.out.2.1] at hms
      have hsrc := (hms.kept (hst1.kept) (by simp)).src Tryz.underlying22
      clear hms
      go_upto_region 7 with (first
        | (refine wl_push 0 rfl rfl elMem rfl rfl hst1 rfl hsrc (by omega) (by omega) ?_
           intro v' w2 hst2
           simp only [List.set_cons_zero, List.nil_append, Nat.zero_add] at hst2)
        | fail)
      obtain ⟨g, c, rfl⟩ := own_some (hst2.m 0 rfl) (by omega)
      have h20 : SB2 w g c N kt Ms (.slice la kt lc) (Ts.map (·.top)) (.int .i64 0) w2 := ⟨0, rfl, Nat.zero_le _, by simpa using hst2⟩
      have H20 := Lib.hid h20; clear h20 hst2 hst1 hst hsrc
      go_wp2_with fail
      go_loopw [8] (fun i wr' => SB2 w g c N kt Ms (.slice la kt lc) (Ts.map (·.top)) i wr') (fun i _ => N - (intOf i).toNat)
      case atStart => exact H20.out
      case round =>
        obtain ⟨k, rfl, hk, hst⟩ := hrel
        clear H20
        by_cases hkn : k < N
        · obtain ⟨m, hmk⟩ : ∃ m, Ms[k]? = some m := ⟨_, List.getElem?_eq_getElem (by have := HM.out.2.1; omega)⟩
          have hki : (k : Int) < (N : Int) := by omega
          obtain ⟨h1, h2⟩ := List.getElem?_eq_some_iff.1 hmk
          rw [List.drop_eq_getElem_cons h1, h2] at hst
          have hlk : ((Ms.take k).map (subM (.slice la kt lc) (Ts.map (·.top)))).length = k := by rw [List.length_map, List.length_take]; omega
          have hmg : ((Ms.take k).map (subM (.slice la kt lc) (Ts.map (·.top))) ++ m :: Ms.drop (k + 1))[k]? = some m := by rw [List.getElem?_append_right (by omega), hlk]; simp
          have hoc := own_cell (j := k * 8 + 2) (hst.m 0 rfl) (mem_get hmg 2 (by omega))
          obtain ⟨hoc1, hoc2⟩ := hoc
          have hst2 := hst.setRow 0 rfl (k * 8 + 2) (.slice la kt lc)
          rw [set_midN (m' := subM (.slice la kt lc) (Ts.map (·.top)) m) (by omega) rfl hlk] at hst2
          simp only [List.set_cons_zero] at hst2
          have e : (Ms.take k).map (subM (.slice la kt lc) (Ts.map (·.top))) ++ subM (.slice la kt lc) (Ts.map (·.top)) m :: Ms.drop (k + 1) = (Ms.take (k + 1)).map (subM (.slice la kt lc) (Ts.map (·.top))) ++ Ms.drop (k + 1) := by
            rw [take_snoc' hmk, List.map_append, List.append_assoc]; rfl
          rw [e] at hst2
          have hnx : SB2 w g c N kt Ms (.slice la kt lc) (Ts.map (·.top)) (.int .i64 ((k : Nat) + 1)) (wr.setCell ⟨g, k * 8 + 2, none⟩ (.slice la kt lc)) := ⟨k + 1, by go_num, by omega, hst2⟩
          have HNX := Lib.hid hnx; clear hnx hst2 e hst hmg hlk h2
          go_wp2_with fail
          exact ⟨HNX.out, by simp [intOf]; omega⟩
        · obtain rfl : N = k := by omega
          have hNl := HM.out.2.1
          rw [List.take_of_length_le (by omega), List.drop_of_length_le (by omega), List.append_nil] at hst
          have hrow : wr.ownsRow 0 30 8 (.slice (some ⟨g, 0, none⟩) N c) N ((Ms.map (subM (.slice la kt lc) (Ts.map (·.top)))).flatMap memCells) := hst.m 0 rfl
          have hstr : wr.ownsRow 0 9 1 (.slice la kt lc) kt (strs (Ts.map (·.top))) := hst.m 1 rfl
          have hlt : SlStrs wr (.slice la kt lc) (Ts.map (·.top)) := by
            have hTl := HM.out.2.2.2.1
            refine ⟨⟨la, lc, by rw [List.length_map, hTl]⟩, ?_⟩
            rw [List.length_map, hTl]
            exact own_sl hstr (fun u hu => by obtain ⟨x, _, rfl⟩ := List.mem_map.1 hu; rfl)
          have heach : ∀ m' ∈ Ms.map (subM (.slice la kt lc) (Ts.map (·.top))), MemAt wr m' := fun m' hm' => by
            obtain ⟨m, hmM, rfl⟩ := List.mem_map.1 hm'
            have h0 := (HM.out.1.each m hmM).kept0 hst.kept
            exact ⟨hlt, h0.data, h0.owned⟩
          have hfin : SubPost w N Ms Ts (.returned (.slice (some ⟨g, 0, none⟩) N c)) wr := ⟨_, _, c, rfl, ⟨⟨_, _, by rw [List.length_map, hNl]⟩, by rw [List.length_map, hNl]; exact own_sl hrow (fun u hu => by
            obtain ⟨m', hm', hu⟩ := List.mem_flatMap.1 hu
            exact mem_one (heach m' hm') u hu), heach⟩, hst.kept⟩
          have HFN := Lib.hid hfin; clear hfin hrow hstr hlt heach hst
          go_wp2_with fail
          go_ret
          exact HFN.out
end Go.Proofs.YticcnlpfmekagaaGreat
namespace Go.Proofs.YticcnlpfmekagaaGreat
open Go Go.Proofs Go.RowKit Go.Lib Go.Deep
set_option linter.unusedVariables false
set_option linter.unusedSimpArgs false

/-! ## FnStickyGrows (6) -/
theorem open_cap {H : Type} {enc : TypeId × Value → H} {w : World} {t e : TypeId} {fuel : Nat} {a : Option Addr} {n c : Nat} {x : DataW H × List MemPlace} (ht : Tryz.prog.underlying t = some (.slice e)) (h : DataW.trod enc Tryz.prog w 0 (fun _ => true) true fuel t [.slice a n c] = some x) : n ≤ c := by
  rcases open_slice ht h with ⟨h0, _⟩ | ⟨ad, len, cap, m, k, D, Pl, h0, hb, hl, hm, hmm, rfl, hx⟩
  · simp only [List.cons.injEq, and_true, Value.slice.injEq] at h0
    omega
  · simp only [List.cons.injEq, and_true, Value.slice.injEq] at h0
    obtain ⟨_, rfl, rfl⟩ := h0
    simp only [if_true] at hmm
    omega
theorem shr_take3 : ∀ (L : List Shr) (k : Nat), (L.flatMap shrCells).take (k * 3) = (L.take k).flatMap shrCells
  | [], k => by simp
  | x :: L, 0 => by simp
  | x :: L, k + 1 => by
    rw [List.flatMap_cons, List.take_succ_cons, List.flatMap_cons, ← shr_take3 L k]
    have : (shrCells x).length = 3 := rfl
    rw [List.take_append, this, List.take_of_length_le (by rw [this]; omega), show (k + 1) * 3 - 3 = k * 3 by omega]
theorem ShrsAt.take {w : World} {a : Option Addr} {n c : Nat} {L : List Shr} (h : ShrsAt w (.slice a n c) L) (hn : L.length = n) {k : Nat} (hk : k ≤ n) : ShrsAt w (.slice a k c) (L.take k) := by
  have hl : (L.take k).length = k := by rw [List.length_take]; omega
  have hc := h.cells
  rw [hn] at hc
  refine ⟨⟨a, c, by rw [hl]⟩, ?_, fun x hx => h.parts x (List.mem_of_mem_take hx)⟩
  rw [hl, ← shr_take3]
  have hcl := hc.1
  refine ⟨by rw [List.length_take, hcl]; omega, fun u hu => hc.2.1 u (List.mem_of_mem_take hu), ?_⟩
  rcases hc.2.2 with ⟨a', c', e, h0⟩ | ⟨b, off, cap, e, h1⟩
  · left
    simp only [Value.slice.injEq] at e
    have : k = 0 := by omega
    subst this
    exact ⟨a, c, rfl, rfl⟩
  · right
    simp only [Value.slice.injEq] at e
    obtain ⟨rfl, _, rfl⟩ := e
    exact ⟨b, off, c, rfl, fun j u hj => by
      have hjk : j < k * 3 := by
        have := (List.getElem?_eq_some_iff.1 hj).1
        rw [List.length_take] at this; omega
      rw [List.getElem?_take_of_lt hjk] at hj
      exact h1 j u hj⟩

set_option maxRecDepth 100000 in
set_option maxHeartbeats 8000000 in
theorem law_grows (am : Option Addr) (N cm : Nat) (Ms : List Mem) (at' : Option Addr) (nt ct : Nat) (Ts : List Shr) (gen : Int) (w0 : World) (hm : MemsAt w0 (.slice am N cm) Ms) (hN : Ms.length = N) (ht : ShrsAt w0 (.slice at' nt ct) Ts) (hT : Ts.length = nt)
    (hg : isI32 gen) (hmd : ∀ m ∈ Ms, MemRd w0 m) (htd : ∀ t ∈ Ts, t.top.size ≤ maxLen) (hb : N ≤ maxLen ∧ nt ≤ maxLen) (hcap : nt ≤ ct) :
    Calls Tryz.prog 6 #[.slice am N cm, .slice at' nt ct, .int .i32 gen] w0 fun e w' => e = .returned (.bool true) ∧ Kept [] w0 w' := by
  have hmx : maxLen = 9223372036854775807 := rfl
  have hf2 := fits2_any am N cm Ms w0 hm hN hb.1 (fun m hmM => ⟨(hmd m hmM).ln.1, (hmd m hmM).ln.2.2⟩)
  have hf5 := fun W (k : Kept [] w0 W) => fits5 (.slice at' nt ct) Ts W (ht.kept k (by simp) (by simp)) (by omega)
  have hgf := fun W (k : Kept [] w0 W) => groupFits_any am N cm Ms at' nt ct Ts W (hm.keptW k) hN (ht.kept k (by simp) (by simp)) hT (fun m hmM => (hmd m hmM).kept0 k) htd ⟨hb.1, hb.2⟩
  have hak := fun W (k : Kept [] w0 W) (h : GFit Ms Ts) => ask_any am N cm Ms at' nt ct Ts W (hm.keptW k) hN (ht.kept k (by simp) (by simp)) hT (by have := h.m6; have := h.t6; omega) (fun m hmM => (hmd m hmM).ln.1)
  have HC := Lib.hid (And.intro hf2 (And.intro hf5 (And.intro hgf hak))); clear hf2 hf5 hgf hak
  have HAL := Lib.hid alive
  have HM0 := Lib.hid (And.intro hm (And.intro hN (And.intro ht (And.intro hT (And.intro hg hmd))))); clear hm hN ht hT hg hmd htd
  by_cases h2n : (nt : Int) < 2
  · go_enter Tryz.func6, Tryz.ntmps6
    go_wp2_with (first
      | (go_at_call 12; refine HC.out.1.mono ?_; rintro e w1 ⟨⟨b1, rfl⟩, hk1⟩; cases b1)
      | (go_at_call 13; refine (HC.out.2.1 _ hk1).mono ?_; rintro e w2 ⟨⟨b2, rfl⟩, hk2⟩; have hk3 := hk1.trans hk2 (U := []) (by simp) (by simp); cases b2)
      | (go_at_call 15; refine (HC.out.2.2.1 _ hk3).mono ?_; rintro e w4 ⟨⟨rfl, hg⟩ | rfl, hk4⟩ <;> have hk5 := hk3.trans hk4 (U := []) (by simp) (by simp))
      | (go_at_call 16; refine (HC.out.2.2.2 _ hk5 hg).mono ?_; rintro e w6 ⟨⟨rfl, ha⟩ | rfl, hk6⟩ <;> have hk7 := hk5.trans hk6 (U := []) (by simp) (by simp))
      | (go_at_call 14; refine (HAL.out _).mono ?_; rintro e w8 ⟨rfl, hk8⟩; first | have hk9 := hk7.trans hk8 (U := []) (by simp) (by simp) | have hk9 := hk5.trans hk8 (U := []) (by simp) (by simp))
      | fail)
    all_goals
      go_ret
      first | exact ⟨rfl, hk9⟩ | exact ⟨rfl, hk3⟩ | exact ⟨rfl, hk1⟩
  by_cases hneg : gen < 0
  · go_enter Tryz.func6, Tryz.ntmps6
    go_wp2_with (first
      | (go_at_call 12; refine HC.out.1.mono ?_; rintro e w1 ⟨⟨b1, rfl⟩, hk1⟩; cases b1)
      | (go_at_call 13; refine (HC.out.2.1 _ hk1).mono ?_; rintro e w2 ⟨⟨b2, rfl⟩, hk2⟩; have hk3 := hk1.trans hk2 (U := []) (by simp) (by simp); cases b2)
      | (go_at_call 15; refine (HC.out.2.2.1 _ hk3).mono ?_; rintro e w4 ⟨⟨rfl, hg⟩ | rfl, hk4⟩ <;> have hk5 := hk3.trans hk4 (U := []) (by simp) (by simp))
      | (go_at_call 16; refine (HC.out.2.2.2 _ hk5 hg).mono ?_; rintro e w6 ⟨⟨rfl, ha⟩ | rfl, hk6⟩ <;> have hk7 := hk5.trans hk6 (U := []) (by simp) (by simp))
      | (go_at_call 14; refine (HAL.out _).mono ?_; rintro e w8 ⟨rfl, hk8⟩; first | have hk9 := hk7.trans hk8 (U := []) (by simp) (by simp) | have hk9 := hk5.trans hk8 (U := []) (by simp) (by simp))
      | fail)
    all_goals
      go_ret
      first | exact ⟨rfl, hk9⟩ | exact ⟨rfl, hk3⟩ | exact ⟨rfl, hk1⟩
  · go_enter Tryz.func6, Tryz.ntmps6
    go_upto_region 3 with (first
      | (go_at_call 12; refine HC.out.1.mono ?_; rintro e w1 ⟨⟨b1, rfl⟩, hk1⟩; cases b1)
      | (go_at_call 13; refine (HC.out.2.1 _ hk1).mono ?_; rintro e w2 ⟨⟨b2, rfl⟩, hk2⟩; have hk3 := hk1.trans hk2 (U := []) (by simp) (by simp); cases b2)
      | fail)
    · go_wp2
      go_ret
      exact ⟨rfl, hk1⟩
    · go_wp2
      go_ret
      exact ⟨rfl, hk3⟩
    go_upto_region 5 with (first
      | (go_at_call 15; refine (HC.out.2.2.1 _ hk3).mono ?_; rintro e w4 ⟨⟨rfl, hg⟩ | rfl, hk4⟩ <;> have hk5 := hk3.trans hk4 (U := []) (by simp) (by simp))
      | (go_at_call 16; refine (HC.out.2.2.2 _ hk5 hg).mono ?_; rintro e w6 ⟨⟨rfl, ha⟩ | rfl, hk6⟩ <;> have hk7 := hk5.trans hk6 (U := []) (by simp) (by simp))
      | fail)
    rotate_left
    all_goals try
      go_wp2_with (first
        | (go_at_call 14; refine (HAL.out _).mono ?_; rintro e w8 ⟨rfl, hk8⟩; first | have hk9 := hk7.trans hk8 (U := []) (by simp) (by simp) | have hk9 := hk5.trans hk8 (U := []) (by simp) (by simp))
        | fail)
      go_ret
      exact ⟨rfl, hk9⟩
    have hfa : FitA Ms Ts := ⟨hg, ha⟩
    clear HC hg ha hk1 hk2 hk3 hk4 hk5 hk6
    have hN := HM0.out.2.1
    have hT := HM0.out.2.2.2.1
    obtain ⟨kt, hkt⟩ : ∃ kt, nt = kt + 1 := ⟨nt - 1, by omega⟩
    subst hkt
    have hN6 : N ≤ 6 := by have := hfa.g.m6; omega
    have hN1 : 1 ≤ N := by have := hfa.g.m1; omega
    have hnt6 : kt ≤ 5 := by have := hfa.g.t6; omega
    have hkt1 : 1 ≤ kt := by omega
    obtain ⟨gt, ot, rfl⟩ : ∃ gt ot, at' = some ⟨gt, ot, none⟩ := by
      have h1 := HM0.out.2.2.1.cells
      rw [hT] at h1
      rcases h1.2.2 with ⟨_, _, _, h0⟩ | ⟨b, off, cap, h2, _⟩
      · omega
      · simp only [Value.slice.injEq] at h2
        exact ⟨b, off, h2.1⟩
    have hktl : (Ts.take kt).length = kt := by rw [List.length_take]; omega
    have htk := fun W (k : Kept [] w6 W) => (HM0.out.2.2.1.kept (hk7.trans k (U := []) (by simp) (by simp)) (by simp) (by simp)).take hT (Nat.le_succ kt)
    have hsb := fun W (k : Kept [] w6 W) => subscribed_any am N cm Ms (some ⟨gt, ot, none⟩) kt ct (Ts.take kt) W (HM0.out.1.keptW (hk7.trans k (U := []) (by simp) (by simp))) hN (htk W k) hktl ⟨hN1, by omega, by omega⟩
    have hgs : ∀ W (tv : Value) sa sc, Kept [] w6 W → MemsAt W (.slice sa N sc) (Ms.map (subM tv ((Ts.take kt).map (·.top)))) → Calls Tryz.prog 18 #[.int .i64 2, .slice sa N sc, .slice (some ⟨gt, ot, none⟩) kt ct] W (GrpPost W (Ms.map (subM tv ((Ts.take kt).map (·.top)))) (Ts.take kt) (fun _ => [])) := fun W tv sa sc k hms => by
      have hl : (Ms.map (subM tv ((Ts.take kt).map (·.top)))).length = N := by rw [List.length_map]; exact hN
      have h1 := group_sticky sa sc (Ms.map (subM tv ((Ts.take kt).map (·.top)))) (some ⟨gt, ot, none⟩) ct (Ts.take kt) (fun _ => []) (fun _ => 0) W (by rw [hl]; exact hms) (by rw [hktl]; exact htk W k) (hfa.sub tv hkt1 (by omega)).stin
      rw [hl, hktl] at h1
      exact h1
    have HG := Lib.hid (And.intro hsb hgs); clear hsb hgs
    have b0 : (0 : Int) ≤ (kt : Int) := by omega
    have b6 : (kt : Int) ≤ (ct : Int) := by omega
    have b7 : (kt : Int) + 1 - 1 = (kt : Int) := by omega
    have b8 : IntKind.i64.wrap (kt : Int) = (kt : Int) := by rw [IntKind.wrap_i64]; omega
    go_region_held3 (fun W => True) (trivial)
      (first
        | (go_at_call 18
           refine (HG.out.2 _ tv sa sc hk1 hms).mono ?_
           rintro e w ⟨A, S, ap, cp, rfl, hA1, hA2, hA3, hL, _, _, hk8⟩
           obtain ⟨np, hn⟩ : ∃ n, S.length = n := ⟨_, rfl⟩
           rw [hn] at hL ⊢)
        | (go_at_call 23
           refine (HG.out.1 _ ?_).mono ?_
           · first | exact (Kept.refl _ _).drew | exact (Kept.refl _ _).drewN _ | exact Kept.refl _ _
           rintro e w1 ⟨tv, sa, sc, rfl, hms, hk0⟩
           have hk1 : Kept [] w6 w1 := hk0.of_drew)
        | fail)
    all_goals
      have hpl : PlanL (Ms.map (subM tv ((Ts.take kt).map (·.top)))) (Ts.take kt) S := ⟨A, hA1, hA2, hA3⟩
      have hfs := hfa.sub tv hkt1 (show kt ≤ Ts.length by omega)
      have hpb := hpl.len hfs
      have hk9 := hk1.trans hk8 (U := []) (by simp) (by simp)
      have hkw := hk7.trans hk9 (U := []) (by simp) (by simp)
      have hto := told_any am N cm Ms ap np cp S gen w (HM0.out.1.keptW hkw) hN hL hn HM0.out.2.2.2.2.1 ⟨by omega, by omega, by have := hpb.1; omega⟩ (fun m _ => hpl.own hfs _ _)
      have HT := Lib.hid (And.intro hto (And.intro hpl (And.intro hpb (And.intro hL (And.intro hn hkw))))); clear hto HG hpl hpb hL hn hkw hk1 hk7 hk8 hk9 hms hA1 hA2 hA3 hfs htk
      go_upto_region 7 with (first
        | (go_at_call 24
           refine HT.out.1.mono ?_
           rintro e w3 ⟨Ms', a5, c5, rfl, hm', hN', _, _, htl, hk3⟩)
        | fail)
      obtain ⟨Old', hsi, hgp⟩ := PlanL.grow hfa hkt1 (show kt ≤ Ts.length by omega) HT.out.2.1 HM0.out.2.2.2.2.1 (hN'.trans hN.symm) htl
      have hkw3 := HT.out.2.2.2.2.2.trans hk3 (U := []) (by simp) (by simp)
      have hgs := group_sticky a5 c5 Ms' (some ⟨gt, ot, none⟩) ct Ts Old' (fun _ => gen) w3 (by rw [hN']; exact hm') (by rw [hT]; exact HM0.out.2.2.1.kept hkw3 (by simp) (by simp)) hsi
      rw [hN', hT] at hgs
      have HG := Lib.hid (And.intro hgs (And.intro hgp (And.intro hkw3 hk3))); clear hgs hgp hkw3 hk3 hsi hm' hN' htl
      go_upto_region 10 with (first
        | (go_at_call 18
           refine HG.out.1.mono ?_
           rintro e w6 ⟨A2, S2, a2, c2, rfl, hB1, hB2, hB3, hL2, _, _, hk6⟩
           obtain ⟨n2, hn2⟩ : ∃ n, S2.length = n := ⟨_, rfl⟩
           rw [hn2] at hL2 ⊢)
        | fail)
      obtain ⟨hce, hb2n, hktt⟩ := HG.out.2.1 S2 A2 hB1 hB2 hB3
      have hkw6 := HG.out.2.2.1.trans hk6 (U := []) (by simp) (by simp)
      have hev := even_any am N cm Ms (some ⟨gt, ot, none⟩) (kt + 1) ct Ts a2 n2 c2 S2 w6 (HM0.out.1.keptW hkw6) hN (HM0.out.2.2.1.kept hkw6 (by simp) (by simp)) hT hL2 hn2 hce ⟨by omega, by omega⟩
        (fun m hm => by have := (hfa.g.mems m hm).tops; omega) (fun x hx => by have := (hfa.g.tops x hx).p2; omega)
      have hL6 := HT.out.2.2.2.1.kept (HG.out.2.2.2.trans hk6 (U := []) (by simp) (by simp)) (by simp) (by simp)
      have HE := Lib.hid (And.intro hev (And.intro hktt (And.intro hb2n (And.intro hL2 (And.intro hn2 (And.intro hkw6 hL6)))))); clear hev hktt hb2n hL2 hn2 hkw6 hL6 hce hB1 hB2 hB3
      go_upto_region 12 with (first
        | (go_at_call 25
           refine HE.out.1.mono ?_
           rintro e w7 ⟨rfl, hk7⟩)
        | fail)
      have hpn := HT.out.2.2.1
      have hn := HT.out.2.2.2.2.1
      have hkw7 := HE.out.2.2.2.2.2.1.trans hk7 (U := []) (by simp) (by simp)
      have hkk : ∀ m ∈ Ms, ∀ W, Kept [] w7 W → Calls Tryz.prog 26 #[.string m.id, .slice ap np cp, .slice a2 n2 c2] W fun e w' => e = .returned (.bool true) ∧ Kept [] W w' := fun m hm W hW =>
        have h7 := hk7.trans hW (U := []) (by simp) (by simp)
        kept_any m.id ap np cp S a2 n2 c2 S2 W (HE.out.2.2.2.2.2.2.kept h7 (by simp) (by simp)) hn (HE.out.2.2.2.1.kept h7 (by simp) (by simp)) HE.out.2.2.2.2.1 ⟨by have := hpn.1; omega, by have := HE.out.2.2.1.1; have := HE.out.2.2.2.2.1; omega⟩ (fun x hx => by have := hpn.2 x hx; omega) (fun x hx => by have := HE.out.2.2.1.2 x hx; omega) (HE.out.2.1 m hm)
      have HK := Lib.hid (And.intro hkk (And.intro (HM0.out.1.keptW hkw7) hkw7)); clear hkk hkw7 hpn hn hk6 hk7 HE HG HT
      go_wp2_with fail
      go_loopw [12] (fun i wr => KR1 w7 N i wr) (fun i _ => N - (intOf i).toNat)
      case atStart => exact ⟨Kept.refl _ _, 0, rfl, Nat.zero_le _⟩
      case round =>
        obtain ⟨hkr, j, rfl, hj⟩ := hrel
        by_cases hjn : j < N
        · obtain ⟨m, hmj⟩ : ∃ m, Ms[j]? = some m := ⟨_, List.getElem?_eq_getElem (by omega)⟩
          obtain ⟨gm, off, ta, tc, da, dc, oa, oc, rfl, e1, e2, e3, hcm⟩ := mem_at HK.out.2.1 hN hmj
          have c0 := (hcm wr hkr).1
          have hjk : (j : Int) < (N : Int) := by omega
          have HJ := Lib.hid (HK.out.1 m (List.mem_of_getElem? hmj)); clear hmj e1 e2 e3 hcm
          generalize m.id = mid at *
          go_wp2_with (first
            | (go_at_call 26
               refine (HJ.out _ hkr).mono ?_
               rintro e w8 ⟨rfl, hk8⟩
               have hk9 := hkr.trans hk8 (U := []) (by simp) (by simp))
            | fail)
          exact ⟨⟨hk9, j + 1, by go_num, by omega⟩, by simp [intOf]; omega⟩
        · obtain rfl : j = N := by omega
          go_wp2_with (first
            | (go_at_call 14; refine (HAL.out _).mono ?_; rintro e w8 ⟨rfl, hk8⟩)
            | fail)
          go_ret
          exact ⟨rfl, (HK.out.2.2.trans hkr (U := []) (by simp) (by simp)).trans hk8 (by simp) (by simp)⟩
theorem law_grows_row (am : Option Addr) (cm : Nat) (Ms : List Mem) (at' : Option Addr) (ct : Nat) (Ts : List Shr) (gen : Int) (w : World) (hm : MemsAt w (.slice am Ms.length cm) Ms) (hml : Ms.length ≤ maxLen) (hmd : ∀ z ∈ Ms, MemRd w z) (ht : ShrsAt w (.slice at' Ts.length ct) Ts) (htl : Ts.length ≤ maxLen)
    (htd : ∀ z ∈ Ts, z.mem.size ≤ maxLen ∧ z.top.size ≤ maxLen ∧ z.parts.length ≤ maxLen) (hcap : Ts.length ≤ ct) (hg : (Lit.int .i32 gen).wf = true) :
    Calls Tryz.prog 6 #[.slice am Ms.length cm, .slice at' Ts.length ct, .int .i32 gen] w fun e w' => e = .returned (.bool true) ∧ Kept [] w w' := by
  simp [Lit.wf, IntKind.min, IntKind.max, IntKind.signed, IntKind.bits] at hg
  exact law_grows am _ cm Ms at' _ ct Ts gen w hm rfl ht rfl (by unfold isI32; omega) hmd (fun t h => (htd t h).2.1) ⟨hml, htl⟩ hcap
end Go.Proofs.YticcnlpfmekagaaGreat
