/- Part 41 of the proof of the row: LwC. -/
import Derived.Test.YticcnlpfmekagaaGreatRj00
import Derived.Test.YticcnlpfmekagaaGreatRj40
set_option linter.unusedVariables false
set_option linter.unusedSimpArgs false
set_option maxRecDepth 100000
set_option maxHeartbeats 8000000
namespace Go.Proofs.YticcnlpfmekagaaGreat
section
open Go Go.Proofs Go.RowKit Go.Lib
def AskP (Ms : List Mem) (Ts : List Shr) : Prop := AlikeP Ms Ts ∧ ∀ m ∈ Ms, m.tops.length = Ts.length
def AskRel (w : World) (Ms : List Mem) (nt N : Nat) (i : Value) (wr : World) : Prop := wr = w ∧ ∃ k : Nat, i = .int .i64 k ∧ k ≤ N ∧ (∀ m ∈ Ms.take k, m.tops.length = nt)
theorem MemsAt.keptW {w w' : World} {v : Value} {L : List Mem} (h : MemsAt w v L) (k : Kept [] w w') : MemsAt w' v L := ⟨h.form, h.cells.kept k (by simp), fun m hm => (h.each m hm).kept0 k⟩
theorem ask_any (am : Option Addr) (N cm : Nat) (Ms : List Mem) (at' : Option Addr) (nt ct : Nat) (Ts : List Shr) (w : World) (hm : MemsAt w (.slice am N cm) Ms) (hN : Ms.length = N) (ht : ShrsAt w (.slice at' nt ct) Ts) (hT : Ts.length = nt) (hb : N ≤ 1000 ∧ nt ≤ 1000) (hbt : ∀ m ∈ Ms, m.tops.length ≤ maxLen) :
 Calls Tryz.prog 16 #[.int .i64 2, .slice am N cm, .slice at' nt ct] w fun e w' => BoolIf e (AskP Ms Ts) ∧ Kept [] w w' := by
 have hal := alike_any am N cm Ms at' nt ct Ts w hm hN ht hT hb hbt
 have HM := Zhd (Zan hm (Zan hN (Zan hT hal))); clear hm hN ht hT hbt hal
 go_enter Tryz.func16, Tryz.ntmps16
 go_wp2_with fail
 go_loopw [7] (fun i wr => AskRel w Ms nt N i wr) (fun i _ => N - (intOf i).toNat)
 case atStart => exact ⟨rfl, 0, rfl, Nat.zero_le _, by simp⟩
 case round =>
  obtain ⟨rfl, k, rfl, hk, hall⟩ := hrel
  by_cases hkn : k < N
  · obtain ⟨m, hm⟩ : ∃ m, Ms[k]? = some m := ⟨_, List.getElem?_eq_getElem (by have := HM.out.2.1; omega)⟩
    obtain ⟨g, off, ta, tc, da, dc, oa, oc, rfl, e1, e2, e3, hcm⟩ := mem_at HM.out.1 HM.out.2.1 hm
    obtain ⟨_, _, c2, _⟩ := hcm wr (Kept.refl _ _)
    have hki : (k : Int) < (N : Int) := by omega
    obtain ⟨tn, htn⟩ : ∃ tn, m.tops.length = tn := ⟨_, rfl⟩
    rw [htn] at c2
    have HH := Zhd (Zan hm (Zan hall htn)); clear hm hall htn hcm e1 e2 e3
    by_cases e : tn = nt
    · subst e
      go_wp2_with fail
      refine ⟨⟨rfl, k + 1, by go_num, by omega, ?_⟩, by simp [intOf]; omega⟩
      obtain ⟨h1, h2⟩ := List.getElem?_eq_some_iff.1 HH.out.1
      rw [List.take_succ_eq_append_getElem h1, h2]
      intro y hy
      rcases Zap.1 hy with hy | hy
      · exact HH.out.2.1 y hy
      · simp only [Zmc, Znn, or_false] at hy
        subst hy; exact HH.out.2.2
    · have hne : ¬ ((tn : Int) = (nt : Int)) := by omega
      go_wp2_with fail
      go_ret
      exact ⟨.inr rfl, Kept.refl _ _⟩
  · obtain rfl : k = N := by omega
    rw [List.take_of_length_le (by have := HM.out.2.1; omega)] at hall
    have HA := Zhd hall; clear hall
    go_wp2_with (first
     | (go_at_call 41
        refine HM.out.2.2.2.mono ?_
        rintro e w1 ⟨hr, hk1⟩
        rcases hr with ⟨rfl, hr⟩ | rfl)
     | fail)
    · have HR := Zhd hr; clear hr
      go_ret
      exact ⟨.inl ⟨rfl, HR.out, fun m hm => by rw [HA.out m hm]; exact HM.out.2.2.1.symm⟩, hk1⟩
    · go_ret
      exact ⟨.inr rfl, hk1⟩
def F2Rel (w : World) (N : Nat) (i : Value) (wr : World) : Prop := Kept [] w wr ∧ ∃ k : Nat, i = .int .i64 k ∧ k ≤ N
theorem fits2_any (am : Option Addr) (N cm : Nat) (Ms : List Mem) (w : World) (hm : MemsAt w (.slice am N cm) Ms) (hN : Ms.length = N) (hb : N ≤ maxLen) (hbt : ∀ m ∈ Ms, m.tops.length ≤ maxLen ∧ m.owned.length ≤ maxLen) :
 Calls Tryz.prog 12 #[.slice am N cm] w fun e w' => AnyBool e ∧ Kept [] w w' := by
 have hmx : maxLen = 9223372036854775807 := rfl
 have HM := Zhd (Zan hm (Zan hN hbt)); clear hm hN hbt
 by_cases hbig : (2147483647 : Int) < (N : Int)
 · go_enter Tryz.func12, Tryz.ntmps12
   go_wp2_with fail
   go_ret
   exact ⟨⟨_, rfl⟩, Kept.refl _ _⟩
 · go_enter Tryz.func12, Tryz.ntmps12
   go_wp2_with fail
   go_loopw [10] (fun i wr => F2Rel w N i wr) (fun i _ => N - (intOf i).toNat)
   case atStart => exact ⟨Kept.refl _ _, 0, rfl, Nat.zero_le _⟩
   case round =>
    obtain ⟨hkw, k, rfl, hk⟩ := hrel
    by_cases hkn : k < N
    · obtain ⟨m, hm⟩ : ∃ m, Ms[k]? = some m := ⟨_, List.getElem?_eq_getElem (by have := HM.out.2.1; omega)⟩
      obtain ⟨g, off, ta, tc, da, dc, oa, oc, rfl, e1, e2, e3, hcm⟩ := mem_at HM.out.1 HM.out.2.1 hm
      have hmM := List.mem_of_getElem? hm
      have hft := fun w' (k' : Kept [] w w') => fits3 m w' ((HM.out.1.each m hmM).kept0 k') (HM.out.2.2 m hmM).1 (HM.out.2.2 m hmM).2
      obtain ⟨c0, c1, c2, c3, c4, c5, c6, c7⟩ := hcm wr hkw
      have hki : (k : Int) < (N : Int) := by omega
      clear hm hmM hcm
      obtain ⟨id, ver, tv, tops, dv, data, ov, owned, gen, rack, has⟩ := m
      simp only at e1 e2 e3 hft c0 c1 c2 c3 c4 c5 c6 c7
      subst e1 e2 e3
      simp only [memCells] at hft
      have HW := Zhd hft; clear hft
      generalize tops.length = tn at *
      generalize data.length = dn at *
      generalize owned.length = on at *
      go_wp2_with (first
       | (go_at_call 27
          refine (HW.out _ (hkw.alloc _)).mono ?_
          rintro e w1 ⟨⟨b, rfl⟩, hk1⟩
          have hk2 := (hkw.alloc (.cells #[.string id, .int .i16 ver, .slice ta tn tc, .slice da dn dc, .slice oa on oc, .int .i32 gen, .string rack, .bool has] 30)).trans hk1 (U := []) (by simp) (by simp)
          cases b)
       | fail)
      all_goals first
       | exact ⟨⟨hk2, k + 1, by go_num, by omega⟩, by simp [intOf]; omega⟩
       | (go_ret
          exact ⟨⟨_, rfl⟩, hk2⟩)
    · obtain rfl : k = N := by omega
      go_wp2_with fail
      go_ret
      exact ⟨⟨_, rfl⟩, hkw⟩
end
end Go.Proofs.YticcnlpfmekagaaGreat
