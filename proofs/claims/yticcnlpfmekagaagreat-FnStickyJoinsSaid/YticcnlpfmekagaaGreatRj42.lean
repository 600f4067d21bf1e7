/- Part 42 of the proof of the row: LwD. -/
import Derived.Test.YticcnlpfmekagaaGreatRj00
import Derived.Test.YticcnlpfmekagaaGreatRj41
set_option linter.unusedVariables false
set_option linter.unusedSimpArgs false
set_option maxRecDepth 100000
set_option maxHeartbeats 8000000
namespace Go.Proofs.YticcnlpfmekagaaGreat
section
open Go Go.Proofs Go.RowKit Go.Lib
def WdOut (w : World) (nt : Nat) (i : Value) (wr : World) : Prop := Kept [] w wr ∧ ∃ k : Nat, i = .int .i64 k ∧ k ≤ nt
def WdIn (w : World) (N : Nat) (b i : Value) (wr : World) : Prop := Kept [] w wr ∧ (∃ c, b = .bool c) ∧ ∃ k : Nat, i = .int .i64 k ∧ k ≤ N
theorem wanted_any (am : Option Addr) (N cm : Nat) (Ms : List Mem) (at' : Option Addr) (nt ct : Nat) (Ts : List Shr) (w : World) (hm : MemsAt w (.slice am N cm) Ms) (hN : Ms.length = N) (ht : ShrsAt w (.slice at' nt ct) Ts) (hT : Ts.length = nt) (hb : N ≤ 1000 ∧ nt ≤ 1000) (hbt : ∀ m ∈ Ms, m.tops.length ≤ maxLen) :
 Calls Tryz.prog 39 #[.slice am N cm, .slice at' nt ct] w fun e w' => AnyBool e ∧ Kept [] w w' := by
 have HM := Zhd (Zan hm (Zan hN (Zan ht (Zan hT hbt)))); clear hm hN ht hT hbt
 go_enter Tryz.func39, Tryz.ntmps39
 go_wp2_with fail
 go_loopw [5] (fun i wr => WdOut w nt i wr) (fun i _ => nt - (intOf i).toNat)
 case atStart => exact ⟨Kept.refl _ _, 0, rfl, Nat.zero_le _⟩
 case round =>
  obtain ⟨hkw, i, rfl, hi⟩ := hrel
  by_cases hin : i < nt
  · obtain ⟨t, ht⟩ : ∃ t, Ts[i]? = some t := ⟨_, List.getElem?_eq_getElem (by have := HM.out.2.2.2.1; omega)⟩
    obtain ⟨gt, ot, va, vc, rfl, hv, hct⟩ := shr_at HM.out.2.2.1 HM.out.2.2.2.1 ht
    have hii : (i : Int) < (nt : Int) := by omega
    have HT := Zhd (Zan ht (Zan hv hct)); clear ht hv hct
    go_wp2_with fail
    go_loopw [6, 7] (fun b j wr' => WdIn w N b j wr') (fun _ j _ => N - (intOf j).toNat)
    case atStart => exact ⟨hkw, ⟨_, rfl⟩, 0, rfl, Nat.zero_le _⟩
    case round =>
     obtain ⟨hkw2, ⟨c, rfl⟩, k, rfl, hk⟩ := hrel
     by_cases hkn : k < N
     · obtain ⟨m, hm⟩ : ∃ m, Ms[k]? = some m := ⟨_, List.getElem?_eq_getElem (by have := HM.out.2.1; omega)⟩
       obtain ⟨g, off, ta, tc, da, dc, oa, oc, rfl, e1, e2, e3, hcm⟩ := mem_at HM.out.1 HM.out.2.1 hm
       have hmM := List.mem_of_getElem? hm
       have hme := HM.out.1.each m hmM
       have hbt := HM.out.2.2.2.2 m hmM
       have hki : (k : Int) < (N : Int) := by omega
       have hcs := fun W (hW : Kept [] wr W) => Zan (hcm W (hkw2.trans hW (U := []) (by simp) (by simp))) (HT.out.2.2 W (hkw2.trans hW (U := []) (by simp) (by simp))).2.1
       have HCS := Zhd hcs; clear hcs hcm
       obtain ⟨bb, hbb⟩ : ∃ bb : Bool, ∀ w' (k' : Kept [] w w'), Calls Tryz.prog 42 #[.agg (memCells m).toArray, .string t.top] w' fun e w'' => e = .returned (.bool bb) ∧ Kept [] w' w'' := by
        by_cases htm : t.top ∈ m.tops
        · exact ⟨true, fun w' k' => wants_yes m t.top w' (hme.kept0 k') hbt htm⟩
        · exact ⟨false, fun w' k' => wants_no m t.top w' (hme.kept0 k') hbt htm⟩
       clear hm hme hmM hbt
       obtain ⟨id, ver, tv, tops, dv, data, ov, owned, gen, rack, has⟩ := m
       simp only at e1 e2 e3 HCS hbb
       subst e1 e2 e3
       simp only [memCells] at hbb
       have HW := Zhd hbb; clear hbb
       generalize tops.length = tn at *
       generalize data.length = dn at *
       generalize owned.length = on at *
       generalize htop : t.top = top at *
       have HTOP := Zhd htop; clear htop
       cases c
       · obtain ⟨⟨c0, c1, c2, c3, c4, c5, c6, c7⟩, ct1⟩ := HCS.out wr (Kept.refl _ _)
         go_wp2_with fail
         go_region_law
          (first
            | (go_simp
               go_at_call 42
               refine (HW.out _ hkw2.drew).mono ?_
               rintro e w1 ⟨rfl, hk1⟩
               have hk1' : Kept [] wr w1 := hk1.of_drew
               go_wp2_with fail)
            | fail)
         all_goals
          go_wp2_with fail
          exact ⟨⟨hkw2.trans hk1' (by simp) (by simp), ⟨_, rfl⟩, k + 1, by go_num, by omega⟩, by simp [intOf]; omega⟩
       · go_wp2_with fail
         go_region
         all_goals
          go_wp2_with fail
          exact ⟨⟨hkw2.drew, ⟨_, rfl⟩, k + 1, by go_num, by omega⟩, by simp [intOf]; omega⟩
     · cases c
       · go_wp2_with fail
         go_ret
         exact ⟨⟨_, rfl⟩, hkw2⟩
       · go_wp2_with fail
         exact ⟨⟨hkw2, i + 1, by go_num, by omega⟩, by simp [intOf]; omega⟩
  · go_wp2_with fail
    go_ret
    exact ⟨⟨_, rfl⟩, hkw⟩
end
end Go.Proofs.YticcnlpfmekagaaGreat
