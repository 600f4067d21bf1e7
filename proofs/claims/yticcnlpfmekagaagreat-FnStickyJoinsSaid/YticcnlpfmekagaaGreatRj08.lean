/- Part 8 of the proof of the row: ZzS, Shelf2, Tp, TpKey, Can, Can2, Swap, Less, Zz. -/
import Derived.Test.YticcnlpfmekagaaGreatRj00
import Derived.Test.YticcnlpfmekagaaGreatRj05
import Derived.Test.YticcnlpfmekagaaGreatRj06
import Derived.Test.YticcnlpfmekagaaGreatRj07
import Derived.Shelf.SlGeneric
import Derived.Shelf.SlSortCmp.SmallK
import Derived.Shelf.SlicesQ.Contains
import Derived.Ground.SlsfProg
import Derived.Ground.SlgqProg
import Derived.Test.YticcnlpfmekagaaGreatProg
import Derived.Laws.StructEq
import Derived.Test.YticcnlpfmekagaaGreatRj04
import Derived.Deep.QuietTactic
import Derived.RegionTactic
set_option linter.unusedVariables false
set_option linter.unusedSimpArgs false
set_option maxRecDepth 100000
set_option maxHeartbeats 8000000
namespace Go.Proofs.YticcnlpfmekagaaGreat
section
open Go Go.Proofs Go.RowKit Go.Lib
open Classical
section
variable {α : Type}
structure ZzOk (sw ls : FuncId) (bs bl : Array Value) (n : Nat) (lt : α → α → Bool) (I : List α → World → Prop) : Prop where
 len : ∀ L w, I L w → L.length = n
 swap : ∀ L w (j : Nat) (h0 : 0 < j) (hj : j < L.length), I L w → Calls Tryz.prog sw (#[.int .i64 (j : Int), .int .i64 ((j : Int) - 1)] ++ bs) w fun e w' => e = .returned (.tuple #[]) ∧ I ((L.set j (L[j-1]'(by omega))).set (j-1) L[j]) w'
 less : ∀ L w (j : Nat) (h0 : 0 < j) (hj : j < L.length), I L w → Calls Tryz.prog ls (#[.int .i64 (j : Int), .int .i64 ((j : Int) - 1)] ++ bl) w fun e w' => e = .returned (.bool (lt L[j] (L[j-1]'(by omega)))) ∧ I L w'
theorem perm_swap {L : List α} {j : Nat} (h0 : 0 < j) (hj : j < L.length) : ((L.set j (L[j-1]'(by omega))).set (j-1) L[j]).Perm L := by
 obtain ⟨k, rfl⟩ : ∃ k, j = k + 1 := ⟨j - 1, by omega⟩
 obtain ⟨A, x, y, C, rfl, rfl⟩ : ∃ A x y C, L = A ++ x :: y :: C ∧ A.length = k :=
  ⟨L.take k, L[k], L[k+1], L.drop (k+2), by rw [← List.drop_eq_getElem_cons (by omega), ← List.drop_eq_getElem_cons (by omega), List.take_append_drop], by simp; omega⟩
 have h2 : ((A ++ x :: y :: C).set (A.length + 1) ((A ++ x :: y :: C)[A.length + 1 - 1]'(by simp))).set (A.length + 1 - 1) (A ++ x :: y :: C)[A.length + 1] = A ++ y :: x :: C := by
  simp [List.set_append]
 rw [h2]
 exact List.Perm.append_left _ (List.Perm.swap ..)
theorem zz_sort (sw ls : FuncId) (bs bl : Array Value) (n : Nat) (lt : α → α → Bool) (I : List α → World → Prop) (hz : ZzOk sw ls bs bl n lt I) (hf1 : HasBody sw) (hf2 : HasBody ls) (hb : n < 1000000000)
 (asy : ∀ a b, lt a b = true → ¬ lt b a = true) (tra : ∀ a b c, ¬ lt b a = true → ¬ lt c b = true → ¬ lt c a = true) (L0 : List α) (w : World) (h0 : I L0 w) :
 Calls Tryz.prog 206 #[.int .i64 n, .func (.func sw) #[] bs, .func (.func ls) #[] bl] w fun e w' => e = .returned (.tuple #[]) ∧ ∃ L, L.Perm L0 ∧ I L w' ∧ L.Pairwise (fun a b => ¬ lt b a = true) := by
 unfold HasBody at hf1 hf2
 have HZ := Zhd hz; clear hz
 have HN := Zhd (HZ.out.len _ _ h0)
 have H0 := Zhd h0; clear h0
 go_enter Tryz.func206, Tryz.ntmps206
 go_wp2
 go_loopw [6] (fun i wr => ∃ k L, i = .int .i64 (k : Nat) ∧ 1 ≤ k ∧ L.Perm L0 ∧ I L wr ∧ (L.take k).Pairwise (fun a b => ¬ lt b a = true)) (fun i _ => n + 1 - (intOf i).toNat)
 case atStart =>
  refine ⟨1, L0, rfl, Nat.le_refl _, List.Perm.refl _, H0.out, ?_⟩
  cases L0 <;> simp
 case round =>
  obtain ⟨k, L, rfl, hk, hperm, hI, hp⟩ := hrel
  have hLn : L.length = n := HZ.out.len _ _ hI
  by_cases hkn : k < n
  · have HI := Zhd hI; clear hI
    have HP := Zhd hp; clear hp
    have HLN := Zhd hLn; clear hLn
    have HPE := Zhd hperm; clear hperm
    go_wp2
    go_loopw [7] (fun j wr => ∃ (j' : Nat) (L' : List α), j = .int .i64 (j' : Nat) ∧ j' ≤ k ∧ L'.Perm L0 ∧ I L' wr ∧ Carry (fun a b => lt a b = true) k L' j') (fun j _ => (intOf j).toNat)
    case atStart => exact ⟨k, L, rfl, Nat.le_refl _, HPE.out, HI.out, carry_start HP.out (by rw [HLN.out]; exact hkn)⟩
    case round =>
     obtain ⟨j, L', rfl, hjk, hpe, hI', hca⟩ := hrel
     have hL'n : L'.length = n := HZ.out.len _ _ hI'
     by_cases hj0 : 0 < j
     · have hjl : j < L'.length := by omega
       have hls := HZ.out.less L' _ j hj0 hjl hI'
       have HLS := Zhd hls; clear hls
       have HI' := Zhd hI'; clear hI'
       have HR := Zhd (Zan hpe (Zan hca hL'n)); clear hpe hca hL'n
       go_wp2_with fail
       refine HLS.out.mono ?_
       rintro e w1 ⟨rfl, hI1⟩
       by_cases hlt : lt L'[j] (L'[j-1]'(by omega)) = true
       · rw [hlt]
         have hsw := HZ.out.swap L' _ j hj0 hjl hI1
         have HSW := Zhd hsw; clear hsw
         have hc1 := carry_swap (lt := fun a b => lt a b = true) HR.out.2.1 hj0 hjl hlt
         have hp1 := perm_swap hj0 hjl
         have HC1 := Zhd (Zan hc1 hp1); clear hc1 hp1
         clear hI1
         have HLT := Zhd hlt; clear hlt
         go_wp2_with fail
         refine HSW.out.mono ?_
         rintro e w2 ⟨rfl, hI2⟩
         have HI2 := Zhd hI2; clear hI2
         go_wp2_with fail
         go_roundw
         case rel => exact ⟨j - 1, _, by go_num, by omega, HC1.out.2.trans HR.out.1, HI2.out, HC1.out.1⟩
         case measure => simp [intOf]; omega
       · have hfl : lt L'[j] (L'[j-1]'(by omega)) = false := by simpa using hlt
         rw [hfl]
         have hd := carry_done (lt := fun a b => lt a b = true) asy tra HR.out.2.1 (.inr ⟨hjl, hj0, hlt⟩)
         have HD := Zhd (Zan hd hI1); clear hd hI1
         clear hlt hfl
         go_wp2_with fail
         go_roundw
         case rel => exact ⟨k + 1, L', by go_num, by omega, HR.out.1, HD.out.2, HD.out.1⟩
         case measure => simp [intOf]; omega
     · obtain rfl : j = 0 := by omega
       have hd := carry_done (lt := fun a b => lt a b = true) asy tra hca (.inl rfl)
       have HD := Zhd (Zan hd (Zan hI' hpe)); clear hd hI' hpe hca hL'n
       go_wp2_with fail
       go_roundw
       case rel => exact ⟨k + 1, L', by go_num, by omega, HD.out.2.2, HD.out.2.1, HD.out.1⟩
       case measure => simp [intOf]; omega
  · go_wp2
    go_end0
    refine ⟨rfl, L, hperm, hI, ?_⟩
    rwa [List.take_of_length_le (by omega)] at hp
theorem zz_perm (sw ls : FuncId) (bs bl : Array Value) (n : Nat) (lt : α → α → Bool) (I : List α → World → Prop) (hz : ZzOk sw ls bs bl n lt I) (hf1 : HasBody sw) (hf2 : HasBody ls) (hb : n < 1000000000)
 (L0 : List α) (w : World) (h0 : I L0 w) :
 Calls Tryz.prog 206 #[.int .i64 n, .func (.func sw) #[] bs, .func (.func ls) #[] bl] w fun e w' => e = .returned (.tuple #[]) ∧ ∃ L, L.Perm L0 ∧ I L w' := by
 unfold HasBody at hf1 hf2
 have HZ := Zhd hz; clear hz
 have HN := Zhd (HZ.out.len _ _ h0)
 have H0 := Zhd h0; clear h0
 go_enter Tryz.func206, Tryz.ntmps206
 go_wp2
 go_loopw [6] (fun i wr => ∃ k L, i = .int .i64 (k : Nat) ∧ 1 ≤ k ∧ L.Perm L0 ∧ I L wr) (fun i _ => n + 1 - (intOf i).toNat)
 case atStart =>
  exact ⟨1, L0, rfl, Nat.le_refl _, List.Perm.refl _, H0.out⟩
 case round =>
  obtain ⟨k, L, rfl, hk, hperm, hI⟩ := hrel
  have hLn : L.length = n := HZ.out.len _ _ hI
  by_cases hkn : k < n
  · have HI := Zhd hI; clear hI
    have HLN := Zhd hLn; clear hLn
    have HPE := Zhd hperm; clear hperm
    go_wp2
    go_loopw [7] (fun j wr => ∃ (j' : Nat) (L' : List α), j = .int .i64 (j' : Nat) ∧ j' ≤ k ∧ L'.Perm L0 ∧ I L' wr) (fun j _ => (intOf j).toNat)
    case atStart => exact ⟨k, L, rfl, Nat.le_refl _, HPE.out, HI.out⟩
    case round =>
     obtain ⟨j, L', rfl, hjk, hpe, hI'⟩ := hrel
     have hL'n : L'.length = n := HZ.out.len _ _ hI'
     by_cases hj0 : 0 < j
     · have hjl : j < L'.length := by omega
       have hls := HZ.out.less L' _ j hj0 hjl hI'
       have HLS := Zhd hls; clear hls
       have HI' := Zhd hI'; clear hI'
       have HR := Zhd (Zan hpe hL'n); clear hpe hL'n
       go_wp2_with fail
       refine HLS.out.mono ?_
       rintro e w1 ⟨rfl, hI1⟩
       by_cases hlt : lt L'[j] (L'[j-1]'(by omega)) = true
       · rw [hlt]
         have hsw := HZ.out.swap L' _ j hj0 hjl hI1
         have HSW := Zhd hsw; clear hsw
         have hp1 := perm_swap hj0 hjl
         have HC1 := Zhd hp1; clear hp1
         clear hI1
         have HLT := Zhd hlt; clear hlt
         go_wp2_with fail
         refine HSW.out.mono ?_
         rintro e w2 ⟨rfl, hI2⟩
         have HI2 := Zhd hI2; clear hI2
         go_wp2_with fail
         go_roundw
         case rel => exact ⟨j - 1, _, by go_num, by omega, HC1.out.trans HR.out.1, HI2.out⟩
         case measure => simp [intOf]; omega
       · have hfl : lt L'[j] (L'[j-1]'(by omega)) = false := by simpa using hlt
         rw [hfl]
         have HD := Zhd hI1; clear hI1
         clear hlt hfl
         go_wp2_with fail
         go_roundw
         case rel => exact ⟨k + 1, L', by go_num, by omega, HR.out.1, HD.out⟩
         case measure => simp [intOf]; omega
     · obtain rfl : j = 0 := by omega
       have HD := Zhd (Zan hI' hpe); clear hI' hpe hL'n
       go_wp2_with fail
       go_roundw
       case rel => exact ⟨k + 1, L', by go_num, by omega, HD.out.2, HD.out.1⟩
       case measure => simp [intOf]; omega
  · go_wp2
    go_end0
    exact ⟨rfl, L, hperm, hI⟩
end
end
end Go.Proofs.YticcnlpfmekagaaGreat
namespace Go.Proofs
section
open Go.Shelf
def Tryz.laysSortShr_ren : Go.Shelf.Ren := ⟨fun | 6 => 65 | 15 => 78 | 14 => 83 | 28 => 104 | 29 => 105 | 20 => 107 | 21 => 108 | 22 => 109 | 23 => 110 | 24 => 111 | 25 => 112 | 26 => 113 | 27 => 114 | 46 => 126 | 47 => 121 | 48 => 122 | 49 => 127 | 50 => 128 | 57 => 135 | n => n, fun | 22 => 23 | 24 => 33 | 25 => 129 | 3 => 3 | 39 => 151 | 0 => 0 | 53 => 103 | 55 => 98 | 4 => 4 | 46 => 185 | 45 => 184 | 50 => 190 | 5 => 5 | 9 => 9 | 66 => 235 | 70 => 239 | 76 => 260 | 77 => 261 | n => n, fun | n => n⟩
theorem Tryz.laysSortShr : Go.Proofs.SlLaysF0.n6 Tryz.prog Tryz.laysSortShr_ren := {
 mixed := by kernel_rfl
 f6 := ⟨Tryz.f65.name, by decide, Tryz.func65.trans (congrArg some (by kernel_rfl))⟩
 f14 := ⟨Tryz.f83.name, by decide, Tryz.func83.trans (congrArg some (by kernel_rfl))⟩
 f15 := Tryz.func78.trans (congrArg some (by kernel_rfl))
 f20 := ⟨Tryz.f107.name, by decide, Tryz.func107.trans (congrArg some (by kernel_rfl))⟩
 f21 := ⟨Tryz.f108.name, by decide, Tryz.func108.trans (congrArg some (by kernel_rfl))⟩
 f22 := ⟨Tryz.f109.name, by decide, Tryz.func109.trans (congrArg some (by kernel_rfl))⟩
 f23 := ⟨Tryz.f110.name, by decide, Tryz.func110.trans (congrArg some (by kernel_rfl))⟩
 f24 := ⟨Tryz.f111.name, by decide, Tryz.func111.trans (congrArg some (by kernel_rfl))⟩
 f25 := ⟨Tryz.f112.name, by decide, Tryz.func112.trans (congrArg some (by kernel_rfl))⟩
 f26 := ⟨Tryz.f113.name, by decide, Tryz.func113.trans (congrArg some (by kernel_rfl))⟩
 f27 := ⟨Tryz.f114.name, by decide, Tryz.func114.trans (congrArg some (by kernel_rfl))⟩
 f28 := Tryz.func104.trans (congrArg some (by kernel_rfl))
 f29 := Tryz.func105.trans (congrArg some (by kernel_rfl))
 f46 := ⟨Tryz.f126.name, by decide, Tryz.func126.trans (congrArg some (by kernel_rfl))⟩
 f47 := Tryz.func121.trans (congrArg some (by kernel_rfl))
 f48 := Tryz.func122.trans (congrArg some (by kernel_rfl))
 f49 := ⟨Tryz.f127.name, by decide, Tryz.func127.trans (congrArg some (by kernel_rfl))⟩
 f50 := ⟨Tryz.f128.name, by decide, Tryz.func128.trans (congrArg some (by kernel_rfl))⟩
 f57 := ⟨Tryz.f135.name, by decide, Tryz.func135.trans (congrArg some (by kernel_rfl))⟩
 t0 := Tryz.underlying0
 a0 := Tryz.isAgg0
 z0 := Tryz.sizeOf0
 v0 := Tryz.zeroValue0
 t3 := Tryz.underlying3
 a3 := Tryz.isAgg3
 z3 := Tryz.sizeOf3
 v3 := Tryz.zeroValue3
 t4 := Tryz.underlying4
 a4 := Tryz.isAgg4
 z4 := Tryz.sizeOf4
 v4 := Tryz.zeroValue4
 t5 := Tryz.underlying5
 a5 := Tryz.isAgg5
 z5 := Tryz.sizeOf5
 v5 := Tryz.zeroValue5
 t9 := Tryz.underlying9
 a9 := Tryz.isAgg9
 z9 := Tryz.sizeOf9
 v9 := Tryz.zeroValue9
 t22 := Tryz.underlying23
 a22 := Tryz.isAgg23
 z22 := Tryz.sizeOf23
 v22 := Tryz.zeroValue23
 t25 := Tryz.underlying129
 a25 := Tryz.isAgg129
 z25 := Tryz.sizeOf129
 v25 := Tryz.zeroValue129
 t39 := Tryz.underlying151
 a39 := Tryz.isAgg151
 z39 := Tryz.sizeOf151
 v39 := Tryz.zeroValue151
 t45 := Tryz.underlying184
 a45 := Tryz.isAgg184
 z45 := Tryz.sizeOf184
 v45 := Tryz.zeroValue184
 t46 := Tryz.underlying185
 a46 := Tryz.isAgg185
 z46 := Tryz.sizeOf185
 v46 := Tryz.zeroValue185
 t50 := Tryz.underlying190
 a50 := Tryz.isAgg190
 z50 := Tryz.sizeOf190
 v50 := Tryz.zeroValue190
 t53 := Tryz.underlying103
 a53 := Tryz.isAgg103
 z53 := Tryz.sizeOf103
 v53 := Tryz.zeroValue103
 t55 := Tryz.underlying98
 a55 := Tryz.isAgg98
 z55 := Tryz.sizeOf98
 v55 := Tryz.zeroValue98
 t66 := Tryz.underlying235
 a66 := Tryz.isAgg235
 z66 := Tryz.sizeOf235
 v66 := Tryz.zeroValue235
 t70 := Tryz.underlying239
 a70 := Tryz.isAgg239
 z70 := Tryz.sizeOf239
 v70 := Tryz.zeroValue239
 t76 := Tryz.underlying260
 a76 := Tryz.isAgg260
 z76 := Tryz.sizeOf260
 v76 := Tryz.zeroValue260
 t77 := Tryz.underlying261
 a77 := Tryz.isAgg261
 z77 := Tryz.sizeOf261
 v77 := Tryz.zeroValue261 }
def Tryz.laysContTp_ren : Go.Shelf.Ren := ⟨fun | 7 => 272 | 6 => 276 | n => n, fun | 22 => 375 | 24 => 384 | 4 => 4 | 0 => 0 | 3 => 3 | n => n, fun | n => n⟩
theorem Tryz.laysContTp : Go.Proofs.SlLaysQ.n7 Tryz.prog Tryz.laysContTp_ren := {
 mixed := by kernel_rfl
 f6 := ⟨Tryz.f276.name, by decide, Tryz.func276.trans (congrArg some (by kernel_rfl))⟩
 f7 := ⟨Tryz.f272.name, by decide, Tryz.func272.trans (congrArg some (by kernel_rfl))⟩
 t0 := Tryz.underlying0
 a0 := Tryz.isAgg0
 z0 := Tryz.sizeOf0
 v0 := Tryz.zeroValue0
 t3 := Tryz.underlying3
 a3 := Tryz.isAgg3
 z3 := Tryz.sizeOf3
 v3 := Tryz.zeroValue3
 t4 := Tryz.underlying4
 a4 := Tryz.isAgg4
 z4 := Tryz.sizeOf4
 v4 := Tryz.zeroValue4
 t22 := Tryz.underlying375
 a22 := Tryz.isAgg375
 z22 := Tryz.sizeOf375
 v22 := Tryz.zeroValue375 }
end
end Go.Proofs
namespace Go.Proofs.YticcnlpfmekagaaGreat
section
open Go Go.Proofs Go.RowKit Go.Lib
abbrev TP := ByteArray × Int
def encTp (x : TP) : List Value := [.string x.1, .int .i32 x.2]
abbrev tpV (x : TP) : Value := .agg #[.string x.1, .int .i32 x.2]
def eqTp (x y : TP) : Bool := x.1.toList == y.1.toList && x.2 == y.2
theorem eqlTp : EqlAt Tryz.prog 384 (fun x => .agg (encTp x).toArray) eqTp := by
 refine ⟨fun x y w => ?_, GuardAt.agg _ (by kernel_rfl)⟩
 have u3 := Tryz.underlying3
 have hS : Tryz.prog.underlying 384 = some (.struct (Tryz.prog.fieldsOf 384)) := by kernel_rfl
 have hp : Tryz.prog.stoodInHeld 384 = false := by kernel_rfl
 simp only [encTp]
 rw [run_eql_struct, show (10000 : Nat) = 9999 + 1 from rfl, run_equalIn_agg w 9999 384 _ _ hS hp]
 simp only [Program.fieldsOf, Tryz.underlying384]
 go_simp
 unfold eqTp
 by_cases h1 : x.fst.toList = y.fst.toList <;> by_cases h2 : x.snd = y.snd <;> simp [h1, h2]
theorem Below.kept {w w' : World} (h : Below w.heap.size w w') : Kept [] w w' := ⟨h.os, h.tape, h.output, h.size, fun k hk _ => h.block k hk⟩
theorem contTp_any (b off n c : Nat) (zs : List TP) (x : TP) (w : World) (hz : n ≤ zs.length) (hbig : n ≤ 9223372036854775807)
 (hc : ∀ j, j < zs.length → ∀ i v, (encTp zs[j]!)[i]? = some v → w.cell? ⟨b, off + j * 2 + i, none⟩ = some v) :
 Calls Tryz.prog 272 #[.slice (some ⟨b, off, none⟩) n c, tpV x] w fun e w' => e = .returned (.bool ((zs.take n).any fun y => eqTp x y)) ∧ Kept [] w w' := by
 have h := AnyQ.slices_Contains Tryz.laysContTp 2 Tryz.isAgg384 Tryz.sizeOf384 encTp (fun _ => rfl) eqTp eqlTp b off n c zs x w hz hbig hc
 change Calls Tryz.prog 272 _ _ _ at h
 exact h.mono fun e w' ⟨h1, h2⟩ => ⟨h1, Below.kept h2⟩
theorem idxTp_nil (a : Option Addr) (c : Nat) (x : TP) (w : World) : Calls Tryz.prog 276 #[.slice a 0 c, tpV x] w fun e w' => e = .returned (.int .i64 (-1)) ∧ Kept [] w w' := by
 have HG := Zhd (fun o => (Kept.refl [] w).alloc o)
 go_enter Tryz.func276, Tryz.ntmps276
 go_wp2
 go_loopw [8] (fun i wr => i = .int .i64 0 ∧ Kept [] w wr) (fun _ _ => 0)
 case atStart => exact ⟨rfl, HG.out _⟩
 case round =>
  obtain ⟨rfl, hkw⟩ := hrel
  go_wp2
  go_ret
  exact ⟨rfl, hkw⟩
theorem contTp_nil (a : Option Addr) (c : Nat) (x : TP) (w : World) : Calls Tryz.prog 272 #[.slice a 0 c, tpV x] w fun e w' => e = .returned (.bool false) ∧ Kept [] w w' := by
 have HC := Zhd (idxTp_nil a c x)
 have HG := Zhd (fun o => (Kept.refl [] w).alloc o)
 go_enter Tryz.func272, Tryz.ntmps272
 go_wp2_with (go_at_call 276; refine (HC.out _).mono ?_; rintro e w' ⟨rfl, hk⟩)
 go_ret
 exact ⟨rfl, (HG.out _).trans hk (by simp) (by simp)⟩
theorem enc_at : ∀ (zs : List TP) (j : Nat), j < zs.length → ∀ i v, (encTp zs[j]!)[i]? = some v → (zs.flatMap encTp)[j * 2 + i]? = some v := by
 intro zs
 induction zs with
 | nil => intro j hj; simp at hj
 | cons z zs ih =>
   intro j hj i v hv
   have hi : i < 2 := by have := (List.getElem?_eq_some_iff.1 hv).1; simpa [encTp] using this
   cases j with
   | zero =>
     rw [List.flatMap_cons, List.getElem?_append_left (by simp [encTp]; omega)]
     simpa using hv
   | succ j =>
     rw [List.flatMap_cons, List.getElem?_append_right (by simp [encTp]; omega)]
     have := ih j (by simpa using hj) i v (by simpa using hv)
     have e : (j + 1) * 2 + i - (encTp z).length = j * 2 + i := by simp [encTp]; omega
     rw [e]; exact this
theorem contTp_at {w : World} {v : Value} {zs : List TP} (h : SlAt w 2 v zs.length (zs.flatMap encTp)) (x : TP) (hb : zs.length ≤ 9223372036854775807) :
 Calls Tryz.prog 272 #[v, tpV x] w fun e w' => e = .returned (.bool (zs.any fun y => eqTp x y)) ∧ Kept [] w w' := by
 rcases h.2.2 with ⟨a, c, rfl, h0⟩ | ⟨b, off, cap, rfl, hc⟩
 · have : zs = [] := List.eq_nil_of_length_eq_zero h0
   subst this
   exact contTp_nil a c x w
 · have := contTp_any b off zs.length cap zs x w (Nat.le_refl _) hb (fun j hj i u hi => by
    have h2 := hc (j * 2 + i) u (enc_at zs j hj i u hi)
    rw [show off + j * 2 + i = off + (j * 2 + i) by omega]; exact h2)
   simpa using this
theorem inclTp_at {w : World} {v : Value} {zs : List TP} (h : SlAt w 2 v zs.length (zs.flatMap encTp)) (x : TP) (hb : zs.length ≤ 9223372036854775807) :
 Calls Tryz.prog 266 #[v, tpV x] w fun e w' => e = .returned (.bool (zs.any fun y => eqTp x y)) ∧ Kept [] w w' := by
 have HC := Zhd (fun o => contTp_at (h.alloc o) x hb)
 have HG := Zhd (fun o => (Kept.refl [] w).alloc o)
 clear h
 go_enter Tryz.func266, Tryz.ntmps266
 go_wp2_with (go_at_call 272; refine (HC.out _).mono ?_; rintro e w' ⟨rfl, hk⟩)
 go_ret
 exact ⟨rfl, (HG.out _).trans hk (by simp) (by simp)⟩
end
section
open Go Go.Proofs Go.RowKit Go.Lib
open Classical
theorem tp_und : Tryz.prog.underlying 384 = some (.struct (Tryz.prog.fieldsOf 384)) := by kernel_rfl
theorem ba_inj (s t : ByteArray) : (s.toList = t.toList) ↔ s = t := by
 constructor
 · intro h
   rw [ByteArray.toList_eq, ByteArray.toList_eq] at h
   have h' := Array.toList_inj.1 h
   obtain ⟨s⟩ := s
   obtain ⟨t⟩ := t
   simp only at h'
   rw [h']
 · intro h; rw [h]
theorem equal_tp (a b : Value) (w : World) (ha : isTp a) (hb : isTp b) : (Op.equal 384 a b).run Tryz.prog w = .ok (decide (a = b)) w := by
 obtain ⟨s, n, rfl⟩ := ha
 obtain ⟨t, m, rfl⟩ := hb
 have u3 := Tryz.underlying3
 have hp : Tryz.prog.stoodInHeld 384 = false := by kernel_rfl
 unfold Op.equal
 rw [show Op.maxDepth = 9999 + 1 from rfl, run_equalIn_agg w 9999 384 _ _ tp_und hp]
 simp only [Program.fieldsOf, Tryz.underlying384]
 go_simp
 have hst := ba_inj s t
 by_cases h1 : s = t <;> by_cases h2 : n = m <;> simp [h1, h2, hst, ba_beq]
theorem check_tp (k : Value) (em : Bool) (w : World) (hk : isTp k) : (Instr.checkKey em 10000 384 k).run Tryz.prog w = .ok () w := by
 obtain ⟨s, n, rfl⟩ := hk
 have u9 := Tryz.underlying9
 have u21 := Tryz.underlying21
 obtain ⟨m, hm⟩ : ∃ m : Nat, (10000 : Nat) = m + 1 + 1 := ⟨9998, rfl⟩
 rw [hm]
 have c9 : ∀ v, (Instr.checkKey em (m + 1) 9 v).run Tryz.prog w = .ok () w := fun v => ck_plain u9 rfl v w m
 have c21 : ∀ v, (Instr.checkKey em (m + 1) 21 v).run Tryz.prog w = .ok () w := fun v => ck_plain u21 rfl v w m
 rw [Instr.checkKey]
 simp only [Sem.run_bind, run_underlying tp_und, Result.andThen_ok]
 simp only [Program.fieldsOf, Tryz.underlying384]
 go_simp
theorem keyT_tp : KeyT Tryz.prog 384 isTp where
 check := fun k em w hk => check_tp k em w hk
 find := fun k es w hk hes => findKey_of tp_und (fun v ⟨s, n, h⟩ => ⟨_, h⟩) (fun a b w ha hb => equal_tp a b w ha hb) k hk w es hes
 stay := by
  rintro k w ⟨s, n, rfl⟩
  exact stay_flat w (by simp [flat])
end
section
open Go Go.Proofs Go.RowKit Go.Lib
open Classical
theorem can_tp (r : Nat) (l : List (Value × Value)) (x : TP) (a : Option Addr) (n c : Nat) (w : World) (hm : MapAt w isTp r l) (hx : (tpV x, .slice a n c) ∈ l) :
 Calls Tryz.prog 248 #[tpV x, .map (some r)] w fun e w' => e = .returned (.bool (decide (2 ≤ n))) ∧ Kept [] w w' := by
 have hl := fun o => map_lookup_hit (P := Tryz.prog) (hm.alloc o) keyT_tp Tryz.underlying382 hx false
 have hl' : ∀ o, (Instr.lookup 382 (.map (some r)) (tpV x) false).run Tryz.prog (w.alloc o) = .ok (.slice a n c) (w.alloc o) := fun o => by simpa using hl o
 have HG := Zhd (fun o => (Kept.refl [] w).alloc o)
 clear hl hx
 by_cases h2 : 2 ≤ n
 · have e2 : decide (2 ≤ n) = true := by simpa using h2
   rw [e2]; clear e2
   have h3 : (2 : Int) ≤ (n : Int) := by omega
   go_enter Tryz.func248, Tryz.ntmps248
   go_wp2
   go_ret
   exact ⟨by simp [h3], HG.out _⟩
 · have e2 : decide (2 ≤ n) = false := by simpa using h2
   rw [e2]; clear e2
   have h3 : ¬ (2 : Int) ≤ (n : Int) := by omega
   go_enter Tryz.func248, Tryz.ntmps248
   go_wp2
   go_ret
   exact ⟨by simp [h3], HG.out _⟩
end
section
open Go Go.Proofs Go.RowKit Go.Lib
open Classical
theorem tp_get {zs : List TP} {k : Nat} {x : TP} (h : zs[k]? = some x) : (zs.flatMap encTp)[k * 2]? = some (.string x.1) ∧ (zs.flatMap encTp)[k * 2 + 1]? = some (.int .i32 x.2) := by
 obtain ⟨hk, rfl⟩ := List.getElem?_eq_some_iff.1 h
 have h1 := enc_at zs k hk 0 (.string zs[k].1) (by simp [encTp, hk])
 have h2 := enc_at zs k hk 1 (.int .i32 zs[k].2) (by simp [encTp, hk])
 exact ⟨h1, h2⟩
theorem can_member (m : ByteArray) (rc rp rq : Nat) (lc lp lq : List (Value × Value)) (ac ap : Option Addr) (nc cc np cp : Nat) (zs : List TP) (B : Bool) (w : World)
 (h1 : MapAt w isStr rc lc) (h2 : MapAt w isStr rp lp) (h3 : MapAt w isTp rq lq) (e1 : (.string m, .slice ac nc cc) ∈ lc) (e2 : (.string m, .slice ap np cp) ∈ lp)
 (hs : SlAt w 2 (.slice ac nc cc) nc (zs.flatMap encTp)) (hz : zs.length = nc) (hb : nc ≤ maxLen) (hle : nc ≤ np) (hq : ∀ x ∈ zs, ∃ a n c, (tpV x, .slice a n c) ∈ lq ∧ decide (2 ≤ n) = B) :
 Calls Tryz.prog 250 #[.string m, .map (some rc), .map (some rp), .map (some rq)] w fun e w' => e = .returned (.bool (decide (nc < np) || (B && decide (0 < nc)))) ∧ Kept [] w w' := by
 have hmx : maxLen = 9223372036854775807 := rfl
 have hgt : ¬ (np : Int) < (nc : Int) := by omega
 have l1 : (Instr.lookup 378 (.map (some rc)) (.string m) false).run Tryz.prog w = .ok (.slice ac nc cc) w := by
  simpa using map_lookup_hit (P := Tryz.prog) h1 (keyT_str Tryz.underlying9) Tryz.underlying378 e1 false
 have l2 : (Instr.lookup 378 (.map (some rp)) (.string m) false).run Tryz.prog w = .ok (.slice ap np cp) w := by
  simpa using map_lookup_hit (P := Tryz.prog) h2 (keyT_str Tryz.underlying9) Tryz.underlying378 e2 false
 clear h1 h2 e1 e2
 have HQ := Zhd hq; clear hq
 have H3 := Zhd h3; clear h3
 have HS := Zhd hs; clear hs
 have HZ := Zhd hz; clear hz
 by_cases hlt : nc < np
 · have hlt' : (nc : Int) < np := by omega
   go_enter Tryz.func250, Tryz.ntmps250
   go_wp2
   go_ret
   exact ⟨by simp [hlt], Kept.refl _ _⟩
 · have hlt' : ¬ (nc : Int) < np := by omega
   go_enter Tryz.func250, Tryz.ntmps250
   go_wp2
   go_loopw [31] (fun i wr => ∃ k : Nat, k ≤ nc ∧ (k = 0 ∨ B = false) ∧ i = .int .i64 k ∧ Kept [] w wr) (fun i _ => nc - (intOf i).toNat)
   case atStart => exact ⟨0, Nat.zero_le _, .inl rfl, rfl, Kept.refl _ _⟩
   case round =>
    obtain ⟨k, hk, hkB, rfl, hkw⟩ := hrel
    have HKB := Zhd hkB; clear hkB
    by_cases hkn : k < nc
    · obtain ⟨x, hkx⟩ : ∃ x, zs[k]? = some x := ⟨_, List.getElem?_eq_getElem (by have := HZ.out; omega)⟩
      obtain ⟨g1, g2⟩ := tp_get hkx
      obtain ⟨a', n', c', hin, hB⟩ := HQ.out x (List.mem_of_getElem? hkx)
      obtain ⟨_, hcase⟩ := HS.out.cases
      rcases hcase with ⟨_, h0, _⟩ | ⟨g, off, hva, hcell⟩
      · omega
      cases hva
      have c1 := hkw.cell (p := ⟨g, off + k * 2, none⟩) (hcell _ _ g1) (by simp)
      have c2 := hkw.cell (p := ⟨g, off + (k * 2 + 1), none⟩) (hcell _ _ g2) (by simp)
      rw [← Nat.add_assoc] at c2
      have hcan := fun w' (k' : Kept [] w w') => can_tp rq lq x a' n' c' w' (H3.out.kept k' (by simp)) hin
      rw [hB] at hcan
      have HC := Zhd hcan; clear hcan
      clear hcell g1 g2 hkx hin hB
      cases B
      · go_wp2_with
         (go_at_call 248
          refine (HC.out _ (hkw.alloc _)).mono ?_
          rintro e w1 ⟨rfl, hk1⟩
          have hk2 : Kept [] w w1 := (hkw.alloc _).trans hk1 (by simp) (by simp))
        go_roundw
        case rel => exact ⟨k + 1, by omega, .inr (by trivial), by go_num, hk2⟩
        case measure => simp [intOf]; omega
      · go_wp2_with
         (go_at_call 248
          refine (HC.out _ (hkw.alloc _)).mono ?_
          rintro e w1 ⟨rfl, hk1⟩
          have hk2 : Kept [] w w1 := (hkw.alloc _).trans hk1 (by simp) (by simp))
        go_ret
        exact ⟨by simp; omega, hk2⟩
    · have hkB := HKB.out
      go_wp2
      go_ret
      refine ⟨?_, hkw⟩
      have e1 : decide (nc < np) = false := by simpa using hlt
      rw [e1]
      rcases hkB with rfl | rfl
      · have : nc = 0 := by omega
        simp [this]
      · simp
end
section
open Go Go.Proofs Go.RowKit Go.Lib
theorem swap_ids (B g off n c : Nat) (w : World) (x y : ByteArray) (i j : Nat) (hi : i < n) (hj : j < n) (hn : n < 4611686018427387904)
 (hB : w.cell? ⟨B, 0, none⟩ = some (.slice (some ⟨g, off, none⟩) n c)) (hBg : B ≠ g)
 (ci : w.cell? ⟨g, off + i, none⟩ = some (.string x)) (cj : w.cell? ⟨g, off + j, none⟩ = some (.string y)) (fi : w.frozen? ⟨g, off + i, none⟩ = false) (fj : w.frozen? ⟨g, off + j, none⟩ = false) :
 Calls Tryz.prog 245 #[.int .i64 i, .int .i64 j, .pointer (some ⟨B, 0, none⟩)] w fun e w' => e = .returned (.tuple #[]) ∧ ∃ q, w' = ((w.setCell ⟨g, off + i, none⟩ (.string y)).setCell ⟨g, off + j, none⟩ (.string x)).drewN q := by
 obtain ⟨v', hy'⟩ := cell?_setCell_some (w := w) (p := ⟨g, off + i, none⟩) (x := .string y) (q := ⟨g, off + j, none⟩) cj
 go_enter Tryz.func245, Tryz.ntmps245
 go_wp2
 go_region
 all_goals (try go_wp2)
 all_goals go_end0
 all_goals exact ⟨rfl, 1, rfl⟩
end
section
open Go Go.Proofs Go.RowKit Go.Lib
def idLt (x : ByteArray × Nat) (y : ByteArray × Nat) : Bool := if x.2 = y.2 then Op.bytesLess x.1.toList y.1.toList else decide (x.2 < y.2)
theorem drewN_two (w : World) (a b : Nat) : ∃ q, (w.drewN a).drewN b = w.drewN q := ⟨_, World.drewN_drewN ..⟩
theorem less_ids (A B g off n c r : Nat) (l : List (Value × Value)) (w : World) (x y : ByteArray) (ax ay : Option Addr) (nx ny cx cy : Nat) (i j : Nat) (hi : i < n) (hj : j < n) (hn : n < 4611686018427387904)
 (hx : nx ≤ 1000000000) (hy : ny ≤ 1000000000)
 (hA : w.cell? ⟨A, 0, none⟩ = some (.map (some r)))
 (hB : w.cell? ⟨B, 0, none⟩ = some (.slice (some ⟨g, off, none⟩) n c))
 (ci : w.cell? ⟨g, off + i, none⟩ = some (.string x)) (cj : w.cell? ⟨g, off + j, none⟩ = some (.string y))
 (hm : MapAt w isStr r l) (ex : (.string x, .slice ax nx cx) ∈ l) (ey : (.string y, .slice ay ny cy) ∈ l) :
 Calls Tryz.prog 246 #[.int .i64 i, .int .i64 j, .pointer (some ⟨A, 0, none⟩), .pointer (some ⟨B, 0, none⟩)] w fun e w' => e = .returned (.bool (idLt (x, nx) (y, ny))) ∧ ∃ q, w' = w.drewN q := by
 have l1 : ∀ q, (Instr.lookup 378 (.map (some r)) (.string x) false).run Tryz.prog (w.drewN q) = .ok (.slice ax nx cx) (w.drewN q) := fun q => by
  simpa using map_lookup_hit (P := Tryz.prog) (hm.kept ((Kept.refl [] w).drewN q) (by simp)) (keyT_str Tryz.underlying9) Tryz.underlying378 ex false
 have l2 : ∀ q, (Instr.lookup 378 (.map (some r)) (.string y) false).run Tryz.prog (w.drewN q) = .ok (.slice ay ny cy) (w.drewN q) := fun q => by
  simpa using map_lookup_hit (P := Tryz.prog) (hm.kept ((Kept.refl [] w).drewN q) (by simp)) (keyT_str Tryz.underlying9) Tryz.underlying378 ey false
 have l10 := l1 0
 have l20 := l2 0
 simp only [World.drewN_zero] at l10 l20
 clear hm ex ey
 by_cases h : nx = ny
 · subst h
   have e : idLt (x, nx) (y, nx) = Op.bytesLess x.toList y.toList := by simp [idLt]
   rw [e]; clear e
   go_enter Tryz.func246, Tryz.ntmps246
   go_wp2
   go_quiet (fail)
   go_wp2
   go_quiet (fail)
   go_wp2
   go_ret
   exact ⟨rfl, drewN_two _ _ _⟩
 · have e : idLt (x, nx) (y, ny) = decide (nx < ny) := by simp [idLt, h]
   rw [e]; clear e
   have h0 : ¬ ((nx : Int) - ny = 0) := by omega
   have hw : IntKind.i64.wrap ((nx : Int) - ny) = (nx : Int) - ny := by rw [IntKind.wrap_i64]; omega
   go_enter Tryz.func246, Tryz.ntmps246
   go_wp2
   go_quiet (fail)
   go_wp2
   go_quiet (fail)
   go_wp2
   go_ret
   exact ⟨by simp, drewN_two _ _ _⟩
end
section
open Go Go.Proofs Go.RowKit Go.Lib
open Classical
end
end Go.Proofs.YticcnlpfmekagaaGreat
