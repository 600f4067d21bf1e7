/- Part 5 of the proof of the row: Share, Big, Safe. -/
import Derived.Test.YticcnlpfmekagaaGreatRc00
import Derived.Test.YticcnlpfmekagaaGreatRc04
import Derived.Defers
import Derived.Recover
set_option linter.unusedVariables false
set_option linter.unusedSimpArgs false
set_option maxRecDepth 100000
set_option maxHeartbeats 8000000
namespace Go.Proofs.YticcnlpfmekagaaGreat
section
open Go Go.Proofs Go.RowKit
theorem infoI32 : (Tryz.prog.info? 21).map (fun i => (i.zero, i.size, i.bytes)) = some (some (.int .i32 0), 1, 4) := by kernel_rfl
theorem elI32 : Elem Tryz.prog 31 21 1 4 (.int .i32 0) := ⟨Tryz.underlying31, info_parts infoI32, rfl, by omega⟩
theorem own_new {w : World} (E sz : Nat) : (w.alloc (.cells #[] E)).ownsRow 0 E sz (.slice (some ⟨w.heap.size, 0, none⟩) 0 0) 0 [] :=
 World.ownsRow_made w #[] 0 (Nat.zero_le _) (by simp [maxLen]) (by simp)
theorem own_cap {w : World} {E sz n : Nat} {v : Value} {cs : List Value} (h : w.ownsRow 0 E sz v n cs) : ∃ a c, v = .slice a n c ∧ n ≤ c := by
 rcases h.2 with ⟨rfl, rfl⟩ | ⟨g, cap, cur, rfl, _, _, h1, _⟩
 · exact ⟨_, _, rfl, Nat.le_refl _⟩
 · exact ⟨_, _, rfl, h1⟩
theorem clone_i32 (v : Value) (xs : List Int) (w : World) (hv : SlInts w v xs) (hn : xs.length ≤ 4000000000) :
 Calls Tryz.prog 62 #[v] w fun e w' => ∃ v', e = .returned v' ∧ SlInts w' v' xs ∧ Kept [] w w' ∧ (∀ g, v'.ownBlock = some g → w.heap.size ≤ g ∧ g < w'.heap.size) ∧ (∃ a c, v' = .slice a xs.length c ∧ xs.length ≤ c) := by
 obtain ⟨⟨a, c, rfl⟩, hsl, hx⟩ := hv
 obtain ⟨_, hcase⟩ := hsl.cases
 have hnil := fun w => Lib.run_eql_slice_nil (P := Tryz.prog) w 31 21 a xs.length c 0 0 Tryz.underlying31
 clear hcase
 cases a with
 | none =>
   have hxs : xs = [] := by
    rcases hsl.2.2 with ⟨a', c', h1, h2⟩ | ⟨g', off', c', h1, _⟩
    · exact List.eq_nil_of_length_eq_zero h2
    · cases h1
   subst hxs
   clear hsl
   simp only [List.length_nil] at hnil ⊢
   go_enter Tryz.func62, Tryz.ntmps62
   go_wp2
   go_ret
   exact ⟨_, rfl, ⟨⟨none, 0, rfl⟩, SlAt.nil _ _, by simp⟩, Kept.refl _ _, by simp [Value.ownBlock], by simp⟩
 | some a =>
   have hsrc := (hsl.alloc (.cells #[] 21)).src Tryz.underlying31
   have HS := Zhd hsrc; clear hsrc
   have HX := Zhd hx; clear hx
   clear hsl
   go_enter Tryz.func62, Tryz.ntmps62
   go_wp2_with (refine wl_app (v := .slice (some ⟨w.heap.size, 0, none⟩) 0 0) rfl rfl elI32 rfl rfl (own_new 21 1) HS.out (by omega) (by omega) ?_; intro v' w1 hown hk hd)
   go_ret
   have hk' : Kept [] w w1 := ((Kept.refl [] w).alloc _).trans hk (by simp) (by simp [Value.ownBlock])
   rw [List.nil_append, Nat.zero_add] at hown
   have hsl' := own_sl hown (by intro u hu; obtain ⟨x, _, rfl⟩ := List.mem_map.1 hu; rfl)
   refine ⟨v', rfl, ⟨?_, hsl', HX.out⟩, hk', ?_, own_cap hown⟩
   · rcases hsl'.2.2 with ⟨a', c', h1, h2⟩ | ⟨g', off', c', h1, _⟩
     · rw [h1, h2]; exact ⟨_, _, rfl⟩
     · rw [h1]; exact ⟨_, _, rfl⟩
   · intro g' hg'
     rcases hd with ⟨h1, h2⟩ | ⟨h1, h2⟩
     · rw [h1] at hg'; simp [Value.ownBlock] at hg'; simp only [World.size_alloc] at h2; omega
     · rw [h1] at hg'; simp only [Option.some.injEq, World.size_alloc] at hg' h2; omega
structure Shr where
 mem : ByteArray
 top : ByteArray
 val : Value
 parts : List Int
def shrCells (x : Shr) : List Value := [.string x.mem, .string x.top, x.val]
structure ShrsAt (w : World) (v : Value) (L : List Shr) : Prop where
 form : ∃ a c, v = .slice a L.length c
 cells : SlAt w 3 v L.length (L.flatMap shrCells)
 parts : ∀ x ∈ L, SlInts w x.val x.parts
theorem ShrsAt.kept {w w' : World} {v : Value} {L : List Shr} {S : List Nat} (h : ShrsAt w v L) (k : Kept S w w') (h1 : ∀ g, v.ownBlock = some g → g ∉ S) (h2 : ∀ x ∈ L, ∀ g, x.val.ownBlock = some g → g ∉ S) : ShrsAt w' v L :=
 ⟨h.form, h.cells.kept k h1, fun x hx => (h.parts x hx).kept k (h2 x hx)⟩
theorem shr_get {L : List Shr} {k : Nat} {x : Shr} (h : L[k]? = some x) : (L.flatMap shrCells)[k * 3]? = some (.string x.mem) ∧ (L.flatMap shrCells)[k * 3 + 1]? = some (.string x.top) ∧ (L.flatMap shrCells)[k * 3 + 2]? = some x.val := by
 induction L generalizing k with
 | nil => simp at h
 | cons y L ih =>
   cases k with
   | zero => simp at h; subst h; simp [shrCells]
   | succ k =>
     simp at h
     have := ih h
     have e : (k + 1) * 3 = 3 + k * 3 := by omega
     simp only [List.flatMap_cons, e, Nat.add_assoc]
     have hl : (shrCells y).length = 3 := rfl
     refine ⟨?_, ?_, ?_⟩
     · rw [List.getElem?_append_right (by omega), hl]; simpa using this.1
     · rw [List.getElem?_append_right (by omega), hl]; simpa using this.2.1
     · rw [List.getElem?_append_right (by omega), hl]; simpa using this.2.2
def CapOk (x : ByteArray × Value × List Int) : Prop := ∃ a c, x.2.1 = .slice a x.2.2.length c ∧ x.2.2.length ≤ c
def topOf (x : Shr) : ByteArray × List Int := (x.top, x.parts)
def tops2 (D : Tops) : List (ByteArray × List Int) := D.map fun x => (x.1, x.2.2)
theorem topicMap_any (v : Value) (L : List Shr) (w : World) (hv : ShrsAt w v L) (hn : L.length ≤ 1000000) (hnd : (L.map (·.top)).Nodup) (hsz : ∀ x ∈ L, x.parts.length ≤ 1000000) :
 Calls Tryz.prog 47 #[v] w fun e w' => ∃ D : Tops, e = .returned (.map (some w.heap.size)) ∧ tops2 D = L.map topOf ∧ TopsAt w' w.heap.size D ∧ Kept [] w w' ∧ (∀ x ∈ D, ∀ g, x.2.1.ownBlock = some g → w.heap.size < g ∧ g < w'.heap.size) ∧ (∀ x ∈ D, CapOk x) := by
 obtain ⟨⟨a, c, rfl⟩, hcells, hparts⟩ := hv
 obtain ⟨_, hcase⟩ := hcells.cases
 have hmm := @run_makeMap Tryz.prog
 generalize hLn : L.length = n at *
 rcases hcase with ⟨_, h0, hcs⟩ | ⟨g, off, rfl, hcell⟩
 · have hL0 : L = [] := List.eq_nil_of_length_eq_zero (by omega)
   subst hL0
   subst h0
   have h0 : TopsAt (w.alloc (.map #[] 0)) w.heap.size [] := ⟨MapAt.new w isStr, by simp⟩
   clear hLn hcs
   go_enter Tryz.func47, Tryz.ntmps47
   go_wp2
   go_loopw [9] (fun i wr => i = .int .i64 0 ∧ wr = w.alloc (.map #[] 0)) (fun i _ => 0)
   case atStart => exact ⟨rfl, rfl⟩
   case round =>
    obtain ⟨rfl, rfl⟩ := hrel
    go_wp2
    go_ret
    exact ⟨[], rfl, by simp [tops2], h0, (Kept.refl _ _).alloc _, by simp, by simp⟩
 · have HLN := Zhd hLn; clear hLn
   have HC := Zhd hcell; clear hcell
   have HP := Zhd hparts; clear hparts
   have HSZ := Zhd hsz; clear hsz
   clear hcells
   have h0 : TopsAt (w.alloc (.map #[] 0)) w.heap.size [] := ⟨MapAt.new w isStr, by simp⟩
   go_enter Tryz.func47, Tryz.ntmps47
   go_wp2
   go_loopw [9] (fun i wr => ∃ k : Nat, ∃ D : Tops, k ≤ n ∧ i = .int .i64 k ∧ tops2 D = (L.take k).map topOf ∧ TopsAt wr w.heap.size D ∧ Kept [] w wr ∧ (∀ x ∈ D, ∀ g, x.2.1.ownBlock = some g → w.heap.size < g ∧ g < wr.heap.size) ∧ w.heap.size < wr.heap.size ∧ (∀ x ∈ D, CapOk x)) (fun i _ => n - (intOf i).toNat)
   case atStart => exact ⟨0, [], Nat.zero_le _, rfl, by simp [tops2], h0, (Kept.refl _ _).alloc _, by simp, by simp, by simp⟩
   case round =>
    obtain ⟨k, D, hk, rfl, hD, hT, hkw, hfr, hlt, hcap⟩ := hrel
    by_cases hlt : k < n
    · obtain ⟨x, hkx⟩ : ∃ x, L[k]? = some x := ⟨_, List.getElem?_eq_getElem (by have := HLN.out; omega)⟩
      obtain ⟨g1, g2, g3⟩ := shr_get hkx
      have hxL : x ∈ L := List.mem_of_getElem? hkx
      have c1 := hkw.cell (p := ⟨g, off + k * 3, none⟩) (HC.out _ _ g1) (by simp)
      have c2 := hkw.cell (p := ⟨g, off + (k * 3 + 1), none⟩) (HC.out _ _ g2) (by simp)
      have c3 := hkw.cell (p := ⟨g, off + (k * 3 + 2), none⟩) (HC.out _ _ g3) (by simp)
      rw [← Nat.add_assoc] at c2 c3
      have hsl := (HP.out x hxL).kept hkw (by simp)
      obtain ⟨pa, pc, hval⟩ := hsl.1
      rw [hval] at c3 hsl
      have hcl := clone_i32 _ _ (((wr.alloc (.cells #[.string x.mem, .string x.top, .slice pa x.parts.length pc] 33))).drew) (hsl.kept (((Kept.refl [] wr).alloc _).drew) (by simp)) (by have := HSZ.out x hxL; omega)
      have HCL := Zhd hcl; clear hcl hval
      have HSL := Zhd hsl; clear hsl
      have hT0 := hT.kept (((Kept.refl [] wr).alloc (.cells #[.string x.mem, .string x.top, .slice pa x.parts.length pc] 33)).drew) (by simp) (by simp)
      have HT := Zhd hT0; clear hT0
      have hS : ∀ w', Kept [] ((wr.alloc (.cells #[.string x.mem, .string x.top, .slice pa x.parts.length pc] 33))).drew w' → w'.cell? ⟨wr.heap.size, 1, none⟩ = some (.string x.top) ∧ w'.cell? ⟨wr.heap.size, 2, none⟩ = some (.slice pa x.parts.length pc) := fun w' k =>
       ⟨k.cell (p := ⟨wr.heap.size, 1, none⟩) (by simp) (by simp), k.cell (p := ⟨wr.heap.size, 2, none⟩) (by simp) (by simp)⟩
      have HS := Zhd hS; clear hS
      have HK := Zhd hkx; clear hkx g1 g2 g3
      have HD := Zhd hD; clear hD
      go_wp2
      go_region_held3 (fun w' => w'.cell? ⟨wr.heap.size, 1, none⟩ = some (.string x.top) ∧ w'.cell? ⟨wr.heap.size, 2, none⟩ = some (.slice pa x.parts.length pc))
       (first | exact HS.out _ (Kept.refl _ _) | exact HS.out _ hk1 | (refine ⟨hk2.cell (HS.out _ hk1).1 (by simp; omega), hk2.cell (HS.out _ hk1).2 (by simp; omega)⟩))
       (first | (go_at_call 62; refine HCL.out.mono ?_; rintro e w1 ⟨v1, rfl, hsl1, hk1, hg1, hcp1⟩) | (refine up_update (fun _ _ => rfl) (keyT_str Tryz.underlying9) Tryz.underlying90 ((HT.out.kept hk1 (by simp) (by simp)).map) ⟨_, rfl⟩ ?_; intro w2 hm2 hk2 hs2))
      have hsz1 := hk1.size
      simp only [World.size_drew, World.size_alloc] at hsz1
      have hk1' : Kept [] wr w1 := ((Kept.refl [] wr).alloc _).trans hk1.of_drew (by simp) (by simp)
      have hk12 : Kept [w.heap.size] wr w2 := hk1'.trans hk2 (by simp) (by simp)
      have hD' : tops2 (D ++ [(x.top, v1, x.parts)]) = (L.take (k + 1)).map topOf := by
       obtain ⟨hk', hx'⟩ := List.getElem?_eq_some_iff.1 HK.out
       rw [List.take_succ_eq_append_getElem hk', hx', List.map_append, ← HD.out]
       simp [tops2, topOf]
      have hmiss : ∀ u, (Value.string x.top, u) ∉ rawT D := by
       intro u hu
       unfold rawT at hu
       obtain ⟨y, hy, hye⟩ := List.mem_map.1 hu
       have hyt : y.1 = x.top := by simpa using (Prod.mk.inj hye).1
       have hmem : x.top ∈ (L.take k).map (·.top) := by
        have : (y.1, y.2.2) ∈ (L.take k).map topOf := by rw [← HD.out]; exact List.mem_map_of_mem (f := fun x : ByteArray × Value × List Int => (x.1, x.2.2)) hy
        obtain ⟨z, hz, hze⟩ := List.mem_map.1 this
        exact List.mem_map.2 ⟨z, hz, by rw [← hyt]; exact (Prod.mk.inj hze).1⟩
       obtain ⟨hk', hx'⟩ := List.getElem?_eq_some_iff.1 HK.out
       have hsplit : L.map (·.top) = (L.take k).map (·.top) ++ x.top :: (L.drop (k + 1)).map (·.top) := by
        conv => lhs; rw [← List.take_append_drop k L, List.drop_eq_getElem_cons hk', hx']
        simp
       rw [hsplit] at hnd
       exact (List.nodup_append.1 hnd).2.2 _ hmem _ (by simp) rfl
      have hm2' : MapAt w2 isStr w.heap.size (rawT (D ++ [(x.top, v1, x.parts)])) := by
       rw [putE_miss hmiss] at hm2
       simpa [rawT] using hm2
      have hfr' : ∀ y ∈ D ++ [(x.top, v1, x.parts)], ∀ g, y.2.1.ownBlock = some g → w.heap.size < g ∧ g < w2.heap.size := by
       intro y hy g hg
       rcases Zap.1 hy with hy | hy
       · have := hfr y hy g hg; omega
       · simp only [Zmc, Znn, or_false] at hy
         subst hy
         have := hg1 g hg
         simp only [World.size_drew, World.size_alloc] at this
         omega
      have hT2 : TopsAt w2 w.heap.size (D ++ [(x.top, v1, x.parts)]) := by
       refine ⟨hm2', fun y hy => ?_⟩
       rcases Zap.1 hy with hy | hy
       · exact (hT.parts y hy).kept hk12 (fun g hg => by have := hfr y hy g hg; simp; omega)
       · simp only [Zmc, Znn, or_false] at hy
         subst hy
         exact hsl1.kept hk2 (fun g hg => by have := hg1 g hg; simp only [World.size_drew, World.size_alloc] at this; simp; omega)
      have hcap' : ∀ y ∈ D ++ [(x.top, v1, x.parts)], CapOk y := by
       intro y hy
       rcases Zap.1 hy with hy | hy
       · exact hcap y hy
       · simp only [Zmc, Znn, or_false] at hy
         subst hy
         exact hcp1
      have hkw2 : Kept [] w w2 := hkw.trans hk12 (by simp) (by simp)
      have hlt2 : w.heap.size < w2.heap.size := by omega
      go_wp2
      go_roundw
      case rel => exact ⟨k + 1, _, by omega, by go_num, hD', hT2, hkw2, hfr', hlt2, hcap'⟩
      case measure => simp [intOf]; omega
    · go_wp2
      go_ret
      rw [List.take_of_length_le (by have := HLN.out; omega)] at hD
      exact ⟨D, rfl, hD, hT, hkw, hfr, hcap⟩
end
section
open Go Go.Proofs Go.RowKit
theorem elU8 : Elem Tryz.prog 28 5 1 1 (.int .u8 0) := ⟨Tryz.underlying28, info_parts info5', rfl, by omega⟩
end
section
open Go Go.Proofs Go.RowKit
def HasBody (f : FuncId) : Prop := ∀ (args : Array Value) (w : World), (callFunc f args).run Tryz.prog w = .ok (.enter f args) w
theorem catch_idle (p : Addr) (w : World) (x : Value) (hc : w.cell? p = some x) (hz : w.frozen? p = false) :
 CallsD Tryz.prog 72 #[.pointer (some p)] .returning w fun e u' w' => e = .returned (.tuple #[]) ∧ u' = .returning ∧ w' = w.setCell p (.bool true) := by
 refine callsD_of_wpS Tryz.func72 rfl fun c₀ cs hu => ?_
 apply wpS_region
 simp [wpOpsS, go_sem, recoverD, hu, Tryz.ntmps72, Exit.thenS, hc, hz, bodyPostS, results, Tryz.results72]
 cases c₀
 simp_all
theorem safe_any (f : FuncId) (cap : Array Value) (w : World) (R : World → Prop) (S : List Nat) (hf : HasBody f) (hS : ∀ x ∈ S, x < w.heap.size)
 (h : Calls Tryz.prog f cap (w.alloc (.cells #[.bool false] 4)) fun e w' => e = .returned (.tuple #[]) ∧ R w' ∧ Kept S (w.alloc (.cells #[.bool false] 4)) w') :
 Calls Tryz.prog 43 #[.func (.func f) #[] cap] w fun e w' => e = .returned (.bool true) ∧ ∃ w1, R w1 ∧ Kept S w w1 ∧ Kept [w.heap.size] w1 w' := by
 have HH := Zhd h; clear h
 unfold HasBody at hf
 go_enter_defers Tryz.func43, Tryz.ntmps43
 go_wp2_with fail
 refine HH.out.mono ?_
 rintro e w1 ⟨rfl, hR, hk⟩
 have hne : w.heap.size ∉ S := fun hx => Nat.lt_irrefl _ (hS _ hx)
 have hc : w1.cell? ⟨w.heap.size, 0, none⟩ = some (.bool false) :=
  hk.cell (p := ⟨w.heap.size, 0, none⟩) (by simp [go_sem]) hne
 have hz : w1.frozen? ⟨w.heap.size, 0, none⟩ = false :=
  hk.frz (p := ⟨w.heap.size, 0, none⟩) (by simp [go_sem]) (by simp [go_sem]) hne
 have hlt : w.heap.size < w1.heap.size := by have := hk.size; simp [go_sem] at this; omega
 go_wp2_with fail
 refine leaves_cons (f := 72) (args := #[.pointer (some ⟨w.heap.size, 0, none⟩)]) (by simp) (by simp [go_sem]) ?_
 refine (catch_idle ⟨w.heap.size, 0, none⟩ _ (.bool true) ?_ ?_).mono ?_
 · simp [go_sem, hc]
 · simp [go_sem, hz]
 rintro e u' w'' ⟨rfl, rfl, rfl⟩
 have h1 : Kept S w w1 := ((Kept.refl S w).alloc _).trans hk (fun x hx => hx) (fun x hx _ => hx)
 have h2 : Kept [w.heap.size] w1 ((w1.setCell ⟨w.heap.size, 0, none⟩ (.bool true)).setCell ⟨w.heap.size, 0, none⟩ (.bool true)) :=
  ((Kept.refl _ _).setCell _ (by simp)).setCell _ (by simp)
 simp [Leaves, settle, results, Tryz.results43, go_sem, hc]
 exact ⟨w1, hR, h1, h2⟩
end
end Go.Proofs.YticcnlpfmekagaaGreat
