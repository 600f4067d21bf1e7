/- Part 44 of the proof of the row: LwA, LwB, Told. -/
import Derived.Test.YticcnlpfmekagaaGreatRc00
import Derived.Test.YticcnlpfmekagaaGreatRc25
import Derived.Test.YticcnlpfmekagaaGreatRc43
import Derived.Test.YticcnlpfmekagaaGreatRc09
import Derived.Test.YticcnlpfmekagaaGreatRc19
set_option linter.unusedVariables false
set_option linter.unusedSimpArgs false
set_option maxRecDepth 100000
set_option maxHeartbeats 8000000
namespace Go.Proofs.YticcnlpfmekagaaGreat
section
open Go Go.Proofs Go.RowKit Go.Lib
def BoolIf (e : Ending) (p : Prop) : Prop := (e = .returned (.bool true) ∧ p) ∨ e = .returned (.bool false)
def lowB (s : ByteArray) (k : Nat) : Bool := match s.toList[k]? with | some b => decide (97 ≤ b.toNat) && decide (b.toNat ≤ 122) | none => true
def wordB (s : ByteArray) : Bool := ((List.range s.size).all (lowB s)) && (decide (0 < s.size) && decide (s.size ≤ 20))
theorem ba_get (s : ByteArray) (k : Nat) (h : k < s.size) : s.toList[k]? = some s[k] := by
 rw [ByteArray.toList_eq]
 rw [Array.getElem?_toList]
 exact Array.getElem?_eq_getElem h
def WordRel (w : World) (s : ByteArray) (n : Nat) (i : Value) (wr : World) : Prop := wr = w ∧ ∃ k : Nat, i = .int .i64 k ∧ k ≤ n ∧ ∀ j < k, lowB s j = true
theorem word_any (s : ByteArray) (hs : s.size ≤ maxLen) (w : World) : Calls Tryz.prog 40 #[.string s] w fun e w' => e = .returned (.bool (wordB s)) ∧ w' = w := by
 have hmx : maxLen = 9223372036854775807 := rfl
 obtain ⟨n, hn⟩ : ∃ n, s.size = n := ⟨_, rfl⟩
 have hwB : wordB s = (((List.range n).all (lowB s)) && (decide (0 < n) && decide (n ≤ 20))) := by unfold wordB; rw [hn]
 have HB := Zhd hwB; clear hwB
 go_enter Tryz.func40, Tryz.ntmps40
 go_wp2_with fail
 go_loopw [3] (fun i wr => WordRel w s n i wr) (fun i _ => n - (intOf i).toNat)
 case atStart => exact ⟨rfl, 0, rfl, Nat.zero_le _, fun j hj => by omega⟩
 case round =>
  obtain ⟨rfl, k, rfl, hk, hall⟩ := hrel
  by_cases hkn : k < n
  · have hki : (k : Int) < (n : Int) := by omega
    have hn' : n ≤ 9223372036854775807 := by omega
    have hks : k < s.size := by omega
    have hlow : lowB s k = (decide (97 ≤ s[k].toNat) && decide (s[k].toNat ≤ 122)) := by unfold lowB; rw [ba_get s k hks]
    have HA := Zhd (Zan hall hlow); clear hall hlow
    by_cases h1 : ((s[k].toNat : Nat) : Int) < 97
    · have hf : wordB s = false := by
       rw [HB.out, Bool.and_eq_false_iff]
       left
       rw [List.all_eq_false]
       exact ⟨k, List.mem_range.2 hkn, by rw [HA.out.2]; simp; omega⟩
      have HF := Zhd hf; clear hf
      go_wp2_with fail
      go_ret
      exact ⟨by rw [HF.out]; rfl, rfl⟩
    · by_cases h2 : (122 : Int) < ((s[k].toNat : Nat) : Int)
      · have hf : wordB s = false := by
         rw [HB.out, Bool.and_eq_false_iff]
         left
         rw [List.all_eq_false]
         exact ⟨k, List.mem_range.2 hkn, by rw [HA.out.2]; simp; omega⟩
        have HF := Zhd hf; clear hf
        go_wp2_with fail
        go_ret
        exact ⟨by rw [HF.out]; rfl, rfl⟩
      · go_wp2_with fail
        refine ⟨⟨rfl, k + 1, by go_num, by omega, fun j hj => ?_⟩, by simp [intOf]; omega⟩
        by_cases e : j = k
        · subst e
          rw [HA.out.2]; simp; omega
        · exact HA.out.1 j (by omega)
  · obtain rfl : k = n := by omega
    have hall2 : ((List.range k).all (lowB s)) = true := List.all_eq_true.2 (fun j hj => hall j (List.mem_range.1 hj))
    rw [hall2, Bool.true_and] at HB
    clear hall hall2
    by_cases h0 : (0 : Int) < (k : Int)
    · by_cases h1 : (k : Int) ≤ 20
      · go_wp2_with fail
        go_ret
        exact ⟨by rw [HB.out]; simp; omega, rfl⟩
      · go_wp2_with fail
        go_ret
        exact ⟨by rw [HB.out]; simp; omega, rfl⟩
    · go_wp2_with fail
      go_ret
      exact ⟨by rw [HB.out]; simp; omega, rfl⟩
theorem wordB_size {s : ByteArray} (h : wordB s = true) : s.size ≤ 20 := by
 unfold wordB at h
 simp only [Bool.and_eq_true, decide_eq_true_eq] at h
 exact h.2.2
def WantsRel (w : World) (L : List ByteArray) (s : ByteArray) (n : Nat) (i : Value) (wr : World) : Prop := wr = w ∧ ∃ k : Nat, i = .int .i64 k ∧ k ≤ n ∧ s ∉ L.take k
theorem wants_any (m : Mem) (s : ByteArray) (w : World) (hm : MemAt w m) (hb : m.tops.length ≤ maxLen) :
 Calls Tryz.prog 42 #[.agg (memCells m).toArray, .string s] w fun e w' => ((e = .returned (.bool true) ∧ s ∈ m.tops) ∨ (e = .returned (.bool false) ∧ s ∉ m.tops)) ∧ Kept [] w w' := by
 obtain ⟨ta, tc, da, dc, oa, oc, e, ht, hd, ho⟩ := mcs_form hm
 rw [e]
 unfold mcs
 have hmx : maxLen = 9223372036854775807 := rfl
 have hsl := ht.2
 clear hd ho hm e
 obtain ⟨id, ver, tv, tops, dv, data, ov, owned, gen, rack, has⟩ := m
 simp only at *
 obtain ⟨n, hn⟩ : ∃ n, tops.length = n := ⟨_, rfl⟩
 rw [hn] at hsl hb ⊢
 have hk0 : ∀ o, Kept [] w (w.alloc o) := fun o => (Kept.refl _ _).alloc o
 have hcells : 0 < n → ∃ b off cap, Value.slice ta n tc = .slice (some ⟨b, off, none⟩) n cap ∧ ∀ j u, (strs tops)[j]? = some u → ∀ o, (w.alloc o).cell? ⟨b, off + j, none⟩ = some u := by
  intro h0
  rcases hsl.2.2 with ⟨_, _, _, h1⟩ | ⟨b, off, cap, h1, h2⟩
  · omega
  · exact ⟨b, off, cap, h1, fun j u hj o => (hk0 o).cell (h2 j u hj) (by simp)⟩
 have HC := Zhd (Zan hcells (Zan hn hk0)); clear hcells hsl hn ht hk0
 go_enter Tryz.func42, Tryz.ntmps42
 go_wp2_with fail
 have hB := box8 (Kept.refl [] (w.alloc (.cells #[.string id, .int .i16 ver, .slice ta n tc, .slice da data.length dc, .slice oa owned.length oc, .int .i32 gen, .string rack, .bool has] 30)))
 have hkM := HC.out.2.2 (.cells #[.string id, .int .i16 ver, .slice ta n tc, .slice da data.length dc, .slice oa owned.length oc, .int .i32 gen, .string rack, .bool has] 30)
 have hcl := fun (h0 : 0 < n) => HC.out.1 h0
 generalize hM : (w.alloc (.cells #[.string id, .int .i16 ver, .slice ta n tc, .slice da data.length dc, .slice oa owned.length oc, .int .i32 gen, .string rack, .bool has] 30)) = M at *
 have HM := Zhd hM; clear hM
 obtain ⟨_, c0, c1, c2, c3, c4, c5, c6, c7⟩ := hB
 go_loopw [5] (fun i wr => WantsRel M tops s n i wr) (fun i _ => n - (intOf i).toNat)
 case atStart => exact ⟨rfl, 0, rfl, Nat.zero_le _, by simp⟩
 case round =>
  obtain ⟨rfl, k, rfl, hk, hno⟩ := hrel
  by_cases hkn : k < n
  · obtain ⟨t, ht⟩ : ∃ t, tops[k]? = some t := ⟨_, List.getElem?_eq_getElem (by have := HC.out.2.1; omega)⟩
    obtain ⟨b, off, cap, hv, hcc⟩ := hcl (by omega)
    simp only [Value.slice.injEq] at hv
    obtain ⟨rfl, _, rfl⟩ := hv
    have c1 := hcc k (.string t) (by simp [strs, ht]) (.cells #[.string id, .int .i16 ver, .slice (some ⟨b, off, none⟩) n tc, .slice da data.length dc, .slice oa owned.length oc, .int .i32 gen, .string rack, .bool has] 30)
    rw [HM.out] at c1
    have hki : (k : Int) < (n : Int) := by omega
    clear hcc hcl
    by_cases e : t = s
    · subst e
      have hin := List.mem_of_getElem? ht
      have HI := Zhd hin; clear hin ht hno
      go_wp2_with fail
      go_ret
      exact ⟨.inl ⟨rfl, HI.out⟩, hkM⟩
    · have hse : (t.toList == s.toList) = false := beq_eq_false_iff_ne.2 (fun h => e ((ba_inj t s).1 h))
      have HT := Zhd (Zan ht (Zan e hno)); clear ht e hno
      go_wp2_with fail
      refine ⟨⟨rfl, k + 1, by go_num, by omega, ?_⟩, by simp [intOf]; omega⟩
      obtain ⟨h1, h2⟩ := List.getElem?_eq_some_iff.1 HT.out.1
      rw [List.take_succ_eq_append_getElem h1, h2]
      intro h
      rcases Zap.1 h with h | h
      · exact HT.out.2.2 h
      · simp only [Zmc, Znn, or_false] at h
        exact HT.out.2.1 h.symm
  · have : k = n := by omega
    subst this
    rw [List.take_of_length_le (by have := HC.out.2.1; omega)] at hno
    have HN := Zhd hno; clear hno hcl
    go_wp2_with fail
    go_ret
    exact ⟨.inr ⟨rfl, HN.out⟩, hkM⟩
end
section
open Go Go.Proofs Go.RowKit Go.Lib
theorem mem_at {w : World} {am : Option Addr} {N cm : Nat} {Ms : List Mem} {k : Nat} {m : Mem} (h : MemsAt w (.slice am N cm) Ms) (hN : Ms.length = N) (hk : Ms[k]? = some m) :
 ∃ g off ta tc da dc oa oc, am = some ⟨g, off, none⟩ ∧ m.tv = .slice ta m.tops.length tc ∧ m.dv = .slice da m.data.length dc ∧ m.ov = .slice oa m.owned.length oc ∧ ∀ w', Kept [] w w' →
  (w'.cell? ⟨g, off + k * 8, none⟩ = some (.string m.id) ∧ w'.cell? ⟨g, off + k * 8 + 1, none⟩ = some (.int .i16 m.ver) ∧ w'.cell? ⟨g, off + k * 8 + 2, none⟩ = some (.slice ta m.tops.length tc) ∧ w'.cell? ⟨g, off + k * 8 + 3, none⟩ = some (.slice da m.data.length dc) ∧
    w'.cell? ⟨g, off + k * 8 + 4, none⟩ = some (.slice oa m.owned.length oc) ∧ w'.cell? ⟨g, off + k * 8 + 5, none⟩ = some (.int .i32 m.gen) ∧ w'.cell? ⟨g, off + k * 8 + 6, none⟩ = some (.string m.rack) ∧ w'.cell? ⟨g, off + k * 8 + 7, none⟩ = some (.bool m.has)) := by
 have hgc := mem_get hk
 have hlt : k < Ms.length := (List.getElem?_eq_some_iff.1 hk).1
 have hcells := h.cells
 rw [hN] at hcells
 obtain ⟨_, hcase⟩ := hcells.cases
 rcases hcase with ⟨_, h0, _⟩ | ⟨g, off, hva, hcell⟩
 · omega
 cases hva
 have hme := h.each m (List.mem_of_getElem? hk)
 obtain ⟨⟨ta, tc, e1⟩, _⟩ := hme.tops
 obtain ⟨⟨da, dc, e2⟩, _⟩ := hme.data
 obtain ⟨oa, oc, e3⟩ := hme.owned.form
 refine ⟨g, off, ta, tc, da, dc, oa, oc, rfl, e1, e2, e3, fun w' hk' => ?_⟩
 have hf : ∀ j u, j < 8 → (memCells m)[j]? = some u → w'.cell? ⟨g, off + k * 8 + j, none⟩ = some u := fun j u hj hu => by
  have h1 := hcell (k * 8 + j) u (by rw [hgc j hj]; exact hu)
  rw [← Nat.add_assoc] at h1
  exact hk'.cell h1 (by simp)
 exact ⟨hf 0 _ (by omega) rfl, hf 1 _ (by omega) rfl, hf 2 _ (by omega) (by simp [memCells, e1]), hf 3 _ (by omega) (by simp [memCells, e2]), hf 4 _ (by omega) (by simp [memCells, e3]), hf 5 _ (by omega) rfl, hf 6 _ (by omega) rfl, hf 7 _ (by omega) rfl⟩
theorem shr_at {w : World} {a : Option Addr} {n c : Nat} {L : List Shr} {k : Nat} {x : Shr} (h : ShrsAt w (.slice a n c) L) (hn : L.length = n) (hk : L[k]? = some x) :
 ∃ g off va vc, a = some ⟨g, off, none⟩ ∧ x.val = .slice va x.parts.length vc ∧ ∀ w', Kept [] w w' → (w'.cell? ⟨g, off + k * 3, none⟩ = some (.string x.mem) ∧ w'.cell? ⟨g, off + k * 3 + 1, none⟩ = some (.string x.top) ∧ w'.cell? ⟨g, off + k * 3 + 2, none⟩ = some (.slice va x.parts.length vc)) := by
 obtain ⟨_, hs, hq⟩ := h
 rw [hn] at hs
 obtain ⟨g1, g2, g3⟩ := shr_get hk
 have hlt : k < L.length := (List.getElem?_eq_some_iff.1 hk).1
 obtain ⟨⟨va, vc, e⟩, _⟩ := hq x (List.mem_of_getElem? hk)
 obtain ⟨_, hc⟩ := hs.cases
 rcases hc with ⟨_, h0, _⟩ | ⟨g, off, hva, hcell⟩
 · omega
 cases hva
 refine ⟨g, off, va, vc, rfl, e, fun w' k' => ⟨k'.cell (hcell _ _ g1) (by simp), ?_, ?_⟩⟩
 · rw [Nat.add_assoc]; exact k'.cell (hcell _ _ g2) (by simp)
 · rw [Nat.add_assoc, ← e]; exact k'.cell (hcell _ _ g3) (by simp)
theorem wants_yes (m : Mem) (s : ByteArray) (w : World) (hm : MemAt w m) (hb : m.tops.length ≤ maxLen) (h : s ∈ m.tops) : Calls Tryz.prog 42 #[.agg (memCells m).toArray, .string s] w fun e w' => e = .returned (.bool true) ∧ Kept [] w w' :=
 (wants_any m s w hm hb).mono fun e w' ⟨h1, h2⟩ => ⟨h1.elim (fun h => h.1) (fun h' => absurd h h'.2), h2⟩
theorem wants_no (m : Mem) (s : ByteArray) (w : World) (hm : MemAt w m) (hb : m.tops.length ≤ maxLen) (h : s ∉ m.tops) : Calls Tryz.prog 42 #[.agg (memCells m).toArray, .string s] w fun e w' => e = .returned (.bool false) ∧ Kept [] w w' :=
 (wants_any m s w hm hb).mono fun e w' ⟨h1, h2⟩ => ⟨h1.elim (fun h' => absurd h'.2 h) (fun h => h.1), h2⟩
theorem MemAt.kept0 {w w' : World} {m : Mem} (hme : MemAt w m) (k : Kept [] w w') : MemAt w' m := ⟨hme.tops.kept k (by simp), ⟨hme.data.1, hme.data.2.kept k (by simp)⟩, hme.owned.kept k (by simp) (by simp)⟩
def AlikeP (Ms : List Mem) (Ts : List Shr) : Prop := ∀ t ∈ Ts, ∀ m ∈ Ms, t.top ∈ m.tops
def AlOut (w : World) (Ms : List Mem) (Ts : List Shr) (nt : Nat) (i : Value) (wr : World) : Prop := ∃ k : Nat, i = .int .i64 k ∧ k ≤ nt ∧ AlikeP Ms (Ts.take k) ∧ Kept [] w wr
def AlIn (w : World) (Ms : List Mem) (top : ByteArray) (N : Nat) (i : Value) (wr : World) : Prop := ∃ k : Nat, i = .int .i64 k ∧ k ≤ N ∧ (∀ m ∈ Ms.take k, top ∈ m.tops) ∧ Kept [] w wr
theorem alike_any (am : Option Addr) (N cm : Nat) (Ms : List Mem) (at' : Option Addr) (nt ct : Nat) (Ts : List Shr) (w : World) (hm : MemsAt w (.slice am N cm) Ms) (hN : Ms.length = N) (ht : ShrsAt w (.slice at' nt ct) Ts) (hT : Ts.length = nt) (hb : N ≤ 1000 ∧ nt ≤ 1000) (hbt : ∀ m ∈ Ms, m.tops.length ≤ maxLen) :
 Calls Tryz.prog 41 #[.slice am N cm, .slice at' nt ct] w fun e w' => BoolIf e (AlikeP Ms Ts) ∧ Kept [] w w' := by
 have HM := Zhd (Zan hm (Zan hN (Zan ht (Zan hT hbt)))); clear hm hN ht hT hbt
 go_enter Tryz.func41, Tryz.ntmps41
 go_wp2_with fail
 go_loopw [5] (fun i wr => AlOut w Ms Ts nt i wr) (fun i _ => nt - (intOf i).toNat)
 case atStart => exact ⟨0, rfl, Nat.zero_le _, by simp [AlikeP], Kept.refl _ _⟩
 case round =>
  obtain ⟨i, rfl, hi, hal, hkw⟩ := hrel
  by_cases hin : i < nt
  · obtain ⟨t, ht⟩ : ∃ t, Ts[i]? = some t := ⟨_, List.getElem?_eq_getElem (by have := HM.out.2.2.2.1; omega)⟩
    obtain ⟨gt, ot, va, vc, rfl, hv, hct⟩ := shr_at HM.out.2.2.1 HM.out.2.2.2.1 ht
    have hii : (i : Int) < (nt : Int) := by omega
    have HT := Zhd (Zan ht (Zan hal (Zan hv hct))); clear ht hal hv hct
    go_wp2_with fail
    go_loopw [6] (fun j wr' => AlIn w Ms t.top N j wr') (fun j _ => N - (intOf j).toNat)
    case atStart => exact ⟨0, rfl, Nat.zero_le _, by simp, hkw⟩
    case round =>
     obtain ⟨k, rfl, hk, hall, hkw2⟩ := hrel
     by_cases hkn : k < N
     · obtain ⟨m, hm⟩ : ∃ m, Ms[k]? = some m := ⟨_, List.getElem?_eq_getElem (by have := HM.out.2.1; omega)⟩
       obtain ⟨g, off, ta, tc, da, dc, oa, oc, rfl, e1, e2, e3, hcm⟩ := mem_at HM.out.1 HM.out.2.1 hm
       have hmM := List.mem_of_getElem? hm
       have hme := HM.out.1.each m hmM
       have hbt := HM.out.2.2.2.2 m hmM
       have hki : (k : Int) < (N : Int) := by omega
       have hcs := fun W (hW : Kept [] wr W) => Zan (hcm W (hkw2.trans hW (U := []) (by simp) (by simp))) (HT.out.2.2.2 W (hkw2.trans hW (U := []) (by simp) (by simp))).2.1
       have HCS := Zhd hcs; clear hcs hcm
       by_cases htm : t.top ∈ m.tops
       · have hwt := fun w' (k' : Kept [] w w') => wants_yes m t.top w' (hme.kept0 k') hbt htm
         have HH := Zhd (Zan hm (Zan hall htm)); clear hm hall htm hme hmM hbt
         obtain ⟨id, ver, tv, tops, dv, data, ov, owned, gen, rack, has⟩ := m
         simp only at e1 e2 e3 HCS hwt
         subst e1 e2 e3
         simp only [memCells] at hwt
         have HW := Zhd hwt; clear hwt
         generalize tops.length = tn at *
         generalize data.length = dn at *
         generalize owned.length = on at *
         generalize htop : t.top = top at *
         have HTOP := Zhd htop; clear htop
         go_wp2_with fail
         go_region_held3 (fun W => (W.cell? ⟨g, off + k * 8, none⟩ = some (.string id) ∧ W.cell? ⟨g, off + k * 8 + 1, none⟩ = some (.int .i16 ver) ∧ W.cell? ⟨g, off + k * 8 + 2, none⟩ = some (.slice ta tn tc) ∧ W.cell? ⟨g, off + k * 8 + 3, none⟩ = some (.slice da dn dc) ∧
          W.cell? ⟨g, off + k * 8 + 4, none⟩ = some (.slice oa on oc) ∧ W.cell? ⟨g, off + k * 8 + 5, none⟩ = some (.int .i32 gen) ∧ W.cell? ⟨g, off + k * 8 + 6, none⟩ = some (.string rack) ∧ W.cell? ⟨g, off + k * 8 + 7, none⟩ = some (.bool has)) ∧ W.cell? ⟨gt, ot + i * 3 + 1, none⟩ = some (.string top))
          (first | with_reducible exact HCS.out _ (Kept.refl _ _).drew | with_reducible exact HCS.out _ hk1' | fail)
          (first
            | (go_at_call 42
               refine (HW.out _ hkw2.drew).mono ?_
               rintro e w1 ⟨rfl, hk1⟩
               have hk1' : Kept [] wr w1 := hk1.of_drew)
            | fail)
         all_goals
          go_wp2_with fail
          refine ⟨⟨k + 1, by go_num, by omega, ?_, hkw2.trans hk1' (by simp) (by simp)⟩, by simp [intOf]; omega⟩
          obtain ⟨h1, h2⟩ := List.getElem?_eq_some_iff.1 HH.out.1
          rw [List.take_succ_eq_append_getElem h1, h2]
          intro y hy
          rcases Zap.1 hy with hy | hy
          · exact HH.out.2.1 y hy
          · simp only [Zmc, Znn, or_false] at hy
            subst hy; exact HH.out.2.2
       · have hwt := fun w' (k' : Kept [] w w') => wants_no m t.top w' (hme.kept0 k') hbt htm
         clear hm hall htm hme hmM hbt
         obtain ⟨id, ver, tv, tops, dv, data, ov, owned, gen, rack, has⟩ := m
         simp only at e1 e2 e3 HCS hwt
         subst e1 e2 e3
         simp only [memCells] at hwt
         have HW := Zhd hwt; clear hwt
         generalize tops.length = tn at *
         generalize data.length = dn at *
         generalize owned.length = on at *
         generalize htop : t.top = top at *
         have HTOP := Zhd htop; clear htop
         go_wp2_with fail
         go_region_held3 (fun W => (W.cell? ⟨g, off + k * 8, none⟩ = some (.string id) ∧ W.cell? ⟨g, off + k * 8 + 1, none⟩ = some (.int .i16 ver) ∧ W.cell? ⟨g, off + k * 8 + 2, none⟩ = some (.slice ta tn tc) ∧ W.cell? ⟨g, off + k * 8 + 3, none⟩ = some (.slice da dn dc) ∧
          W.cell? ⟨g, off + k * 8 + 4, none⟩ = some (.slice oa on oc) ∧ W.cell? ⟨g, off + k * 8 + 5, none⟩ = some (.int .i32 gen) ∧ W.cell? ⟨g, off + k * 8 + 6, none⟩ = some (.string rack) ∧ W.cell? ⟨g, off + k * 8 + 7, none⟩ = some (.bool has)) ∧ W.cell? ⟨gt, ot + i * 3 + 1, none⟩ = some (.string top))
          (first | with_reducible exact HCS.out _ (Kept.refl _ _).drew | with_reducible exact HCS.out _ hk1' | fail)
          (first
            | (go_at_call 42
               refine (HW.out _ hkw2.drew).mono ?_
               rintro e w1 ⟨rfl, hk1⟩
               have hk1' : Kept [] wr w1 := hk1.of_drew)
            | fail)
         all_goals
          go_wp2_with fail
          go_ret
          exact ⟨.inr rfl, hkw2.trans hk1' (by simp) (by simp)⟩
     · obtain rfl : k = N := by omega
       rw [List.take_of_length_le (by have := HM.out.2.1; omega)] at hall
       have HA := Zhd hall; clear hall
       go_wp2_with fail
       refine ⟨⟨i + 1, by go_num, by omega, ?_, hkw2⟩, by simp [intOf]; omega⟩
       obtain ⟨h1, h2⟩ := List.getElem?_eq_some_iff.1 HT.out.1
       rw [List.take_succ_eq_append_getElem h1, h2]
       intro y hy
       rcases Zap.1 hy with hy | hy
       · exact HT.out.2.1 y hy
       · simp only [Zmc, Znn, or_false] at hy
         subst hy; exact HA.out
  · obtain rfl : i = nt := by omega
    rw [List.take_of_length_le (by have := HM.out.2.2.2.1; omega)] at hal
    have HA := Zhd hal; clear hal
    go_wp2_with fail
    go_ret
    exact ⟨.inl ⟨rfl, HA.out⟩, hkw⟩
end
section
open Go Go.Proofs Go.RowKit Go.Lib
open Classical
theorem infoMem : (Tryz.prog.info? 30).map (fun i => (i.zero, i.size, i.bytes)) = some (some (.agg #[.string ⟨#[]⟩, .int .i16 0, .slice none 0 0, .slice none 0 0, .slice none 0 0, .int .i32 0, .string ⟨#[]⟩, .bool false]), 8, 128) := by kernel_rfl
theorem elMem : Elem Tryz.prog 22 30 8 128 (.agg #[.string ⟨#[]⟩, .int .i16 0, .slice none 0 0, .slice none 0 0, .slice none 0 0, .int .i32 0, .string ⟨#[]⟩, .bool false]) := ⟨Tryz.underlying22, info_parts infoMem, rfl, by omega⟩
def ownOf (S : List Shr) (id : ByteArray) : List Shr := (S.filter fun x => decide (x.mem = id)).map fun x => ⟨⟨#[]⟩, x.top, x.val, x.parts⟩
structure ToldM (S : List Shr) (gen : Int) (m m' : Mem) : Prop where
 same : ∃ dv data, m' = { m with dv := dv, data := data }
 data : ∃ D, tops2 D = (ownOf S m.id).map topOf ∧ DataOf 2 D gen m'.data
theorem memCells_len (L : List Mem) : (L.flatMap memCells).length = L.length * 8 := by
 induction L with
 | nil => rfl
 | cons x L ih => rw [List.flatMap_cons, List.length_append, ih, List.length_cons]; simp [memCells]; omega
structure OwnOk (S : List Shr) (gen : Int) (id : ByteArray) : Prop where
 nd : ((ownOf S id).map (·.top)).Nodup
 sz : ∀ x ∈ ownOf S id, x.parts.length ≤ 1000
 top : ∀ x ∈ ownOf S id, x.top.size ≤ 1000
 room : ∀ D, tops2 D = (ownOf S id).map topOf → (encV1 D gen).length ≤ 1000000
end
end Go.Proofs.YticcnlpfmekagaaGreat
