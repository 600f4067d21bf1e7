/- Part 11 of 51 of the proof of the row: the texts Data, Data2, Fits, Part. -/
import Derived.Test.YticcnlpfmekagaaGreatRd10
namespace Go.Proofs.YticcnlpfmekagaaGreat
open Go Go.Proofs Go.RowKit
set_option linter.unusedVariables false
set_option linter.unusedSimpArgs false

/-! ## GroupData -/

theorem elU8' : Elem Tryz.prog 28 5 1 1 (.int .u8 0) := elU8

theorem tops2_size {L : List Shr} {D : Tops} (h : ∀ x ∈ L, x.top.size ≤ 1000) (hD : tops2 D = L.map topOf) : ∀ x ∈ D, x.1.size ≤ 32767 := by
  intro x hx
  have : (x.1, x.2.2) ∈ L.map topOf := by rw [← hD]; exact List.mem_map_of_mem (f := fun x : ByteArray × Value × List Int => (x.1, x.2.2)) hx
  obtain ⟨y, hy, he⟩ := List.mem_map.1 this
  have := h y hy
  rw [← (Prod.mk.inj he).1]; show y.top.size ≤ _; omega

theorem own_nil (E sz : Nat) {w : World} : w.ownsRow 0 E sz (.slice none 0 0) 0 [] := ⟨by simp, .inl ⟨rfl, rfl⟩⟩
theorem own_form {w : World} {E sz n : Nat} {v : Value} {cs : List Value} (h : w.ownsRow 0 E sz v n cs) : ∃ a n c, v = .slice a n c := by
  rcases h.2 with ⟨rfl, _⟩ | ⟨g, cap, cur, rfl, _⟩
  · exact ⟨_, _, _, rfl⟩
  · exact ⟨_, _, _, rfl⟩
theorem DataOf.length {n : Nat} {L : Tops} {gen : Int} {cs : List Value} (h : DataOf n L gen cs) (hl : (encV1 L gen).length ≤ 1000000) : cs.length ≤ 1000000 := by
  rcases h with ⟨_, rfl⟩ | ⟨_, L', hp, rfl⟩
  · simp
  · simp only [encV1, List.length_append, encTs_perm_length hp, hp.length_eq] at *; omega

set_option maxRecDepth 100000 in
set_option maxHeartbeats 1000000 in
theorem data_closure (n : Nat) (hn : n < 4) (b : Nat) (mem : ByteArray) (v : Value) (L : List Shr) (gen : Int) (w : World) (hv : ShrsAt w v L) (hl : L.length ≤ 1000) (hnd : (L.map (·.top)).Nodup) (hsz : ∀ x ∈ L, x.parts.length ≤ 1000) (htop : ∀ x ∈ L, x.top.size ≤ 1000) (hg : isI32 gen)
    (hroom : ∀ D, tops2 D = L.map topOf → (encV1 D gen).length ≤ 1000000)
    (hc : w.cell? ⟨b, 0, none⟩ = some (.int .i64 n) ∧ w.cell? ⟨b + 1, 0, none⟩ = some (.string mem) ∧ w.cell? ⟨b + 2, 0, none⟩ = some v ∧ w.cell? ⟨b + 3, 0, none⟩ = some (.int .i32 gen))
    (hd : w.cell? ⟨b + 4, 0, none⟩ = some (.slice none 0 0) ∧ w.cell? ⟨b + 5, 0, none⟩ = some (.bool false) ∧ w.frozen? ⟨b + 4, 0, none⟩ = false ∧ w.frozen? ⟨b + 5, 0, none⟩ = false) (hlt : b + 5 < w.heap.size) :
    Calls Tryz.prog 50 #[.pointer (some ⟨b, 0, none⟩), .pointer (some ⟨b + 1, 0, none⟩), .pointer (some ⟨b + 2, 0, none⟩), .pointer (some ⟨b + 3, 0, none⟩), .pointer (some ⟨b + 4, 0, none⟩), .pointer (some ⟨b + 5, 0, none⟩)] w fun e w' =>
      e = .returned (.tuple #[]) ∧ (∃ u D cs, w'.cell? ⟨b + 4, 0, none⟩ = some u ∧ w'.cell? ⟨b + 5, 0, none⟩ = some (.bool true) ∧ tops2 D = L.map topOf ∧ DataOf n D gen cs ∧ SlAt w' 1 u cs.length cs ∧ (∀ g, u.ownBlock = some g → w.heap.size ≤ g) ∧ w'.frozen? ⟨b + 4, 0, none⟩ = false ∧ w'.frozen? ⟨b + 5, 0, none⟩ = false) ∧ Kept [b + 4, b + 5] w w' := by
  have hS : ∀ w', Kept [] w w' → w'.cell? ⟨b, 0, none⟩ = some (.int .i64 n) ∧ w'.cell? ⟨b + 1, 0, none⟩ = some (.string mem) ∧ w'.cell? ⟨b + 2, 0, none⟩ = some v ∧ w'.cell? ⟨b + 3, 0, none⟩ = some (.int .i32 gen) := fun w' k =>
    ⟨k.cell hc.1 (by simp), k.cell hc.2.1 (by simp), k.cell hc.2.2.1 (by simp), k.cell hc.2.2.2 (by simp)⟩
  have hS2 : ∀ w', Kept [] w w' → w'.cell? ⟨b + 4, 0, none⟩ = some (.slice none 0 0) ∧ w'.cell? ⟨b + 5, 0, none⟩ = some (.bool false) ∧ w'.frozen? ⟨b + 4, 0, none⟩ = false ∧ w'.frozen? ⟨b + 5, 0, none⟩ = false := fun w' k =>
    ⟨k.cell hd.1 (by simp), k.cell hd.2.1 (by simp), k.frz hd.2.2.1 (by simp; omega) (by simp), k.frz hd.2.2.2 (by simp; omega) (by simp)⟩
  have hT : ∀ w', Kept [] w w' → _ := fun w' k => topicMap_any v L w' (hv.kept k (by simp) (by simp)) (by omega) hnd (fun x hx => by have := hsz x hx; omega)
  have hmt := (dataMeth n hn).m
  have hnl := (dataMeth n hn).n
  have hcf := (dataMeth n hn).c
  have HS := Lib.hid hS; clear hS
  have HS2 := Lib.hid hS2; clear hS2
  have HT := Lib.hid hT; clear hT
  have HR := Lib.hid hroom; clear hroom
  have HN := Lib.hid hn; clear hn
  have HTP := Lib.hid htop; clear htop
  have HL := Lib.hid hlt; clear hlt
  clear hc hd hv
  go_enter Tryz.func50, Tryz.ntmps50
  go_wp2
  go_region_held3 (fun w' => w'.cell? ⟨b, 0, none⟩ = some (.int .i64 n) ∧ w'.cell? ⟨b + 1, 0, none⟩ = some (.string mem) ∧ w'.cell? ⟨b + 2, 0, none⟩ = some v ∧ w'.cell? ⟨b + 3, 0, none⟩ = some (.int .i32 gen))
    (first | exact HS.out _ (Kept.refl _ _).drew | exact HS.out _ ((Kept.refl _ _).alloc _).drew | exact HS.out _ hk2' | exact HS.out _ hk3' | trivial)
    (first | (go_at_call 46; refine (strategy_any n HN.out _).mono ?_; rintro e w1 ⟨rfl, rfl⟩)
           | (go_at_call 47; refine (HT.out _ (((Kept.refl [] w).drew).alloc _)).mono ?_; rintro e w2 ⟨D, rfl, hD, hT2, hk2, hfr, _⟩
              have hk2' : Kept [] w w2 := (((Kept.refl [] w).drew).alloc _).trans hk2 (by simp) (by simp)
              have hT3 : TopsAt w2 (w.heap.size + 1) D := by simpa using hT2
              have hdata := fun a => data_any n HN.out w2 mem _ D gen hT3 hg (HR.out D hD) (tops2_size HTP.out hD) (fun x hx g h1 => (hfr x hx g h1).2) a
              have HDT := Lib.hid hdata; clear hdata hT2 hT3 hfr
              have HDD := Lib.hid hD; clear hD)
           | (refine (HDT.out _).mono ?_; rintro e w3 ⟨u, cs, rfl, hda, hsl, hk3⟩
              have hcs : cs.length ≤ 1000000 := hda.length (HR.out D HDD.out)
              have hk3' : Kept [] w w3 := hk2'.trans hk3 (by simp) (by simp)))
  all_goals
    obtain ⟨c4, c5, f4, f5⟩ := HS2.out _ hk3'
    have H1 := Lib.hid hsl.2.1
    have HSR := Lib.hid ((SlAt.drew hsl).src Tryz.underlying28); clear hsl
    have hlen3 := hk3'.size
    have HH := Lib.hid hlen3; clear hlen3
    have HC := Lib.hid hcs; clear hcs
    go_wp2
    go_region_held3 (fun w' => w'.frozen? ⟨b + 4, 0, none⟩ = false ∧ w'.frozen? ⟨b + 5, 0, none⟩ = false)
      (first | exact ⟨f4, f5⟩ | exact ⟨e4, e5⟩ | go_keep)
      (first | (refine sl_app (v := .slice none 0 0) rfl rfl elU8 rfl rfl (own_nil _ _) HSR.out (by have := HC.out; omega) (by have := HC.out; omega) ?_
                intro v' w4 hown hk4' hd4
                have hk4 := hk4'.of_drew; clear hk4'
                obtain ⟨a', n', c', rfl⟩ := own_form hown
                have d4 := hk4.cell c4 (by simp [Value.ownBlock])
                have d5 := hk4.cell c5 (by simp [Value.ownBlock])
                have e4 := hk4.frz f4 (by have := HL.out; have := HH.out; simp; omega) (by simp [Value.ownBlock])
                have e5 := hk4.frz f5 (by have := HL.out; have := HH.out; simp; omega) (by simp [Value.ownBlock])))
  all_goals
    go_end0
    have hL := HL.out
    have hH := HH.out
    have hk5 : Kept [] w w4 := hk3'.trans hk4 (by simp) (by simp [Value.ownBlock])
    have ho : ∀ g, (Value.slice a' n' c').ownBlock = some g → w.heap.size ≤ g ∧ g ≠ b + 4 ∧ g ≠ b + 5 := by
      intro g hg
      rcases hd4 with ⟨h1, _⟩ | ⟨h1, _⟩
      · rw [h1] at hg; simp [Value.ownBlock] at hg
      · rw [h1] at hg; simp only [Option.some.injEq, World.size_drew] at hg; omega
    have hk6 : Kept [b + 4, b + 5] w4 ((w4.setCell ⟨b + 4, 0, none⟩ (.slice a' n' c')).setCell ⟨b + 5, 0, none⟩ (.bool true)) := ((Kept.refl _ _).setCell _ (by simp)).setCell _ (by simp)
    rw [List.nil_append, Nat.zero_add] at hown
    refine ⟨rfl, ⟨.slice a' n' c', _, cs, ?_, ?_, HDD.out, hda, (own_sl hown H1.out).kept hk6 ?_, fun g hg => (ho g hg).1, ?_, ?_⟩, hk5.trans hk6 (by simp) (by simp)⟩
    · simp [go_sem, d4]
    · simp [go_sem, d5]
    · intro g hg; have := ho g hg; simp; omega
    · simp [go_sem, e4]
    · simp [go_sem, e5]
end Go.Proofs.YticcnlpfmekagaaGreat
namespace Go.Proofs.YticcnlpfmekagaaGreat
open Go Go.Proofs Go.RowKit
set_option linter.unusedVariables false
set_option linter.unusedSimpArgs false

theorem SlAt.form {w : World} {sz n : Nat} {v : Value} {cs : List Value} (h : SlAt w sz v n cs) : ∃ a n c, v = .slice a n c := by
  rcases h.2.2 with ⟨a, c, h, _⟩ | ⟨b, o, c, h, _⟩
  · exact ⟨_, _, _, h⟩
  · exact ⟨_, _, _, h⟩
theorem hasBody50 : HasBody 50 := by unfold HasBody; intro a w; kernel_rfl

set_option maxRecDepth 100000 in
set_option maxHeartbeats 1000000 in
theorem groupData_any (n : Nat) (hn : n < 4) (mem : ByteArray) (a : Option Addr) (c : Nat) (L : List Shr) (gen : Int) (w : World) (hv : ShrsAt w (.slice a L.length c) L) (hl : L.length ≤ 1000) (hnd : (L.map (·.top)).Nodup) (hsz : ∀ x ∈ L, x.parts.length ≤ 1000) (htop : ∀ x ∈ L, x.top.size ≤ 1000) (hg : isI32 gen)
    (hroom : ∀ D, tops2 D = L.map topOf → (encV1 D gen).length ≤ 1000000) :
    Calls Tryz.prog 21 #[.int .i64 n, .string mem, .slice a L.length c, .int .i32 gen] w fun e w' =>
      ∃ u D cs, e = .returned (.tuple #[u, .bool true]) ∧ tops2 D = L.map topOf ∧ DataOf n D gen cs ∧ SlAt w' 1 u cs.length cs ∧ (∀ g, u.ownBlock = some g → w.heap.size ≤ g) ∧ Kept [] w w' := by
  have hclo : ∀ w0 : World, w0 = ((((((w.alloc (.cells #[.int .i64 n] 3)).alloc (.cells #[.string mem] 9)).alloc (.cells #[.slice a L.length c] 23)).alloc (.cells #[.int .i32 gen] 21)).alloc (.cells #[.slice none 0 0] 28)).alloc (.cells #[.bool false] 4)) →
      Kept [] w w0 ∧ w0.heap.size = w.heap.size + 6 ∧ _ := fun w0 e => ⟨by subst e; exact ((((((Kept.refl [] w).alloc _).alloc _).alloc _).alloc _).alloc _).alloc _, by subst e; simp,
      safe_any 50 #[.pointer (some ⟨w.heap.size, 0, none⟩), .pointer (some ⟨w.heap.size + 1, 0, none⟩), .pointer (some ⟨w.heap.size + 2, 0, none⟩), .pointer (some ⟨w.heap.size + 3, 0, none⟩), .pointer (some ⟨w.heap.size + 4, 0, none⟩), .pointer (some ⟨w.heap.size + 5, 0, none⟩)] w0
        (fun w' => ∃ u D cs, w'.cell? ⟨w.heap.size + 4, 0, none⟩ = some u ∧ w'.cell? ⟨w.heap.size + 5, 0, none⟩ = some (.bool true) ∧ tops2 D = L.map topOf ∧ DataOf n D gen cs ∧ SlAt w' 1 u cs.length cs ∧ (∀ g, u.ownBlock = some g → w.heap.size + 7 ≤ g) ∧ w'.frozen? ⟨w.heap.size + 4, 0, none⟩ = false ∧ w'.frozen? ⟨w.heap.size + 5, 0, none⟩ = false) [w.heap.size + 4, w.heap.size + 5] hasBody50 (by subst e; simp) (by
          have k0 : Kept [] w (w0.alloc (.cells #[.bool false] 4)) := by subst e; exact (((((((Kept.refl [] w).alloc _).alloc _).alloc _).alloc _).alloc _).alloc _).alloc _
          refine (data_closure n hn w.heap.size mem _ L gen _ (hv.kept k0 (by simp) (by simp)) hl hnd hsz htop hg hroom ?_ ?_ ?_).mono ?_
          · subst e; simp [go_sem]
          · subst e; simp [go_sem]
          · subst e; simp
          · rintro e' w' ⟨rfl, ⟨u, D, cs, h1, h2, h3, h4, h5, h6, h7⟩, hk⟩
            exact ⟨rfl, ⟨u, D, cs, h1, h2, h3, h4, h5, fun g hg => by have := h6 g hg; subst e; simpa using this, h7⟩, hk⟩)⟩
  obtain ⟨hk0, hs0, hsafe⟩ := hclo _ rfl
  have HSF := Lib.hid hsafe; clear hsafe hclo
  clear hv
  go_enter Tryz.func21, Tryz.ntmps21
  go_wp2_with
    (go_at_call 43
     refine (HSF.out).mono ?_
     rintro e w2 ⟨rfl, w1, ⟨u, D, cs, c4, c5, hD, hda, hsl, hu, f4, f5⟩, hk1, hk2⟩
     have hs1 := hk1.size
     rw [hs0] at hk2 hs1
     have d4 : w2.cell? ⟨w.heap.size + 1 + 1 + 1 + 1, 0, none⟩ = some u := hk2.cell c4 (by simp)
     have d5 : w2.cell? ⟨w.heap.size + 1 + 1 + 1 + 1 + 1, 0, none⟩ = some (.bool true) := hk2.cell c5 (by simp)
     have e4 : w2.frozen? ⟨w.heap.size + 1 + 1 + 1 + 1, 0, none⟩ = false := hk2.frz f4 (by simp; omega) (by simp)
     have e5 : w2.frozen? ⟨w.heap.size + 1 + 1 + 1 + 1 + 1, 0, none⟩ = false := hk2.frz f5 (by simp; omega) (by simp)
     obtain ⟨a', n', c', rfl⟩ := hsl.form
     clear c4 c5 f4 f5)
  have k12 : Kept [] w w2 := (hk0.trans hk1 (U := []) (by simp) (by simp <;> omega)).trans hk2 (by simp) (by simp <;> omega)
  have k3 : Kept [w.heap.size + 4, w.heap.size + 5] w2 ((w2.setCell ⟨w.heap.size + 1 + 1 + 1 + 1, 0, none⟩ (.slice a' n' c')).setCell ⟨w.heap.size + 1 + 1 + 1 + 1 + 1, 0, none⟩ (.bool true)) :=
    ((Kept.refl _ _).setCell _ (by simp)).setCell _ (by simp)
  have hend : SlAt ((w2.setCell ⟨w.heap.size + 1 + 1 + 1 + 1, 0, none⟩ (.slice a' n' c')).setCell ⟨w.heap.size + 1 + 1 + 1 + 1 + 1, 0, none⟩ (.bool true)) 1 (.slice a' n' c') cs.length cs :=
    (hsl.kept hk2 (fun g hg => by have := hu g hg; simp; omega)).kept k3 (fun g hg => by have := hu g hg; simp; omega)
  have hend2 := k12.trans k3 (U := []) (by simp) (by simp <;> omega)
  simp [bodyPost, results, Tryz.results21, go_sem, d4, d5]
  exact ⟨D, hD, cs, hda, hend, fun g hg => by have := hu g hg; omega, hend2⟩
end Go.Proofs.YticcnlpfmekagaaGreat
namespace Go.Proofs.YticcnlpfmekagaaGreat
open Go Go.Proofs Go.RowKit
set_option linter.unusedVariables false
set_option linter.unusedSimpArgs false

/-! ## the laws' guards on shares -/

/-- it returns true or false -/
def AnyBool (e : Ending) : Prop := ∃ b, e = .returned (.bool b)

set_option maxRecDepth 100000 in
set_option maxHeartbeats 400000 in
theorem fits6 (m t : ByteArray) (a : Option Addr) (n c : Nat) (w : World) :
    Calls Tryz.prog 37 #[.agg #[.string m, .string t, .slice a n c]] w fun e w' => AnyBool e ∧ Kept [] w w' := by
  have hk := (Kept.refl [] w).alloc (.cells #[.string m, .string t, .slice a n c] 33)
  by_cases h1 : (2147483647 : Int) < m.size
  · go_enter Tryz.func37, Tryz.ntmps37
    go_wp2
    go_ret
    exact ⟨⟨_, rfl⟩, hk⟩
  by_cases h2 : (2147483647 : Int) < t.size
  · go_enter Tryz.func37, Tryz.ntmps37
    go_wp2
    go_ret
    exact ⟨⟨_, rfl⟩, hk⟩
  by_cases h3 : (2147483647 : Int) < n
  · go_enter Tryz.func37, Tryz.ntmps37
    go_wp2
    go_ret
    exact ⟨⟨_, rfl⟩, hk⟩
  · go_enter Tryz.func37, Tryz.ntmps37
    go_wp2
    go_ret
    exact ⟨⟨_, rfl⟩, hk⟩

set_option maxRecDepth 100000 in
set_option maxHeartbeats 1000000 in
theorem fits5 (v : Value) (L : List Shr) (w : World) (hv : ShrsAt w v L) (hn : L.length ≤ maxLen) :
    Calls Tryz.prog 13 #[v] w fun e w' => AnyBool e ∧ Kept [] w w' := by
  obtain ⟨⟨a, c, rfl⟩, hcells, hparts⟩ := hv
  have HC := Lib.hid hcells; clear hcells
  have HP := Lib.hid hparts; clear hparts
  have hmx : maxLen = 9223372036854775807 := rfl
  generalize hLn : L.length = n at *
  have HLN := Lib.hid hLn; clear hLn
  by_cases h1 : (2147483647 : Int) < n
  · go_enter Tryz.func13, Tryz.ntmps13
    go_wp2
    go_ret
    exact ⟨⟨_, rfl⟩, Kept.refl _ _⟩
  · go_enter Tryz.func13, Tryz.ntmps13
    go_wp2
    go_loopw [10] (fun i wr => ∃ k : Nat, k ≤ n ∧ i = .int .i64 k ∧ Kept [] w wr) (fun i _ => n - (intOf i).toNat)
    case atStart => exact ⟨0, Nat.zero_le _, rfl, Kept.refl _ _⟩
    case round =>
      obtain ⟨k, hk, rfl, hkw⟩ := hrel
      by_cases hlt : k < n
      · obtain ⟨x, hkx⟩ : ∃ x, L[k]? = some x := ⟨_, List.getElem?_eq_getElem (by have := HLN.out; omega)⟩
        obtain ⟨g1, g2, g3⟩ := shr_get hkx
        have hxL : x ∈ L := List.mem_of_getElem? hkx
        obtain ⟨_, hcase⟩ := HC.out.cases
        rcases hcase with ⟨_, h0, _⟩ | ⟨g, off, hva, hcell⟩
        · omega
        cases hva
        have c1 := hkw.cell (p := ⟨g, off + k * 3, none⟩) (hcell _ _ g1) (by simp)
        have c2 := hkw.cell (p := ⟨g, off + (k * 3 + 1), none⟩) (hcell _ _ g2) (by simp)
        have c3 := hkw.cell (p := ⟨g, off + (k * 3 + 2), none⟩) (hcell _ _ g3) (by simp)
        rw [← Nat.add_assoc] at c2 c3
        obtain ⟨⟨pa, pc, hval⟩, _⟩ := HP.out x hxL
        rw [hval] at c3
        clear hcell g1 g2 g3 hkx
        go_wp2_with
          (go_at_call 37
           refine (fits6 _ _ _ _ _ _).mono ?_
           rintro e w1 ⟨⟨b, rfl⟩, hk1⟩
           have hk2 : Kept [] w w1 := (hkw.alloc _).trans hk1 (by simp) (by simp)
           cases b)
        · go_ret
          exact ⟨⟨_, rfl⟩, hk2⟩
        · go_roundw
          case rel => exact ⟨k + 1, by omega, by go_num, hk2⟩
          case measure => simp [intOf]; omega
      · go_wp2
        go_ret
        exact ⟨⟨_, rfl⟩, hkw⟩

def ShrFit (x : Shr) : Prop := x.mem = ⟨#[]⟩ ∧ x.top.size ≤ 50 ∧ x.parts.length ≤ 20
def SharesFit (L : List Shr) : Prop := (∀ x ∈ L, ShrFit x) ∧ L.length ≤ 10
def BoolSays (e : Ending) (p : Prop) : Prop := (e = .returned (.bool true) ∧ p) ∨ (e = .returned (.bool false) ∧ ¬ p)

set_option maxRecDepth 100000 in
set_option maxHeartbeats 1000000 in
theorem sharesFit_any (v : Value) (L : List Shr) (w : World) (hv : ShrsAt w v L) (hn : L.length ≤ maxLen) :
    Calls Tryz.prog 20 #[v] w fun e w' => BoolSays e (SharesFit L) ∧ Kept [] w w' := by
  obtain ⟨⟨a, c, rfl⟩, hcells, hparts⟩ := hv
  have HC := Lib.hid hcells; clear hcells
  have HP := Lib.hid hparts; clear hparts
  have hmx : maxLen = 9223372036854775807 := rfl
  generalize hLn : L.length = n at *
  have HLN := Lib.hid hLn; clear hLn
  go_enter Tryz.func20, Tryz.ntmps20
  go_wp2
  go_loopw [3] (fun i wr => ∃ k : Nat, k ≤ n ∧ i = .int .i64 k ∧ Kept [] w wr ∧ ∀ x ∈ L.take k, ShrFit x) (fun i _ => n - (intOf i).toNat)
  case atStart => exact ⟨0, Nat.zero_le _, rfl, Kept.refl _ _, by simp⟩
  case round =>
    obtain ⟨k, hk, rfl, hkw, hall⟩ := hrel
    have HA := Lib.hid hall; clear hall
    by_cases hlt : k < n
    · obtain ⟨x, hkx⟩ : ∃ x, L[k]? = some x := ⟨_, List.getElem?_eq_getElem (by have := HLN.out; omega)⟩
      obtain ⟨g1, g2, g3⟩ := shr_get hkx
      have hxL : x ∈ L := List.mem_of_getElem? hkx
      obtain ⟨_, hcase⟩ := HC.out.cases
      rcases hcase with ⟨_, h0, _⟩ | ⟨g, off, hva, hcell⟩
      · omega
      cases hva
      have c1 := hkw.cell (p := ⟨g, off + k * 3, none⟩) (hcell _ _ g1) (by simp)
      have c2 := hkw.cell (p := ⟨g, off + (k * 3 + 1), none⟩) (hcell _ _ g2) (by simp)
      have c3 := hkw.cell (p := ⟨g, off + (k * 3 + 2), none⟩) (hcell _ _ g3) (by simp)
      rw [← Nat.add_assoc] at c2 c3
      obtain ⟨⟨pa, pc, hval⟩, _⟩ := HP.out x hxL
      rw [hval] at c3
      have HK := Lib.hid hkx
      have HX := Lib.hid hxL
      clear hcell g1 g2 g3 hkx hxL
      by_cases h1 : x.mem = ⟨#[]⟩
      · by_cases h2 : (50 : Int) < x.top.size
        · go_wp2
          go_ret
          exact ⟨.inr ⟨rfl, fun h => by have := (h.1 x HX.out).2.1; omega⟩, hkw⟩
        · by_cases h3 : (20 : Int) < x.parts.length
          · go_wp2
            go_ret
            exact ⟨.inr ⟨rfl, fun h => by have := (h.1 x HX.out).2.2; omega⟩, hkw⟩
          · go_wp2
            all_goals try (exfalso; omega)
            go_roundw
            case rel =>
              refine ⟨k + 1, by omega, by go_num, hkw, ?_⟩
              intro y hy
              obtain ⟨hk', hx'⟩ := List.getElem?_eq_some_iff.1 HK.out
              rw [List.take_succ_eq_append_getElem hk', hx'] at hy
              rcases List.mem_append.1 hy with hy | hy
              · exact HA.out y hy
              · simp only [List.mem_cons, List.not_mem_nil, or_false] at hy
                subst hy
                exact ⟨h1, by omega, by omega⟩
            case measure => simp [intOf]; omega
      · have h1' : x.mem.toList.isEmpty = false := by rw [← decide_eq_emptyBytes]; exact decide_eq_false h1
        go_wp2
        go_ret
        exact ⟨.inr ⟨rfl, fun h => h1 (h.1 x HX.out).1⟩, hkw⟩
    · by_cases h4 : (n : Int) ≤ 10
      · go_wp2
        go_ret
        refine ⟨.inl ⟨rfl, ?_, by have := HLN.out; omega⟩, hkw⟩
        have := HA.out
        rwa [List.take_of_length_le (by have := HLN.out; omega)] at this
      · go_wp2
        go_ret
        exact ⟨.inr ⟨rfl, fun h => by have := h.2; have := HLN.out; omega⟩, hkw⟩
end Go.Proofs.YticcnlpfmekagaaGreat
namespace Go.Proofs.YticcnlpfmekagaaGreat
open Go Go.Proofs Go.RowKit
set_option linter.unusedVariables false
set_option linter.unusedSimpArgs false

/-! ## Partition, as groupAlive asks it -/

set_option maxRecDepth 100000 in
set_option maxHeartbeats 400000 in
theorem copied_nil (w : World) : Calls Tryz.prog 58 #[.slice none 0 0] w fun e w' => (∃ a n c, e = .returned (.slice a n c)) ∧ Kept [] w w' := by
  have hsrc : Src Tryz.prog 1 28 (.slice none 0 0) 0 [] (w.alloc (.cells #[] 5)) := (SlAt.nil _ _).src Tryz.underlying28
  go_enter Tryz.func58, Tryz.ntmps58
  go_wp2_with (refine wl_app (v := .slice (some ⟨w.heap.size, 0, none⟩) 0 0) rfl rfl elU8 rfl rfl (own_new 5 1) hsrc (by omega) (by omega) ?_; intro v' w1 hown hk hd)
  go_ret
  obtain ⟨a', n', c', rfl⟩ := own_form hown
  exact ⟨⟨_, _, _, rfl⟩, ((Kept.refl [] w).alloc _).trans hk (by simp) (by simp [Value.ownBlock])⟩

set_option maxRecDepth 100000 in
set_option maxHeartbeats 400000 in
theorem partitioner4 (w : World) : Calls Tryz.prog 71 #[.int .i64 4] w fun e w' => e = .returned (.iface 231 (.pointer (some ⟨w.heap.size, 0, none⟩))) ∧ w' = w.alloc (.cells #[] 232) := by
  have h89 : ∀ w : World, Calls Tryz.prog 89 #[.string ⟨#[116]⟩] w fun e w' => e = .returned (.iface 231 (.pointer (some ⟨w.heap.size, 0, none⟩))) ∧ w' = w.alloc (.cells #[] 232) := by
    intro w
    go_enter Tryz.func89, Tryz.ntmps89
    go_wp2
    go_ret
    exact ⟨rfl, rfl⟩
  go_enter Tryz.func71, Tryz.ntmps71
  go_wp2_with (go_at_call 89; refine (h89 _).mono ?_; rintro e w1 ⟨rfl, rfl⟩)
  go_ret
  exact ⟨rfl, rfl⟩

theorem partMeth : IsMeth 231 "Partition" 358 := ⟨fun a w => by kernel_rfl, fun a w => by kernel_rfl, fun a w => by kernel_rfl⟩

set_option maxRecDepth 100000 in
set_option maxHeartbeats 400000 in
theorem manual_partition (a : Addr) (m : Nat) (x n : Int) (w : World) (hm : w.cell? ⟨m, 3, none⟩ = some (.int .i32 x)) :
    Calls Tryz.prog 358 #[.pointer (some a), .pointer (some ⟨m, 0, none⟩), .int .i32 n] w fun e w' => e = .returned (.tuple #[.int .i32 x, .nilIface]) ∧ w = w' := by
  go_enter Tryz.func358, Tryz.ntmps358
  go_wp2
  go_ret2
  exact ⟨rfl, rfl⟩

set_option maxRecDepth 100000 in
set_option maxHeartbeats 1000000 in
theorem part_closure (b : Nat) (w : World)
    (hc : w.cell? ⟨b, 0, none⟩ = some (.int .i64 4) ∧ w.cell? ⟨b + 1, 0, none⟩ = some (.slice none 0 0) ∧ w.cell? ⟨b + 2, 0, none⟩ = some (.int .i32 3) ∧ w.cell? ⟨b + 3, 0, none⟩ = some (.int .i32 5))
    (hd : w.cell? ⟨b + 4, 0, none⟩ = some (.int .i32 0) ∧ w.cell? ⟨b + 5, 0, none⟩ = some (.bool false) ∧ w.frozen? ⟨b + 4, 0, none⟩ = false ∧ w.frozen? ⟨b + 5, 0, none⟩ = false) (hlt : b + 5 < w.heap.size) :
    Calls Tryz.prog 70 #[.pointer (some ⟨b + 2, 0, none⟩), .pointer (some ⟨b + 1, 0, none⟩), .pointer (some ⟨b, 0, none⟩), .pointer (some ⟨b + 3, 0, none⟩), .pointer (some ⟨b + 4, 0, none⟩), .pointer (some ⟨b + 5, 0, none⟩)] w fun e w' =>
      e = .returned (.tuple #[]) ∧ (w'.cell? ⟨b + 4, 0, none⟩ = some (.int .i32 3) ∧ w'.cell? ⟨b + 5, 0, none⟩ = some (.bool true) ∧ w'.frozen? ⟨b + 4, 0, none⟩ = false ∧ w'.frozen? ⟨b + 5, 0, none⟩ = false) ∧ Kept [b + 4, b + 5] w w' := by
  have hS : ∀ w', Kept [] w w' → w'.cell? ⟨b, 0, none⟩ = some (.int .i64 4) ∧ w'.cell? ⟨b + 1, 0, none⟩ = some (.slice none 0 0) ∧ w'.cell? ⟨b + 2, 0, none⟩ = some (.int .i32 3) ∧ w'.cell? ⟨b + 3, 0, none⟩ = some (.int .i32 5) := fun w' k =>
    ⟨k.cell hc.1 (by simp), k.cell hc.2.1 (by simp), k.cell hc.2.2.1 (by simp), k.cell hc.2.2.2 (by simp)⟩
  have hS2 : ∀ w', Kept [] w w' → w'.cell? ⟨b + 4, 0, none⟩ = some (.int .i32 0) ∧ w'.cell? ⟨b + 5, 0, none⟩ = some (.bool false) ∧ w'.frozen? ⟨b + 4, 0, none⟩ = false ∧ w'.frozen? ⟨b + 5, 0, none⟩ = false := fun w' k =>
    ⟨k.cell hd.1 (by simp), k.cell hd.2.1 (by simp), k.frz hd.2.2.1 (by simp; omega) (by simp), k.frz hd.2.2.2 (by simp; omega) (by simp)⟩
  have hmt := partMeth.m
  have hnl := partMeth.n
  have hcf := partMeth.c
  have HS := Lib.hid hS; clear hS
  have HS2 := Lib.hid hS2; clear hS2
  clear hc hd
  go_enter Tryz.func70, Tryz.ntmps70
  go_wp2
  go_region_held3 (fun w' => w'.cell? ⟨b, 0, none⟩ = some (.int .i64 4) ∧ w'.cell? ⟨b + 1, 0, none⟩ = some (.slice none 0 0) ∧ w'.cell? ⟨b + 2, 0, none⟩ = some (.int .i32 3) ∧ w'.cell? ⟨b + 3, 0, none⟩ = some (.int .i32 5))
    (first | exact HS.out _ (Kept.refl _ _).drew | exact HS.out _ hk1' | exact HS.out _ (hk1'.alloc _))
    (first | (go_at_call 58; refine (copied_nil _).mono ?_; rintro e w1 ⟨⟨a, n, c, rfl⟩, hk1⟩; have hk1' : Kept [] w w1 := hk1.of_drew))
  go_wp2
  have hka := hk1'.alloc (.cells #[.string ⟨#[]⟩, .iface 138 (.slice a n c), .nilIface, .int .i32 3] 142)
  have hm3 : (w1.alloc (.cells #[.string ⟨#[]⟩, .iface 138 (.slice a n c), .nilIface, .int .i32 3] 142)).cell? ⟨w1.heap.size, 3, none⟩ = some (.int .i32 3) := by simp [go_sem]
  go_region_held3 (fun w' => w'.cell? ⟨b, 0, none⟩ = some (.int .i64 4) ∧ w'.cell? ⟨b + 3, 0, none⟩ = some (.int .i32 5))
    (first | exact ⟨(HS.out _ hka.drew).1, (HS.out _ hka.drew).2.2.2⟩ | exact ⟨(HS.out _ (hka.drew.alloc _)).1, (HS.out _ (hka.drew.alloc _)).2.2.2⟩ | go_keep)
    (first | (go_at_call 71; refine (partitioner4 _).mono ?_; rintro e w2 ⟨rfl, rfl⟩)
           | (go_at_call 358; refine (manual_partition _ _ 3 _ _ (ca (cd hm3))).mono ?_; rintro e w2 ⟨rfl, rfl⟩))
  obtain ⟨c4, c5, f4, f5⟩ := HS2.out _ (hka.alloc (.cells #[] 232)).drew
  have hk6 : Kept [b + 4, b + 5] w ((((w1.alloc (.cells #[.string ⟨#[]⟩, .iface 138 (.slice a n c), .nilIface, .int .i32 3] 142)).alloc (.cells #[] 232)).drew.setCell ⟨b + 4, 0, none⟩ (.int .i32 3)).setCell ⟨b + 5, 0, none⟩ (.bool true)) :=
    (((hka.alloc (.cells #[] 232)).drew.trans (Kept.refl [] _) (U := [b + 4, b + 5]) (by simp) (by simp)).setCell _ (by simp)).setCell _ (by simp)
  have HK := Lib.hid hk6; clear hk6
  generalize hw2 : ((w1.alloc (.cells #[.string ⟨#[]⟩, .iface 138 (.slice a n c), .nilIface, .int .i32 3] 142)).alloc (.cells #[] 232)).drew = w2 at *
  go_wp2
  go_region_held3 (fun w' => w'.frozen? ⟨b + 4, 0, none⟩ = false ∧ w'.frozen? ⟨b + 5, 0, none⟩ = false)
    (first | exact ⟨f4, f5⟩ | go_keep)
    (fail)
  go_end0
  refine ⟨rfl, ⟨?_, ?_, ?_, ?_⟩, HK.out.drew⟩
  · simp [go_sem, c4]
  · simp [go_sem, c5]
  · simp [go_sem, f4]
  · simp [go_sem, f5]

theorem hasBody70 : HasBody 70 := by unfold HasBody; intro a w; kernel_rfl

set_option maxRecDepth 100000 in
set_option maxHeartbeats 1000000 in
theorem partition_alive (w : World) : Calls Tryz.prog 38 #[.int .i64 4, .slice none 0 0, .int .i32 3, .int .i32 5] w fun e w' => e = .returned (.tuple #[.int .i32 3, .bool true]) ∧ Kept [] w w' := by
  have hclo : ∀ w0 : World, w0 = ((((((w.alloc (.cells #[.int .i64 4] 3)).alloc (.cells #[.slice none 0 0] 28)).alloc (.cells #[.int .i32 3] 21)).alloc (.cells #[.int .i32 5] 21)).alloc (.cells #[.int .i32 0] 21)).alloc (.cells #[.bool false] 4)) →
      Kept [] w w0 ∧ w0.heap.size = w.heap.size + 6 ∧ _ := fun w0 e => ⟨by subst e; exact ((((((Kept.refl [] w).alloc _).alloc _).alloc _).alloc _).alloc _).alloc _, by subst e; simp,
      safe_any 70 #[.pointer (some ⟨w.heap.size + 2, 0, none⟩), .pointer (some ⟨w.heap.size + 1, 0, none⟩), .pointer (some ⟨w.heap.size, 0, none⟩), .pointer (some ⟨w.heap.size + 3, 0, none⟩), .pointer (some ⟨w.heap.size + 4, 0, none⟩), .pointer (some ⟨w.heap.size + 5, 0, none⟩)] w0
        (fun w' => w'.cell? ⟨w.heap.size + 4, 0, none⟩ = some (.int .i32 3) ∧ w'.cell? ⟨w.heap.size + 5, 0, none⟩ = some (.bool true) ∧ w'.frozen? ⟨w.heap.size + 4, 0, none⟩ = false ∧ w'.frozen? ⟨w.heap.size + 5, 0, none⟩ = false) [w.heap.size + 4, w.heap.size + 5] hasBody70 (by subst e; simp) (by
          refine part_closure w.heap.size _ ?_ ?_ ?_
          · subst e; simp [go_sem]
          · subst e; simp [go_sem]
          · subst e; simp)⟩
  obtain ⟨hk0, hs0, hsafe⟩ := hclo _ rfl
  have HSF := Lib.hid hsafe; clear hsafe hclo
  go_enter Tryz.func38, Tryz.ntmps38
  go_wp2_with
    (go_at_call 43
     refine (HSF.out).mono ?_
     rintro e w2 ⟨rfl, w1, ⟨c4, c5, f4, f5⟩, hk1, hk2⟩
     have hs1 := hk1.size
     rw [hs0] at hk2 hs1
     have d4 : w2.cell? ⟨w.heap.size + 1 + 1 + 1 + 1, 0, none⟩ = some (.int .i32 3) := hk2.cell c4 (by simp)
     have d5 : w2.cell? ⟨w.heap.size + 1 + 1 + 1 + 1 + 1, 0, none⟩ = some (.bool true) := hk2.cell c5 (by simp)
     have e4 : w2.frozen? ⟨w.heap.size + 1 + 1 + 1 + 1, 0, none⟩ = false := hk2.frz f4 (by simp; omega) (by simp)
     have e5 : w2.frozen? ⟨w.heap.size + 1 + 1 + 1 + 1 + 1, 0, none⟩ = false := hk2.frz f5 (by simp; omega) (by simp)
     clear c4 c5 f4 f5)
  have k12 : Kept [] w w2 := (hk0.trans hk1 (U := []) (by simp) (by simp <;> omega)).trans hk2 (by simp) (by simp <;> omega)
  have k3 : Kept [w.heap.size + 4, w.heap.size + 5] w2 ((w2.setCell ⟨w.heap.size + 1 + 1 + 1 + 1, 0, none⟩ (.int .i32 3)).setCell ⟨w.heap.size + 1 + 1 + 1 + 1 + 1, 0, none⟩ (.bool true)) :=
    ((Kept.refl _ _).setCell _ (by simp)).setCell _ (by simp)
  have hend2 := k12.trans k3 (U := []) (by simp) (by simp <;> omega)
  simp [bodyPost, results, Tryz.results38, go_sem, d4, d5]
  exact hend2
end Go.Proofs.YticcnlpfmekagaaGreat
