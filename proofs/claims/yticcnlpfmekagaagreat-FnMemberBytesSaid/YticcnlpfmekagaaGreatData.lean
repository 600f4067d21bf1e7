import Derived.Test.YticcnlpfmekagaaGreatStrat
namespace Go.Proofs.YticcnlpfmekagaaGreat
open Go Go.Proofs Go.RowKit
set_option linter.unusedVariables false
set_option linter.unusedSimpArgs false

/-! ## GroupData -/

theorem elU8' : Elem Tryz.prog 28 5 1 1 (.int .u8 0) := elU8

theorem tops2_size {L : List Shr} {D : Tops} (h : ∀ x ∈ L, x.top.size ≤ 1000) (hD : tops2 D = L.map topOf) : ∀ x ∈ D, x.1.size ≤ 32767 := by
  intro x hx
  have : (x.1, x.2.2) ∈ L.map topOf := by rw [← hD]; exact List.mem_map_of_mem (f := fun x : ByteArray × Value × List Int => (x.1, x.2.2)) hx
  obtain ⟨y, hy, he⟩ := List.mem_map.1 this
  have := h y hy
  rw [← (Prod.mk.inj he).1]; show y.top.size ≤ _; omega

theorem own_nil (E sz : Nat) {w : World} : w.ownsRow 0 E sz (.slice none 0 0) 0 [] := ⟨by simp, .inl ⟨rfl, rfl⟩⟩
theorem own_form {w : World} {E sz n : Nat} {v : Value} {cs : List Value} (h : w.ownsRow 0 E sz v n cs) : ∃ a n c, v = .slice a n c := by
  rcases h.2 with ⟨rfl, _⟩ | ⟨g, cap, cur, rfl, _⟩
  · exact ⟨_, _, _, rfl⟩
  · exact ⟨_, _, _, rfl⟩
theorem DataOf.length {n : Nat} {L : Tops} {gen : Int} {cs : List Value} (h : DataOf n L gen cs) (hl : (encV1 L gen).length ≤ 1000000) : cs.length ≤ 1000000 := by
  rcases h with ⟨_, rfl⟩ | ⟨_, L', hp, rfl⟩
  · simp
  · simp only [encV1, List.length_append, encTs_perm_length hp, hp.length_eq] at *; omega

set_option maxRecDepth 100000 in
set_option maxHeartbeats 1000000 in
theorem data_closure (n : Nat) (hn : n < 4) (b : Nat) (mem : ByteArray) (v : Value) (L : List Shr) (gen : Int) (w : World) (hv : ShrsAt w v L) (hl : L.length ≤ 1000) (hnd : (L.map (·.top)).Nodup) (hsz : ∀ x ∈ L, x.parts.length ≤ 1000) (htop : ∀ x ∈ L, x.top.size ≤ 1000) (hg : isI32 gen)
    (hroom : ∀ D, tops2 D = L.map topOf → (encV1 D gen).length ≤ 1000000)
    (hc : w.cell? ⟨b, 0, none⟩ = some (.int .i64 n) ∧ w.cell? ⟨b + 1, 0, none⟩ = some (.string mem) ∧ w.cell? ⟨b + 2, 0, none⟩ = some v ∧ w.cell? ⟨b + 3, 0, none⟩ = some (.int .i32 gen))
    (hd : w.cell? ⟨b + 4, 0, none⟩ = some (.slice none 0 0) ∧ w.cell? ⟨b + 5, 0, none⟩ = some (.bool false) ∧ w.frozen? ⟨b + 4, 0, none⟩ = false ∧ w.frozen? ⟨b + 5, 0, none⟩ = false) (hlt : b + 5 < w.heap.size) :
    Calls Tryz.prog 50 #[.pointer (some ⟨b, 0, none⟩), .pointer (some ⟨b + 1, 0, none⟩), .pointer (some ⟨b + 2, 0, none⟩), .pointer (some ⟨b + 3, 0, none⟩), .pointer (some ⟨b + 4, 0, none⟩), .pointer (some ⟨b + 5, 0, none⟩)] w fun e w' =>
      e = .returned (.tuple #[]) ∧ (∃ u D cs, w'.cell? ⟨b + 4, 0, none⟩ = some u ∧ w'.cell? ⟨b + 5, 0, none⟩ = some (.bool true) ∧ tops2 D = L.map topOf ∧ DataOf n D gen cs ∧ SlAt w' 1 u cs.length cs ∧ (∀ g, u.ownBlock = some g → w.heap.size ≤ g) ∧ w'.frozen? ⟨b + 4, 0, none⟩ = false ∧ w'.frozen? ⟨b + 5, 0, none⟩ = false) ∧ Kept [b + 4, b + 5] w w' := by
  have hS : ∀ w', Kept [] w w' → w'.cell? ⟨b, 0, none⟩ = some (.int .i64 n) ∧ w'.cell? ⟨b + 1, 0, none⟩ = some (.string mem) ∧ w'.cell? ⟨b + 2, 0, none⟩ = some v ∧ w'.cell? ⟨b + 3, 0, none⟩ = some (.int .i32 gen) := fun w' k =>
    ⟨k.cell hc.1 (by simp), k.cell hc.2.1 (by simp), k.cell hc.2.2.1 (by simp), k.cell hc.2.2.2 (by simp)⟩
  have hS2 : ∀ w', Kept [] w w' → w'.cell? ⟨b + 4, 0, none⟩ = some (.slice none 0 0) ∧ w'.cell? ⟨b + 5, 0, none⟩ = some (.bool false) ∧ w'.frozen? ⟨b + 4, 0, none⟩ = false ∧ w'.frozen? ⟨b + 5, 0, none⟩ = false := fun w' k =>
    ⟨k.cell hd.1 (by simp), k.cell hd.2.1 (by simp), k.frz hd.2.2.1 (by simp; omega) (by simp), k.frz hd.2.2.2 (by simp; omega) (by simp)⟩
  have hT : ∀ w', Kept [] w w' → _ := fun w' k => topicMap_any v L w' (hv.kept k (by simp) (by simp)) (by omega) hnd (fun x hx => by have := hsz x hx; omega)
  have hmt := (dataMeth n hn).m
  have hnl := (dataMeth n hn).n
  have hcf := (dataMeth n hn).c
  have HS := Lib.hid hS; clear hS
  have HS2 := Lib.hid hS2; clear hS2
  have HT := Lib.hid hT; clear hT
  have HR := Lib.hid hroom; clear hroom
  have HN := Lib.hid hn; clear hn
  have HTP := Lib.hid htop; clear htop
  have HL := Lib.hid hlt; clear hlt
  clear hc hd hv
  go_enter Tryz.func50, Tryz.ntmps50
  go_wp2
  go_region_held3 (fun w' => w'.cell? ⟨b, 0, none⟩ = some (.int .i64 n) ∧ w'.cell? ⟨b + 1, 0, none⟩ = some (.string mem) ∧ w'.cell? ⟨b + 2, 0, none⟩ = some v ∧ w'.cell? ⟨b + 3, 0, none⟩ = some (.int .i32 gen))
    (first | exact HS.out _ (Kept.refl _ _).drew | exact HS.out _ ((Kept.refl _ _).alloc _).drew | exact HS.out _ hk2' | exact HS.out _ hk3' | trivial)
    (first | (go_at_call 46; refine (strategy_any n HN.out _).mono ?_; rintro e w1 ⟨rfl, rfl⟩)
           | (go_at_call 47; refine (HT.out _ (((Kept.refl [] w).drew).alloc _)).mono ?_; rintro e w2 ⟨D, rfl, hD, hT2, hk2, hfr, _⟩
              have hk2' : Kept [] w w2 := (((Kept.refl [] w).drew).alloc _).trans hk2 (by simp) (by simp)
              have hT3 : TopsAt w2 (w.heap.size + 1) D := by simpa using hT2
              have hdata := fun a => data_any n HN.out w2 mem _ D gen hT3 hg (HR.out D hD) (tops2_size HTP.out hD) (fun x hx g h1 => (hfr x hx g h1).2) a
              have HDT := Lib.hid hdata; clear hdata hT2 hT3 hfr
              have HDD := Lib.hid hD; clear hD)
           | (refine (HDT.out _).mono ?_; rintro e w3 ⟨u, cs, rfl, hda, hsl, hk3⟩
              have hcs : cs.length ≤ 1000000 := hda.length (HR.out D HDD.out)
              have hk3' : Kept [] w w3 := hk2'.trans hk3 (by simp) (by simp)))
  all_goals
    obtain ⟨c4, c5, f4, f5⟩ := HS2.out _ hk3'
    have H1 := Lib.hid hsl.2.1
    have HSR := Lib.hid ((SlAt.drew hsl).src Tryz.underlying28); clear hsl
    have hlen3 := hk3'.size
    have HH := Lib.hid hlen3; clear hlen3
    have HC := Lib.hid hcs; clear hcs
    go_wp2
    go_region_held3 (fun w' => w'.frozen? ⟨b + 4, 0, none⟩ = false ∧ w'.frozen? ⟨b + 5, 0, none⟩ = false)
      (first | exact ⟨f4, f5⟩ | exact ⟨e4, e5⟩ | go_keep)
      (first | (refine sl_app (v := .slice none 0 0) rfl rfl elU8 rfl rfl (own_nil _ _) HSR.out (by have := HC.out; omega) (by have := HC.out; omega) ?_
                intro v' w4 hown hk4' hd4
                have hk4 := hk4'.of_drew; clear hk4'
                obtain ⟨a', n', c', rfl⟩ := own_form hown
                have d4 := hk4.cell c4 (by simp [Value.ownBlock])
                have d5 := hk4.cell c5 (by simp [Value.ownBlock])
                have e4 := hk4.frz f4 (by have := HL.out; have := HH.out; simp; omega) (by simp [Value.ownBlock])
                have e5 := hk4.frz f5 (by have := HL.out; have := HH.out; simp; omega) (by simp [Value.ownBlock])))
  all_goals
    go_end0
    have hL := HL.out
    have hH := HH.out
    have hk5 : Kept [] w w4 := hk3'.trans hk4 (by simp) (by simp [Value.ownBlock])
    have ho : ∀ g, (Value.slice a' n' c').ownBlock = some g → w.heap.size ≤ g ∧ g ≠ b + 4 ∧ g ≠ b + 5 := by
      intro g hg
      rcases hd4 with ⟨h1, _⟩ | ⟨h1, _⟩
      · rw [h1] at hg; simp [Value.ownBlock] at hg
      · rw [h1] at hg; simp only [Option.some.injEq, World.size_drew] at hg; omega
    have hk6 : Kept [b + 4, b + 5] w4 ((w4.setCell ⟨b + 4, 0, none⟩ (.slice a' n' c')).setCell ⟨b + 5, 0, none⟩ (.bool true)) := ((Kept.refl _ _).setCell _ (by simp)).setCell _ (by simp)
    rw [List.nil_append, Nat.zero_add] at hown
    refine ⟨rfl, ⟨.slice a' n' c', _, cs, ?_, ?_, HDD.out, hda, (own_sl hown H1.out).kept hk6 ?_, fun g hg => (ho g hg).1, ?_, ?_⟩, hk5.trans hk6 (by simp) (by simp)⟩
    · simp [go_sem, d4]
    · simp [go_sem, d5]
    · intro g hg; have := ho g hg; simp; omega
    · simp [go_sem, e4]
    · simp [go_sem, e5]
end Go.Proofs.YticcnlpfmekagaaGreat
