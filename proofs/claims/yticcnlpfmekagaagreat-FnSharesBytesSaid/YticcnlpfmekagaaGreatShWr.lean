import Derived.Test.YticcnlpfmekagaaGreatShWr0
import Derived.Deep.RegionLaw
namespace Go.Proofs.YticcnlpfmekagaaGreat
open Go Go.Proofs Go.RowKit
set_option linter.unusedVariables false
set_option linter.unusedSimpArgs false

def AllOne (l : List Value) : Prop := ∀ u ∈ l, u.oneCell' = true
theorem AllOne.app {a b : List Value} (ha : AllOne a) (hb : AllOne b) : AllOne (a ++ b) := fun u hu => by
  rcases List.mem_append.1 hu with h | h
  · exact ha u h
  · exact hb u h
theorem AllOne.flat {α : Type} {f : α → List Value} {L : List α} (h : ∀ x ∈ L, AllOne (f x)) : AllOne (L.flatMap f) := fun u hu => by
  obtain ⟨x, hx, hu⟩ := List.mem_flatMap.1 hu
  exact h x hx u hu
theorem encTP_one (x : ByteArray × List Int) : AllOne (encTP x) :=
  AllOne.app (AllOne.app (be16_one _) (byteCells_one _)) (AllOne.app (be32_one _) (be32s_one _))
theorem asg_one (ver : Int) (D : List (ByteArray × List Int)) (data : List Value) (h : AllOne data) : AllOne (asgBytes ver D data) := by
  refine (((show AllOne _ from be16_one _).app (be32_one _)).app (AllOne.flat fun x _ => encTP_one x)).app ?_
  unfold specData
  split
  · exact be32_one _
  · exact (show AllOne _ from be32_one _).app h

def cellNow (p : Addr) (w : World) : Value := (w.cell? p).getD undef
theorem cellNow_of {p : Addr} {w : World} {v : Value} (h : w.cell? p = some v) : w.cell? p = some (cellNow p w) ∧ cellNow p w = v := by simp [cellNow, h]

set_option maxRecDepth 100000 in
set_option maxHeartbeats 2000000 in
theorem sharesBytes_closure (b : Nat) (ver : Int) (va : Option Addr) (vc : Nat) (L : List Shr) (da : Option Addr) (dc : Nat) (data : List Value) (w : World) (hc : w.cell? ⟨b, 0, none⟩ = some (.int .i16 ver) ∧ w.cell? ⟨b + 1, 0, none⟩ = some (.slice va L.length vc) ∧ w.cell? ⟨b + 2, 0, none⟩ = some (.slice da data.length dc) ∧
      w.cell? ⟨b + 3, 0, none⟩ = some (.slice none 0 0) ∧ w.cell? ⟨b + 4, 0, none⟩ = some (.bool false)) (hz : w.frozen? ⟨b + 3, 0, none⟩ = false ∧ w.frozen? ⟨b + 4, 0, none⟩ = false) (hlt : b + 4 < w.heap.size)
    (hv : ShrsAt w (.slice va L.length vc) L) (hl : L.length ≤ 10) (hnd : (L.map (·.top)).Nodup) (hf : ∀ x ∈ L, x.top.size ≤ 50 ∧ x.parts.length ≤ 20) (hd : SlAt w 1 (.slice da data.length dc) data.length data) (hdl : data.length ≤ 1000) (hver : isI16 ver) :
    Calls Tryz.prog 67 #[.pointer (some ⟨b, 0, none⟩), .pointer (some ⟨b + 1, 0, none⟩), .pointer (some ⟨b + 2, 0, none⟩), .pointer (some ⟨b + 3, 0, none⟩), .pointer (some ⟨b + 4, 0, none⟩)] w fun e w' =>
      e = .returned (.tuple #[]) ∧ ∃ D' g c, D'.Perm (L.map topOf) ∧ w'.cell? ⟨b + 3, 0, none⟩ = some (.slice (some ⟨g, 0, none⟩) (asgBytes ver D' data).length c) ∧ w'.cell? ⟨b + 4, 0, none⟩ = some (.bool true) ∧ w'.frozen? ⟨b + 3, 0, none⟩ = false ∧ w'.frozen? ⟨b + 4, 0, none⟩ = false ∧
        SlAt w' 1 (.slice (some ⟨g, 0, none⟩) (asgBytes ver D' data).length c) (asgBytes ver D' data).length (asgBytes ver D' data) ∧ w.heap.size ≤ g ∧ Kept [b + 3, b + 4] w w' := by
  obtain ⟨hc0, hc1, hc2, hc3, hc4⟩ := hc
  have hT : ∀ w', Kept [] w w' → _ := fun w' k' => topicMap_any _ L w' (hv.kept k' (by simp) (by simp)) (by omega) hnd (fun x hx => by have := hf x hx; omega)
  have HT := Lib.hid hT; clear hT
  have HF := Lib.hid (And.intro hf hd); clear hf hd hv
  generalize hdn : data.length = dn at *
  generalize hln : L.length = ln at *
  have HN := Lib.hid (And.intro hdn hln); clear hdn hln
  go_enter Tryz.func67, Tryz.ntmps67
  go_upto_region 1 with fail
  have hkM : Kept [] w (w.alloc (.cells #[.int .i16 0, .string ⟨#[]⟩, .int .i32 0, .string ⟨#[]⟩, .pointer none, .pointer none, .pointer none, .slice none 0 0] 132)) := (Kept.refl _ _).alloc _
  have hMh := heap_alloc_new w (.cells #[.int .i16 0, .string ⟨#[]⟩, .int .i32 0, .string ⟨#[]⟩, .pointer none, .pointer none, .pointer none, .slice none 0 0] 132)
  have hMs : (w.alloc (.cells #[.int .i16 0, .string ⟨#[]⟩, .int .i32 0, .string ⟨#[]⟩, .pointer none, .pointer none, .pointer none, .slice none 0 0] 132)).heap.size = w.heap.size + 1 := by simp
  generalize (w.alloc (.cells #[.int .i16 0, .string ⟨#[]⟩, .int .i32 0, .string ⟨#[]⟩, .pointer none, .pointer none, .pointer none, .slice none 0 0] 132)) = M at *
  have hp7 := (cells_of hMh).1 7 _ rfl
  have hz7 : M.frozen? ⟨w.heap.size, 7, none⟩ = false := by simp [World.frozen?, hMh]
  have d0 := hkM.cell hc0 (by simp)
  have d1 := hkM.cell hc1 (by simp)
  have d2 := hkM.cell hc2 (by simp)
  go_cut [20] (fun t wx => ∃ g k rb len L', t = .bool false ∧ Kept [] w wx ∧ w.heap.size ≤ g ∧ w.heap.size ≤ rb ∧ wx.cell? ⟨w.heap.size, 7, none⟩ = some (.slice (some ⟨g, 0, none⟩) 1 k) ∧ L'.Perm (L.map topOf) ∧
      wx.cell? ⟨g, 1, none⟩ = some (.slice (some ⟨rb, 0, none⟩) len len) ∧ len = (asgBytes ver L' data).length ∧ Buf wx rb (asgBytes ver L' data))
  case first =>
    have HP7 := Lib.hid hp7; clear hp7
    clear hc0 hc1 hc2
    go_region_law
      (first
        | (go_simp
           go_at_call 47
           refine (HT.out _ hkM.drew).mono ?_
           rintro e w1 ⟨D, rfl, hD, hT1, hk1, hfr, hcap⟩
           have hk1' := hk1.of_drew
           have f0 := hk1'.cell d0 (by simp)
           have f2 := hk1'.cell d2 (by simp)
           have hsrc := (HF.out.2.kept (hkM.trans hk1' (U := []) (by simp) (by simp)) (by simp)).src Tryz.underlying28
           have HSRC := Lib.hid hsrc; clear hsrc
           go_wp2_with fail)
        | (refine sl_appN rfl rfl elU8 rfl rfl HSRC.out (by omega) (by omega) ?_
           rintro v' w2 ⟨xa, xc, rfl, hx0, hx1, hxc, hown2, hk2⟩
           have g0 := hk2.cell f0 (by simp)
           have ham := member_ready hMs HP7.out hz7 hk1' (by simpa [hMs] using hT1) hD (fun x hx g hg => (hfr x hx g hg).2) ⟨xa, xc, rfl, hx0, hx1, hxc, hown2, hk2⟩ HN.out.1 hver HF.out.2.2.1 HF.out.1 (by have := HN.out.2; omega) hdl
           have HAM := Lib.hid ham; clear ham hT1 hfr hcap hown2 hx0 hx1 hxc)
        | (go_simp
           go_at_call 68
           refine HAM.out.mono ?_
           rintro e w4 ⟨rfl, g, k, rb, L', hg, hrb, c7, hpl, c8, hbuf, hk4⟩
           go_wp2_with fail)
        | fail)
    all_goals
      have HE := Lib.hid (And.intro hpl (And.intro c8 (And.intro hbuf hk4))); clear hpl c8 hbuf hk4
      go_wp2_with fail
      go_meet
      obtain ⟨hpl, c8, hbuf, hk4⟩ := HE.out
      exact ⟨g, k, rb, _, L', rfl, hkM.trans hk4 (by simp) (by simp), by omega, by omega, c7, hpl, c8, rfl, hbuf⟩
  case rest =>
    obtain ⟨g, k, rb, len, L', rfl, hkc, hg, hrb, c7, hpl, c8, hlen, hbuf⟩ := hcut
    have d3 := hkc.cell hc3 (by simp)
    have d4 := hkc.cell hc4 (by simp)
    have z3 := hkc.frz hz.1 (by simp; omega) (by simp)
    have z4 := hkc.frz hz.2 (by simp; omega) (by simp)
    have hsl := hbuf.sl rfl (asg_one ver L' data HF.out.2.2.1)
    have hl1 : 1 ≤ (asgBytes ver L' data).length := by simp [asgBytes, be16]
    have hl2 : (asgBytes ver L' data).length ≤ 10000 := by
      refine asg_le ver L' data (fun x hx => topOf_le HF.out.1 x (hpl.mem_iff.1 hx)) ?_ (by have := HN.out.1; omega)
      have h1 := hpl.length_eq; have h2 := HN.out.2; rw [List.length_map] at h1; omega
    have hcp := copied_any _ _ _ wc hsl hl1 (by omega)
    have HCP := Lib.hid hcp; clear hcp hsl
    have HE := Lib.hid (And.intro hpl (And.intro hkc hbuf)); clear hpl hkc hbuf
    rw [← hlen] at HCP hl1 hl2
    have HL := Lib.hid hlen; clear hlen
    go_wp2_with (first
      | (go_at_call 58
         refine HCP.out.mono ?_
         rintro e w5 ⟨g5, c5, rfl, hc5, hsl5, hg5, hg5', hk5⟩
         have e3 := hk5.cell d3 (by simp)
         have e4 := hk5.cell d4 (by simp)
         have y3 := hk5.frz z3 (by have := World.block_lt_of_cell? _ _ d3; simpa using this) (by simp)
         have y4 := hk5.frz z4 (by have := World.block_lt_of_cell? _ _ d4; simpa using this) (by simp))
      | fail)
    go_end0
    obtain ⟨hpl, hkc, hbuf⟩ := HE.out
    have hs := hkc.size
    have hkf : Kept [b + 3, b + 4] w ((w5.setCell ⟨b + 3, 0, none⟩ (.slice (some ⟨g5, 0, none⟩) len c5)).setCell ⟨b + 4, 0, none⟩ (.bool true)) := (((hkc.trans hk5 (U := [b + 3, b + 4]) (by simp) (by simp)).setCell _ (by simp)).setCell _ (by simp))
    have hk6 : Kept [b + 3, b + 4] w5 ((w5.setCell ⟨b + 3, 0, none⟩ (.slice (some ⟨g5, 0, none⟩) len c5)).setCell ⟨b + 4, 0, none⟩ (.bool true)) := ((Kept.refl _ _).setCell _ (by simp)).setCell _ (by simp)
    have hsl6 := hsl5.kept hk6 (fun g' hg' => by simp only [Value.ownBlock, Option.some.injEq] at hg'; simp; omega)
    have h5g : w.heap.size ≤ g5 := by omega
    refine ⟨rfl, L', g5, c5, hpl, ?_, ?_, ?_, ?_, ?_, h5g, hkf⟩
    · rw [← HL.out]; simp [go_sem, e3]
    · simp [go_sem, e4]
    · simp [go_sem, y3]
    · simp [go_sem, y4]
    · rw [← HL.out]; exact hsl6
end Go.Proofs.YticcnlpfmekagaaGreat
