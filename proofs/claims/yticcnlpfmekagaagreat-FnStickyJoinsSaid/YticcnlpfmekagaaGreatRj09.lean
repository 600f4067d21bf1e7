/- Part 9 of the proof of the row: Strat, Data, Data2, Fits, Part. -/
import Derived.Test.YticcnlpfmekagaaGreatRj00
import Derived.Test.YticcnlpfmekagaaGreatRj05
import Derived.Stop.Asserts
set_option linter.unusedVariables false
set_option linter.unusedSimpArgs false
set_option maxRecDepth 100000
set_option maxHeartbeats 8000000
namespace Go.Proofs.YticcnlpfmekagaaGreat
section
open Go Go.Proofs Go.RowKit
def stratT : Nat → TypeId
 | 0 => 160
 | 1 => 167
 | 2 => 170
 | _ => 177
def stratO : Nat → Obj
 | 0 => .cells #[.func (.func 90) #[] #[], .string ⟨#[114, 97, 110, 103, 101]⟩] 166
 | 1 => .cells #[] 169
 | 2 => .cells #[.map none, .map none, .bool false] 176
 | _ => .cells #[.map none, .map none, .bool true, .int .i32 (-1)] 181
def dataF : Nat → FuncId
 | 0 => 180
 | 1 => 202
 | 2 => 226
 | _ => 280
theorem strat0 (w : World) : Calls Tryz.prog 73 #[] w fun e w' => e = .returned (.iface 160 (.pointer (some ⟨w.heap.size, 0, none⟩))) ∧ w' = w.alloc (stratO 0) := by
 go_enter Tryz.func73, Tryz.ntmps73
 go_wp2
 go_ret
 exact ⟨rfl, rfl⟩
theorem strat2 (w : World) : Calls Tryz.prog 75 #[] w fun e w' => e = .returned (.iface 170 (.pointer (some ⟨w.heap.size, 0, none⟩))) ∧ w' = w.alloc (stratO 2) := by
 go_enter Tryz.func75, Tryz.ntmps75
 go_wp2
 go_ret
 exact ⟨rfl, rfl⟩
theorem strat1 (w : World) : Calls Tryz.prog 74 #[] w fun e w' => e = .returned (.iface 167 (.pointer (some ⟨w.heap.size, 0, none⟩))) ∧ w' = w.alloc (stratO 1) := by
 go_enter Tryz.func74, Tryz.ntmps74
 go_wp2
 go_ret
 exact ⟨rfl, rfl⟩
theorem cellStore (b : Nat) (o : Nat) (w : World) (v : Value) (hc : w.cell? ⟨b, o, none⟩ = some v) (hz : w.frozen? ⟨b, o, none⟩ = false) (x : Int) : Calls Tryz.prog 94 #[.pointer (some ⟨b, o, none⟩), .int .i32 x] w fun e w' => e = .returned (.tuple #[]) ∧ w' = w.setCell ⟨b, o, none⟩ (.int .i32 x) := by
 go_enter Tryz.func94, Tryz.ntmps94
 go_wp2
 go_end0
 exact ⟨rfl, rfl⟩
theorem strat3 (w : World) : Calls Tryz.prog 76 #[] w fun e w' => e = .returned (.iface 177 (.pointer (some ⟨w.heap.size, 0, none⟩))) ∧ w' = w.alloc (stratO 3) := by
 have hcs := fun (w0 : World) v h1 h2 => cellStore w.heap.size 3 w0 v h1 h2 (-1)
 go_enter Tryz.func76, Tryz.ntmps76
 go_wp2_with (go_at_call 94; refine (hcs _ (.int .i32 0) (by simp) (by simp)).mono ?_; rintro e w1 ⟨rfl, rfl⟩)
 go_ret
 exact ⟨rfl, rfl⟩
theorem strategy_any (n : Nat) (hn : n < 4) (w : World) : Calls Tryz.prog 46 #[.int .i64 n] w fun e w' => e = .returned (.iface (stratT n) (.pointer (some ⟨w.heap.size, 0, none⟩))) ∧ w' = w.alloc (stratO n) := by
 rcases (by omega : n = 0 ∨ n = 1 ∨ n = 2 ∨ n = 3) with rfl | rfl | rfl | rfl
 all_goals
  go_enter Tryz.func46, Tryz.ntmps46
  go_wp2_with (first | (go_at_call 73; refine (strat0 _).mono ?_; rintro e w1 ⟨rfl, rfl⟩) | (go_at_call 74; refine (strat1 _).mono ?_; rintro e w1 ⟨rfl, rfl⟩) | (go_at_call 75; refine (strat2 _).mono ?_; rintro e w1 ⟨rfl, rfl⟩) | (go_at_call 76; refine (strat3 _).mono ?_; rintro e w1 ⟨rfl, rfl⟩))
  go_ret
  exact ⟨rfl, rfl⟩
theorem dataMeth (n : Nat) (hn : n < 4) : IsMeth (stratT n) "AssignmentData" (dataF n) := by
 rcases (by omega : n = 0 ∨ n = 1 ∨ n = 2 ∨ n = 3) with rfl | rfl | rfl | rfl
 all_goals exact ⟨fun a w => by kernel_rfl, fun a w => by kernel_rfl, fun a w => by kernel_rfl⟩
theorem encMeth407 : IsMeth 374 "pub-kestrel/pub/sarama.encode" 407 := ⟨fun a w => by kernel_rfl, fun a w => by kernel_rfl, fun a w => by kernel_rfl⟩
theorem noFlex374 : NoFlex 374 := fun a w => run_typeAssert_lacksB Tryz.underlying242 (by kernel_rfl) (by kernel_rfl) _ _ _
theorem be32_one (n : Int) : ∀ u ∈ be32 n, u.oneCell' = true := by intro u hu; simp [be32] at hu; rcases hu with h | h | h | h <;> subst h <;> rfl
theorem be16_one (n : Int) : ∀ u ∈ be16 n, u.oneCell' = true := by intro u hu; simp [be16] at hu; rcases hu with h | h <;> subst h <;> rfl
theorem byteCells_one (s : ByteArray) : ∀ u ∈ byteCells s, u.oneCell' = true := by
 intro u hu; unfold byteCells at hu; obtain ⟨b, _, rfl⟩ := List.mem_map.1 hu; rfl
theorem be32s_one (xs : List Int) : ∀ u ∈ be32s xs, u.oneCell' = true := by
 intro u hu; unfold be32s at hu; obtain ⟨b, _, h⟩ := List.mem_flatMap.1 hu; exact be32_one _ u h
theorem encV1_one (L : Tops) (g : Int) : ∀ u ∈ encV1 L g, u.oneCell' = true := by
 intro u hu
 unfold encV1 encTs at hu
 rcases Zap.1 hu with hu | hu
 · rcases Zap.1 hu with hu | hu
   · exact be32_one _ u hu
   · obtain ⟨x, _, hx⟩ := List.mem_flatMap.1 hu
     unfold encT encStr encInts at hx
     rcases Zap.1 hx with hx | hx
     · rcases Zap.1 hx with hx | hx
       · exact be16_one _ u hx
       · exact byteCells_one _ u hx
     · rcases Zap.1 hx with hx | hx
       · exact be32_one _ u hx
       · exact be32s_one _ u hx
 · exact be32_one _ u hu
theorem Buf.sl {w : World} {rb : Nat} {bs : List Value} {n : Nat} (h : Buf w rb bs) (hn : bs.length = n) (h1 : ∀ u ∈ bs, u.oneCell' = true) : SlAt w 1 (.slice (some ⟨rb, 0, none⟩) n n) n bs := by
 refine ⟨by omega, h1, .inr ⟨rb, 0, n, rfl, fun j u hj => ?_⟩⟩
 unfold Buf at h
 rw [Nat.zero_add]
 simp [World.cell?, h, hj]
def DataOf (n : Nat) (L : Tops) (gen : Int) (cs : List Value) : Prop := (n ≠ 2 ∧ cs = []) ∨ (n = 2 ∧ ∃ L', L'.Perm L ∧ cs = encV1 L' gen)
theorem data_any (n : Nat) (hn : n < 4) (w : World) (mem : ByteArray) (r : Nat) (L : Tops) (gen : Int) (hL : TopsAt w r L) (hg : isI32 gen) (hroom : (encV1 L gen).length ≤ 1000000) (hsz : ∀ x ∈ L, x.1.size ≤ 32767)
 (hlt : ∀ x ∈ L, ∀ g, x.2.1.ownBlock = some g → g < w.heap.size) (a : Addr) :
 Calls Tryz.prog (dataF n) #[.pointer (some a), .string mem, .map (some r), .int .i32 gen] w fun e w' => ∃ v cs, e = .returned (.tuple #[v, .nilIface]) ∧ DataOf n L gen cs ∧ SlAt w' 1 v cs.length cs ∧ Kept [] w w' := by
 rcases (by omega : n = 0 ∨ n = 1 ∨ n = 2 ∨ n = 3) with rfl | rfl | rfl | rfl
 · go_enter Tryz.func180, Tryz.ntmps180
   go_wp2
   go_ret2
   exact ⟨_, [], rfl, .inl ⟨by omega, rfl⟩, SlAt.nil _ _, Kept.refl _ _⟩
 · go_enter Tryz.func202, Tryz.ntmps202
   go_wp2
   go_ret2
   exact ⟨_, [], rfl, .inl ⟨by omega, rfl⟩, SlAt.nil _ _, Kept.refl _ _⟩
 · have hlen : ∀ bs, (∃ L', L'.Perm L ∧ bs = encV1 L' gen) → bs.length = (encV1 L gen).length := by
    rintro bs ⟨L', hp, rfl⟩
    simp only [encV1, List.length_append, encTs_perm_length hp, hp.length_eq]
   have hm0 : ((w.alloc (.cells #[.map (some r), .int .i32 gen, .slice none 0 0] 377))).heap[w.heap.size]? = some (.cells #[.map (some r), .int .i32 gen, .slice none 0 0] 377 (0, 0)) := heap_alloc_new w _
   have hrl := hL.map.lt
   have he := encode_any 374 407 ⟨w.heap.size, 0, none⟩ encMeth407 noFlex374 (w.alloc (.cells #[.map (some r), .int .i32 gen, .slice none 0 0] 377)) (fun bs => ∃ L', L'.Perm L ∧ bs = encV1 L' gen) (encV1 L gen).length hlen (by omega)
    (fun s w' hk ho hs hmax => by
      have k0 : Kept [] w w' := ((Kept.refl [] w).alloc _).trans hk (by simp) (by simp)
      have := v1_encode s w.heap.size r (.slice none 0 0) gen L w' [] hs (hk.heap hm0 (by simp)) (hL.kept k0 (by simp) (by simp)) hg (by simpa using hmax) hsz
       (fun h => by have := ho _ h; simp only [World.size_alloc] at this; omega) (fun h => by have := ho _ h; simp only [World.size_alloc] at this; omega) (fun x hx g h1 h2 => by have := ho _ h2; have := hlt x hx g h1; simp only [World.size_alloc] at *; omega)
      refine this.mono ?_
      rintro e w2 ⟨rfl, L', hp, hst, hk2⟩
      exact ⟨rfl, _, ⟨L', hp, rfl⟩, by simpa using hst, hk2⟩)
   have HE := Zhd he; clear he
   have HL := Zhd hlen; clear hlen
   clear hL
   go_enter Tryz.func226, Tryz.ntmps226
   go_wp2_with (go_at_call 80; refine (HE.out).mono ?_; rintro e w1 ⟨rb, bs, rfl, hbs, hbuf, hk1, hrb⟩)
   go_ret2
   have hl := HL.out _ hbs
   obtain ⟨L', hp, rfl⟩ := hbs
   refine ⟨_, _, rfl, .inr ⟨rfl, L', hp, rfl⟩, ?_, ((Kept.refl [] w).alloc _).trans hk1 (by simp) (by simp)⟩
   rw [← hl]
   exact hbuf.sl rfl (encV1_one _ _)
 · go_enter Tryz.func280, Tryz.ntmps280
   go_wp2
   go_ret2
   exact ⟨_, [], rfl, .inl ⟨by omega, rfl⟩, SlAt.nil _ _, Kept.refl _ _⟩
end
section
open Go Go.Proofs Go.RowKit
theorem tops2_size {L : List Shr} {D : Tops} (h : ∀ x ∈ L, x.top.size ≤ 1000) (hD : tops2 D = L.map topOf) : ∀ x ∈ D, x.1.size ≤ 32767 := by
 intro x hx
 have : (x.1, x.2.2) ∈ L.map topOf := by rw [← hD]; exact List.mem_map_of_mem (f := fun x : ByteArray × Value × List Int => (x.1, x.2.2)) hx
 obtain ⟨y, hy, he⟩ := List.mem_map.1 this
 have := h y hy
 rw [← (Prod.mk.inj he).1]; show y.top.size ≤ _; omega
theorem own_nil (E sz : Nat) {w : World} : w.ownsRow 0 E sz (.slice none 0 0) 0 [] := ⟨by simp, .inl ⟨rfl, rfl⟩⟩
theorem own_form {w : World} {E sz n : Nat} {v : Value} {cs : List Value} (h : w.ownsRow 0 E sz v n cs) : ∃ a n c, v = .slice a n c := by
 rcases h.2 with ⟨rfl, _⟩ | ⟨g, cap, cur, rfl, _⟩
 · exact ⟨_, _, _, rfl⟩
 · exact ⟨_, _, _, rfl⟩
theorem DataOf.length {n : Nat} {L : Tops} {gen : Int} {cs : List Value} (h : DataOf n L gen cs) (hl : (encV1 L gen).length ≤ 1000000) : cs.length ≤ 1000000 := by
 rcases h with ⟨_, rfl⟩ | ⟨_, L', hp, rfl⟩
 · simp
 · simp only [encV1, List.length_append, encTs_perm_length hp, hp.length_eq] at *; omega
theorem data_closure (n : Nat) (hn : n < 4) (b : Nat) (mem : ByteArray) (v : Value) (L : List Shr) (gen : Int) (w : World) (hv : ShrsAt w v L) (hl : L.length ≤ 1000) (hnd : (L.map (·.top)).Nodup) (hsz : ∀ x ∈ L, x.parts.length ≤ 1000) (htop : ∀ x ∈ L, x.top.size ≤ 1000) (hg : isI32 gen)
 (hroom : ∀ D, tops2 D = L.map topOf → (encV1 D gen).length ≤ 1000000)
 (hc : w.cell? ⟨b, 0, none⟩ = some (.int .i64 n) ∧ w.cell? ⟨b + 1, 0, none⟩ = some (.string mem) ∧ w.cell? ⟨b + 2, 0, none⟩ = some v ∧ w.cell? ⟨b + 3, 0, none⟩ = some (.int .i32 gen))
 (hd : w.cell? ⟨b + 4, 0, none⟩ = some (.slice none 0 0) ∧ w.cell? ⟨b + 5, 0, none⟩ = some (.bool false) ∧ w.frozen? ⟨b + 4, 0, none⟩ = false ∧ w.frozen? ⟨b + 5, 0, none⟩ = false) (hlt : b + 5 < w.heap.size) :
 Calls Tryz.prog 50 #[.pointer (some ⟨b, 0, none⟩), .pointer (some ⟨b + 1, 0, none⟩), .pointer (some ⟨b + 2, 0, none⟩), .pointer (some ⟨b + 3, 0, none⟩), .pointer (some ⟨b + 4, 0, none⟩), .pointer (some ⟨b + 5, 0, none⟩)] w fun e w' =>
  e = .returned (.tuple #[]) ∧ (∃ u D cs, w'.cell? ⟨b + 4, 0, none⟩ = some u ∧ w'.cell? ⟨b + 5, 0, none⟩ = some (.bool true) ∧ tops2 D = L.map topOf ∧ DataOf n D gen cs ∧ SlAt w' 1 u cs.length cs ∧ (∀ g, u.ownBlock = some g → w.heap.size ≤ g) ∧ w'.frozen? ⟨b + 4, 0, none⟩ = false ∧ w'.frozen? ⟨b + 5, 0, none⟩ = false) ∧ Kept [b + 4, b + 5] w w' := by
 have hS : ∀ w', Kept [] w w' → w'.cell? ⟨b, 0, none⟩ = some (.int .i64 n) ∧ w'.cell? ⟨b + 1, 0, none⟩ = some (.string mem) ∧ w'.cell? ⟨b + 2, 0, none⟩ = some v ∧ w'.cell? ⟨b + 3, 0, none⟩ = some (.int .i32 gen) := fun w' k =>
  ⟨k.cell hc.1 (by simp), k.cell hc.2.1 (by simp), k.cell hc.2.2.1 (by simp), k.cell hc.2.2.2 (by simp)⟩
 have hS2 : ∀ w', Kept [] w w' → w'.cell? ⟨b + 4, 0, none⟩ = some (.slice none 0 0) ∧ w'.cell? ⟨b + 5, 0, none⟩ = some (.bool false) ∧ w'.frozen? ⟨b + 4, 0, none⟩ = false ∧ w'.frozen? ⟨b + 5, 0, none⟩ = false := fun w' k =>
  ⟨k.cell hd.1 (by simp), k.cell hd.2.1 (by simp), k.frz hd.2.2.1 (by simp; omega) (by simp), k.frz hd.2.2.2 (by simp; omega) (by simp)⟩
 have hT : ∀ w', Kept [] w w' → _ := fun w' k => topicMap_any v L w' (hv.kept k (by simp) (by simp)) (by omega) hnd (fun x hx => by have := hsz x hx; omega)
 have hmt := (dataMeth n hn).m
 have hnl := (dataMeth n hn).n
 have hcf := (dataMeth n hn).c
 have HS := Zhd hS; clear hS
 have HS2 := Zhd hS2; clear hS2
 have HT := Zhd hT; clear hT
 have HR := Zhd hroom; clear hroom
 have HN := Zhd hn; clear hn
 have HTP := Zhd htop; clear htop
 have HL := Zhd hlt; clear hlt
 clear hc hd hv
 go_enter Tryz.func50, Tryz.ntmps50
 go_wp2
 go_region_held3 (fun w' => w'.cell? ⟨b, 0, none⟩ = some (.int .i64 n) ∧ w'.cell? ⟨b + 1, 0, none⟩ = some (.string mem) ∧ w'.cell? ⟨b + 2, 0, none⟩ = some v ∧ w'.cell? ⟨b + 3, 0, none⟩ = some (.int .i32 gen))
  (first | exact HS.out _ (Kept.refl _ _).drew | exact HS.out _ ((Kept.refl _ _).alloc _).drew | exact HS.out _ hk2' | exact HS.out _ hk3' | trivial)
  (first | (go_at_call 46; refine (strategy_any n HN.out _).mono ?_; rintro e w1 ⟨rfl, rfl⟩)
         | (go_at_call 47; refine (HT.out _ (((Kept.refl [] w).drew).alloc _)).mono ?_; rintro e w2 ⟨D, rfl, hD, hT2, hk2, hfr, _⟩
            have hk2' : Kept [] w w2 := (((Kept.refl [] w).drew).alloc _).trans hk2 (by simp) (by simp)
            have hT3 : TopsAt w2 (w.heap.size + 1) D := by simpa using hT2
            have hdata := fun a => data_any n HN.out w2 mem _ D gen hT3 hg (HR.out D hD) (tops2_size HTP.out hD) (fun x hx g h1 => (hfr x hx g h1).2) a
            have HDT := Zhd hdata; clear hdata hT2 hT3 hfr
            have HDD := Zhd hD; clear hD)
         | (refine (HDT.out _).mono ?_; rintro e w3 ⟨u, cs, rfl, hda, hsl, hk3⟩
            have hcs : cs.length ≤ 1000000 := hda.length (HR.out D HDD.out)
            have hk3' : Kept [] w w3 := hk2'.trans hk3 (by simp) (by simp)))
 all_goals
  obtain ⟨c4, c5, f4, f5⟩ := HS2.out _ hk3'
  have H1 := Zhd hsl.2.1
  have HSR := Zhd ((SlAt.drew hsl).src Tryz.underlying28); clear hsl
  have hlen3 := hk3'.size
  have HH := Zhd hlen3; clear hlen3
  have HC := Zhd hcs; clear hcs
  go_wp2
  go_region_held3 (fun w' => w'.frozen? ⟨b + 4, 0, none⟩ = false ∧ w'.frozen? ⟨b + 5, 0, none⟩ = false)
   (first | exact ⟨f4, f5⟩ | exact ⟨e4, e5⟩ | go_keep)
   (first | (refine sl_app (v := .slice none 0 0) rfl rfl elU8 rfl rfl (own_nil _ _) HSR.out (by have := HC.out; omega) (by have := HC.out; omega) ?_
             intro v' w4 hown hk4' hd4
             have hk4 := hk4'.of_drew; clear hk4'
             obtain ⟨a', n', c', rfl⟩ := own_form hown
             have d4 := hk4.cell c4 (by simp [Value.ownBlock])
             have d5 := hk4.cell c5 (by simp [Value.ownBlock])
             have e4 := hk4.frz f4 (by have := HL.out; have := HH.out; simp; omega) (by simp [Value.ownBlock])
             have e5 := hk4.frz f5 (by have := HL.out; have := HH.out; simp; omega) (by simp [Value.ownBlock])))
 all_goals
  go_end0
  have hL := HL.out
  have hH := HH.out
  have hk5 : Kept [] w w4 := hk3'.trans hk4 (by simp) (by simp [Value.ownBlock])
  have ho : ∀ g, (Value.slice a' n' c').ownBlock = some g → w.heap.size ≤ g ∧ g ≠ b + 4 ∧ g ≠ b + 5 := by
   intro g hg
   rcases hd4 with ⟨h1, _⟩ | ⟨h1, _⟩
   · rw [h1] at hg; simp [Value.ownBlock] at hg
   · rw [h1] at hg; simp only [Option.some.injEq, World.size_drew] at hg; omega
  have hk6 : Kept [b + 4, b + 5] w4 ((w4.setCell ⟨b + 4, 0, none⟩ (.slice a' n' c')).setCell ⟨b + 5, 0, none⟩ (.bool true)) := ((Kept.refl _ _).setCell _ (by simp)).setCell _ (by simp)
  rw [List.nil_append, Nat.zero_add] at hown
  refine ⟨rfl, ⟨.slice a' n' c', _, cs, ?_, ?_, HDD.out, hda, (own_sl hown H1.out).kept hk6 ?_, fun g hg => (ho g hg).1, ?_, ?_⟩, hk5.trans hk6 (by simp) (by simp)⟩
  · simp [go_sem, d4]
  · simp [go_sem, d5]
  · intro g hg; have := ho g hg; simp; omega
  · simp [go_sem, e4]
  · simp [go_sem, e5]
end
section
open Go Go.Proofs Go.RowKit
theorem SlAt.form {w : World} {sz n : Nat} {v : Value} {cs : List Value} (h : SlAt w sz v n cs) : ∃ a n c, v = .slice a n c := by
 rcases h.2.2 with ⟨a, c, h, _⟩ | ⟨b, o, c, h, _⟩
 · exact ⟨_, _, _, h⟩
 · exact ⟨_, _, _, h⟩
theorem hasBody50 : HasBody 50 := by unfold HasBody; intro a w; kernel_rfl
theorem groupData_any (n : Nat) (hn : n < 4) (mem : ByteArray) (a : Option Addr) (c : Nat) (L : List Shr) (gen : Int) (w : World) (hv : ShrsAt w (.slice a L.length c) L) (hl : L.length ≤ 1000) (hnd : (L.map (·.top)).Nodup) (hsz : ∀ x ∈ L, x.parts.length ≤ 1000) (htop : ∀ x ∈ L, x.top.size ≤ 1000) (hg : isI32 gen)
 (hroom : ∀ D, tops2 D = L.map topOf → (encV1 D gen).length ≤ 1000000) :
 Calls Tryz.prog 21 #[.int .i64 n, .string mem, .slice a L.length c, .int .i32 gen] w fun e w' =>
  ∃ u D cs, e = .returned (.tuple #[u, .bool true]) ∧ tops2 D = L.map topOf ∧ DataOf n D gen cs ∧ SlAt w' 1 u cs.length cs ∧ (∀ g, u.ownBlock = some g → w.heap.size ≤ g) ∧ Kept [] w w' := by
 have hclo : ∀ w0 : World, w0 = ((((((w.alloc (.cells #[.int .i64 n] 3)).alloc (.cells #[.string mem] 9)).alloc (.cells #[.slice a L.length c] 23)).alloc (.cells #[.int .i32 gen] 21)).alloc (.cells #[.slice none 0 0] 28)).alloc (.cells #[.bool false] 4)) →
  Kept [] w w0 ∧ w0.heap.size = w.heap.size + 6 ∧ _ := fun w0 e => ⟨by subst e; exact ((((((Kept.refl [] w).alloc _).alloc _).alloc _).alloc _).alloc _).alloc _, by subst e; simp,
  safe_any 50 #[.pointer (some ⟨w.heap.size, 0, none⟩), .pointer (some ⟨w.heap.size + 1, 0, none⟩), .pointer (some ⟨w.heap.size + 2, 0, none⟩), .pointer (some ⟨w.heap.size + 3, 0, none⟩), .pointer (some ⟨w.heap.size + 4, 0, none⟩), .pointer (some ⟨w.heap.size + 5, 0, none⟩)] w0
   (fun w' => ∃ u D cs, w'.cell? ⟨w.heap.size + 4, 0, none⟩ = some u ∧ w'.cell? ⟨w.heap.size + 5, 0, none⟩ = some (.bool true) ∧ tops2 D = L.map topOf ∧ DataOf n D gen cs ∧ SlAt w' 1 u cs.length cs ∧ (∀ g, u.ownBlock = some g → w.heap.size + 7 ≤ g) ∧ w'.frozen? ⟨w.heap.size + 4, 0, none⟩ = false ∧ w'.frozen? ⟨w.heap.size + 5, 0, none⟩ = false) [w.heap.size + 4, w.heap.size + 5] hasBody50 (by subst e; simp) (by
     have k0 : Kept [] w (w0.alloc (.cells #[.bool false] 4)) := by subst e; exact (((((((Kept.refl [] w).alloc _).alloc _).alloc _).alloc _).alloc _).alloc _).alloc _
     refine (data_closure n hn w.heap.size mem _ L gen _ (hv.kept k0 (by simp) (by simp)) hl hnd hsz htop hg hroom ?_ ?_ ?_).mono ?_
     · subst e; simp [go_sem]
     · subst e; simp [go_sem]
     · subst e; simp
     · rintro e' w' ⟨rfl, ⟨u, D, cs, h1, h2, h3, h4, h5, h6, h7⟩, hk⟩
       exact ⟨rfl, ⟨u, D, cs, h1, h2, h3, h4, h5, fun g hg => by have := h6 g hg; subst e; simpa using this, h7⟩, hk⟩)⟩
 obtain ⟨hk0, hs0, hsafe⟩ := hclo _ rfl
 have HSF := Zhd hsafe; clear hsafe hclo
 clear hv
 go_enter Tryz.func21, Tryz.ntmps21
 go_wp2_with
  (go_at_call 43
   refine (HSF.out).mono ?_
   rintro e w2 ⟨rfl, w1, ⟨u, D, cs, c4, c5, hD, hda, hsl, hu, f4, f5⟩, hk1, hk2⟩
   have hs1 := hk1.size
   rw [hs0] at hk2 hs1
   have d4 : w2.cell? ⟨w.heap.size + 1 + 1 + 1 + 1, 0, none⟩ = some u := hk2.cell c4 (by simp)
   have d5 : w2.cell? ⟨w.heap.size + 1 + 1 + 1 + 1 + 1, 0, none⟩ = some (.bool true) := hk2.cell c5 (by simp)
   have e4 : w2.frozen? ⟨w.heap.size + 1 + 1 + 1 + 1, 0, none⟩ = false := hk2.frz f4 (by simp; omega) (by simp)
   have e5 : w2.frozen? ⟨w.heap.size + 1 + 1 + 1 + 1 + 1, 0, none⟩ = false := hk2.frz f5 (by simp; omega) (by simp)
   obtain ⟨a', n', c', rfl⟩ := hsl.form
   clear c4 c5 f4 f5)
 have k12 : Kept [] w w2 := (hk0.trans hk1 (U := []) (by simp) (by simp <;> omega)).trans hk2 (by simp) (by simp <;> omega)
 have k3 : Kept [w.heap.size + 4, w.heap.size + 5] w2 ((w2.setCell ⟨w.heap.size + 1 + 1 + 1 + 1, 0, none⟩ (.slice a' n' c')).setCell ⟨w.heap.size + 1 + 1 + 1 + 1 + 1, 0, none⟩ (.bool true)) :=
  ((Kept.refl _ _).setCell _ (by simp)).setCell _ (by simp)
 have hend : SlAt ((w2.setCell ⟨w.heap.size + 1 + 1 + 1 + 1, 0, none⟩ (.slice a' n' c')).setCell ⟨w.heap.size + 1 + 1 + 1 + 1 + 1, 0, none⟩ (.bool true)) 1 (.slice a' n' c') cs.length cs :=
  (hsl.kept hk2 (fun g hg => by have := hu g hg; simp; omega)).kept k3 (fun g hg => by have := hu g hg; simp; omega)
 have hend2 := k12.trans k3 (U := []) (by simp) (by simp <;> omega)
 simp [bodyPost, results, Tryz.results21, go_sem, d4, d5]
 exact ⟨D, hD, cs, hda, hend, fun g hg => by have := hu g hg; omega, hend2⟩
end
section
open Go Go.Proofs Go.RowKit
def AnyBool (e : Ending) : Prop := ∃ b, e = .returned (.bool b)
theorem fits6 (m t : ByteArray) (a : Option Addr) (n c : Nat) (w : World) :
 Calls Tryz.prog 37 #[.agg #[.string m, .string t, .slice a n c]] w fun e w' => AnyBool e ∧ Kept [] w w' := by
 have hk := (Kept.refl [] w).alloc (.cells #[.string m, .string t, .slice a n c] 33)
 by_cases h1 : (2147483647 : Int) < m.size
 · go_enter Tryz.func37, Tryz.ntmps37
   go_wp2
   go_ret
   exact ⟨⟨_, rfl⟩, hk⟩
 by_cases h2 : (2147483647 : Int) < t.size
 · go_enter Tryz.func37, Tryz.ntmps37
   go_wp2
   go_ret
   exact ⟨⟨_, rfl⟩, hk⟩
 by_cases h3 : (2147483647 : Int) < n
 · go_enter Tryz.func37, Tryz.ntmps37
   go_wp2
   go_ret
   exact ⟨⟨_, rfl⟩, hk⟩
 · go_enter Tryz.func37, Tryz.ntmps37
   go_wp2
   go_ret
   exact ⟨⟨_, rfl⟩, hk⟩
theorem fits5 (v : Value) (L : List Shr) (w : World) (hv : ShrsAt w v L) (hn : L.length ≤ maxLen) :
 Calls Tryz.prog 13 #[v] w fun e w' => AnyBool e ∧ Kept [] w w' := by
 obtain ⟨⟨a, c, rfl⟩, hcells, hparts⟩ := hv
 have HC := Zhd hcells; clear hcells
 have HP := Zhd hparts; clear hparts
 have hmx : maxLen = 9223372036854775807 := rfl
 generalize hLn : L.length = n at *
 have HLN := Zhd hLn; clear hLn
 by_cases h1 : (2147483647 : Int) < n
 · go_enter Tryz.func13, Tryz.ntmps13
   go_wp2
   go_ret
   exact ⟨⟨_, rfl⟩, Kept.refl _ _⟩
 · go_enter Tryz.func13, Tryz.ntmps13
   go_wp2
   go_loopw [10] (fun i wr => ∃ k : Nat, k ≤ n ∧ i = .int .i64 k ∧ Kept [] w wr) (fun i _ => n - (intOf i).toNat)
   case atStart => exact ⟨0, Nat.zero_le _, rfl, Kept.refl _ _⟩
   case round =>
    obtain ⟨k, hk, rfl, hkw⟩ := hrel
    by_cases hlt : k < n
    · obtain ⟨x, hkx⟩ : ∃ x, L[k]? = some x := ⟨_, List.getElem?_eq_getElem (by have := HLN.out; omega)⟩
      obtain ⟨g1, g2, g3⟩ := shr_get hkx
      have hxL : x ∈ L := List.mem_of_getElem? hkx
      obtain ⟨_, hcase⟩ := HC.out.cases
      rcases hcase with ⟨_, h0, _⟩ | ⟨g, off, hva, hcell⟩
      · omega
      cases hva
      have c1 := hkw.cell (p := ⟨g, off + k * 3, none⟩) (hcell _ _ g1) (by simp)
      have c2 := hkw.cell (p := ⟨g, off + (k * 3 + 1), none⟩) (hcell _ _ g2) (by simp)
      have c3 := hkw.cell (p := ⟨g, off + (k * 3 + 2), none⟩) (hcell _ _ g3) (by simp)
      rw [← Nat.add_assoc] at c2 c3
      obtain ⟨⟨pa, pc, hval⟩, _⟩ := HP.out x hxL
      rw [hval] at c3
      clear hcell g1 g2 g3 hkx
      go_wp2_with
       (go_at_call 37
        refine (fits6 _ _ _ _ _ _).mono ?_
        rintro e w1 ⟨⟨b, rfl⟩, hk1⟩
        have hk2 : Kept [] w w1 := (hkw.alloc _).trans hk1 (by simp) (by simp)
        cases b)
      · go_ret
        exact ⟨⟨_, rfl⟩, hk2⟩
      · go_roundw
        case rel => exact ⟨k + 1, by omega, by go_num, hk2⟩
        case measure => simp [intOf]; omega
    · go_wp2
      go_ret
      exact ⟨⟨_, rfl⟩, hkw⟩
end
section
open Go Go.Proofs Go.RowKit
theorem copied_nil (w : World) : Calls Tryz.prog 58 #[.slice none 0 0] w fun e w' => (∃ a n c, e = .returned (.slice a n c)) ∧ Kept [] w w' := by
 have hsrc : Src Tryz.prog 1 28 (.slice none 0 0) 0 [] (w.alloc (.cells #[] 5)) := (SlAt.nil _ _).src Tryz.underlying28
 go_enter Tryz.func58, Tryz.ntmps58
 go_wp2_with (refine wl_app (v := .slice (some ⟨w.heap.size, 0, none⟩) 0 0) rfl rfl elU8 rfl rfl (own_new 5 1) hsrc (by omega) (by omega) ?_; intro v' w1 hown hk hd)
 go_ret
 obtain ⟨a', n', c', rfl⟩ := own_form hown
 exact ⟨⟨_, _, _, rfl⟩, ((Kept.refl [] w).alloc _).trans hk (by simp) (by simp [Value.ownBlock])⟩
theorem partitioner4 (w : World) : Calls Tryz.prog 71 #[.int .i64 4] w fun e w' => e = .returned (.iface 231 (.pointer (some ⟨w.heap.size, 0, none⟩))) ∧ w' = w.alloc (.cells #[] 232) := by
 have h89 : ∀ w : World, Calls Tryz.prog 89 #[.string ⟨#[116]⟩] w fun e w' => e = .returned (.iface 231 (.pointer (some ⟨w.heap.size, 0, none⟩))) ∧ w' = w.alloc (.cells #[] 232) := by
  intro w
  go_enter Tryz.func89, Tryz.ntmps89
  go_wp2
  go_ret
  exact ⟨rfl, rfl⟩
 go_enter Tryz.func71, Tryz.ntmps71
 go_wp2_with (go_at_call 89; refine (h89 _).mono ?_; rintro e w1 ⟨rfl, rfl⟩)
 go_ret
 exact ⟨rfl, rfl⟩
theorem partMeth : IsMeth 231 "Partition" 358 := ⟨fun a w => by kernel_rfl, fun a w => by kernel_rfl, fun a w => by kernel_rfl⟩
theorem manual_partition (a : Addr) (m : Nat) (x n : Int) (w : World) (hm : w.cell? ⟨m, 3, none⟩ = some (.int .i32 x)) :
 Calls Tryz.prog 358 #[.pointer (some a), .pointer (some ⟨m, 0, none⟩), .int .i32 n] w fun e w' => e = .returned (.tuple #[.int .i32 x, .nilIface]) ∧ w = w' := by
 go_enter Tryz.func358, Tryz.ntmps358
 go_wp2
 go_ret2
 exact ⟨rfl, rfl⟩
theorem part_closure (b : Nat) (w : World)
 (hc : w.cell? ⟨b, 0, none⟩ = some (.int .i64 4) ∧ w.cell? ⟨b + 1, 0, none⟩ = some (.slice none 0 0) ∧ w.cell? ⟨b + 2, 0, none⟩ = some (.int .i32 3) ∧ w.cell? ⟨b + 3, 0, none⟩ = some (.int .i32 5))
 (hd : w.cell? ⟨b + 4, 0, none⟩ = some (.int .i32 0) ∧ w.cell? ⟨b + 5, 0, none⟩ = some (.bool false) ∧ w.frozen? ⟨b + 4, 0, none⟩ = false ∧ w.frozen? ⟨b + 5, 0, none⟩ = false) (hlt : b + 5 < w.heap.size) :
 Calls Tryz.prog 70 #[.pointer (some ⟨b + 2, 0, none⟩), .pointer (some ⟨b + 1, 0, none⟩), .pointer (some ⟨b, 0, none⟩), .pointer (some ⟨b + 3, 0, none⟩), .pointer (some ⟨b + 4, 0, none⟩), .pointer (some ⟨b + 5, 0, none⟩)] w fun e w' =>
  e = .returned (.tuple #[]) ∧ (w'.cell? ⟨b + 4, 0, none⟩ = some (.int .i32 3) ∧ w'.cell? ⟨b + 5, 0, none⟩ = some (.bool true) ∧ w'.frozen? ⟨b + 4, 0, none⟩ = false ∧ w'.frozen? ⟨b + 5, 0, none⟩ = false) ∧ Kept [b + 4, b + 5] w w' := by
 have hS : ∀ w', Kept [] w w' → w'.cell? ⟨b, 0, none⟩ = some (.int .i64 4) ∧ w'.cell? ⟨b + 1, 0, none⟩ = some (.slice none 0 0) ∧ w'.cell? ⟨b + 2, 0, none⟩ = some (.int .i32 3) ∧ w'.cell? ⟨b + 3, 0, none⟩ = some (.int .i32 5) := fun w' k =>
  ⟨k.cell hc.1 (by simp), k.cell hc.2.1 (by simp), k.cell hc.2.2.1 (by simp), k.cell hc.2.2.2 (by simp)⟩
 have hS2 : ∀ w', Kept [] w w' → w'.cell? ⟨b + 4, 0, none⟩ = some (.int .i32 0) ∧ w'.cell? ⟨b + 5, 0, none⟩ = some (.bool false) ∧ w'.frozen? ⟨b + 4, 0, none⟩ = false ∧ w'.frozen? ⟨b + 5, 0, none⟩ = false := fun w' k =>
  ⟨k.cell hd.1 (by simp), k.cell hd.2.1 (by simp), k.frz hd.2.2.1 (by simp; omega) (by simp), k.frz hd.2.2.2 (by simp; omega) (by simp)⟩
 have hmt := partMeth.m
 have hnl := partMeth.n
 have hcf := partMeth.c
 have HS := Zhd hS; clear hS
 have HS2 := Zhd hS2; clear hS2
 clear hc hd
 go_enter Tryz.func70, Tryz.ntmps70
 go_wp2
 go_region_held3 (fun w' => w'.cell? ⟨b, 0, none⟩ = some (.int .i64 4) ∧ w'.cell? ⟨b + 1, 0, none⟩ = some (.slice none 0 0) ∧ w'.cell? ⟨b + 2, 0, none⟩ = some (.int .i32 3) ∧ w'.cell? ⟨b + 3, 0, none⟩ = some (.int .i32 5))
  (first | exact HS.out _ (Kept.refl _ _).drew | exact HS.out _ hk1' | exact HS.out _ (hk1'.alloc _))
  (first | (go_at_call 58; refine (copied_nil _).mono ?_; rintro e w1 ⟨⟨a, n, c, rfl⟩, hk1⟩; have hk1' : Kept [] w w1 := hk1.of_drew))
 go_wp2
 have hka := hk1'.alloc (.cells #[.string ⟨#[]⟩, .iface 138 (.slice a n c), .nilIface, .int .i32 3] 142)
 have hm3 : (w1.alloc (.cells #[.string ⟨#[]⟩, .iface 138 (.slice a n c), .nilIface, .int .i32 3] 142)).cell? ⟨w1.heap.size, 3, none⟩ = some (.int .i32 3) := by simp [go_sem]
 go_region_held3 (fun w' => w'.cell? ⟨b, 0, none⟩ = some (.int .i64 4) ∧ w'.cell? ⟨b + 3, 0, none⟩ = some (.int .i32 5))
  (first | exact ⟨(HS.out _ hka.drew).1, (HS.out _ hka.drew).2.2.2⟩ | exact ⟨(HS.out _ (hka.drew.alloc _)).1, (HS.out _ (hka.drew.alloc _)).2.2.2⟩ | go_keep)
  (first | (go_at_call 71; refine (partitioner4 _).mono ?_; rintro e w2 ⟨rfl, rfl⟩)
         | (go_at_call 358; refine (manual_partition _ _ 3 _ _ (ca (cd hm3))).mono ?_; rintro e w2 ⟨rfl, rfl⟩))
 obtain ⟨c4, c5, f4, f5⟩ := HS2.out _ (hka.alloc (.cells #[] 232)).drew
 have hk6 : Kept [b + 4, b + 5] w ((((w1.alloc (.cells #[.string ⟨#[]⟩, .iface 138 (.slice a n c), .nilIface, .int .i32 3] 142)).alloc (.cells #[] 232)).drew.setCell ⟨b + 4, 0, none⟩ (.int .i32 3)).setCell ⟨b + 5, 0, none⟩ (.bool true)) :=
  (((hka.alloc (.cells #[] 232)).drew.trans (Kept.refl [] _) (U := [b + 4, b + 5]) (by simp) (by simp)).setCell _ (by simp)).setCell _ (by simp)
 have HK := Zhd hk6; clear hk6
 generalize hw2 : ((w1.alloc (.cells #[.string ⟨#[]⟩, .iface 138 (.slice a n c), .nilIface, .int .i32 3] 142)).alloc (.cells #[] 232)).drew = w2 at *
 go_wp2
 go_region_held3 (fun w' => w'.frozen? ⟨b + 4, 0, none⟩ = false ∧ w'.frozen? ⟨b + 5, 0, none⟩ = false)
  (first | exact ⟨f4, f5⟩ | go_keep)
  (fail)
 go_end0
 refine ⟨rfl, ⟨?_, ?_, ?_, ?_⟩, HK.out.drew⟩
 · simp [go_sem, c4]
 · simp [go_sem, c5]
 · simp [go_sem, f4]
 · simp [go_sem, f5]
theorem hasBody70 : HasBody 70 := by unfold HasBody; intro a w; kernel_rfl
theorem partition_alive (w : World) : Calls Tryz.prog 38 #[.int .i64 4, .slice none 0 0, .int .i32 3, .int .i32 5] w fun e w' => e = .returned (.tuple #[.int .i32 3, .bool true]) ∧ Kept [] w w' := by
 have hclo : ∀ w0 : World, w0 = ((((((w.alloc (.cells #[.int .i64 4] 3)).alloc (.cells #[.slice none 0 0] 28)).alloc (.cells #[.int .i32 3] 21)).alloc (.cells #[.int .i32 5] 21)).alloc (.cells #[.int .i32 0] 21)).alloc (.cells #[.bool false] 4)) →
  Kept [] w w0 ∧ w0.heap.size = w.heap.size + 6 ∧ _ := fun w0 e => ⟨by subst e; exact ((((((Kept.refl [] w).alloc _).alloc _).alloc _).alloc _).alloc _).alloc _, by subst e; simp,
  safe_any 70 #[.pointer (some ⟨w.heap.size + 2, 0, none⟩), .pointer (some ⟨w.heap.size + 1, 0, none⟩), .pointer (some ⟨w.heap.size, 0, none⟩), .pointer (some ⟨w.heap.size + 3, 0, none⟩), .pointer (some ⟨w.heap.size + 4, 0, none⟩), .pointer (some ⟨w.heap.size + 5, 0, none⟩)] w0
   (fun w' => w'.cell? ⟨w.heap.size + 4, 0, none⟩ = some (.int .i32 3) ∧ w'.cell? ⟨w.heap.size + 5, 0, none⟩ = some (.bool true) ∧ w'.frozen? ⟨w.heap.size + 4, 0, none⟩ = false ∧ w'.frozen? ⟨w.heap.size + 5, 0, none⟩ = false) [w.heap.size + 4, w.heap.size + 5] hasBody70 (by subst e; simp) (by
     refine part_closure w.heap.size _ ?_ ?_ ?_
     · subst e; simp [go_sem]
     · subst e; simp [go_sem]
     · subst e; simp)⟩
 obtain ⟨hk0, hs0, hsafe⟩ := hclo _ rfl
 have HSF := Zhd hsafe; clear hsafe hclo
 go_enter Tryz.func38, Tryz.ntmps38
 go_wp2_with
  (go_at_call 43
   refine (HSF.out).mono ?_
   rintro e w2 ⟨rfl, w1, ⟨c4, c5, f4, f5⟩, hk1, hk2⟩
   have hs1 := hk1.size
   rw [hs0] at hk2 hs1
   have d4 : w2.cell? ⟨w.heap.size + 1 + 1 + 1 + 1, 0, none⟩ = some (.int .i32 3) := hk2.cell c4 (by simp)
   have d5 : w2.cell? ⟨w.heap.size + 1 + 1 + 1 + 1 + 1, 0, none⟩ = some (.bool true) := hk2.cell c5 (by simp)
   have e4 : w2.frozen? ⟨w.heap.size + 1 + 1 + 1 + 1, 0, none⟩ = false := hk2.frz f4 (by simp; omega) (by simp)
   have e5 : w2.frozen? ⟨w.heap.size + 1 + 1 + 1 + 1 + 1, 0, none⟩ = false := hk2.frz f5 (by simp; omega) (by simp)
   clear c4 c5 f4 f5)
 have k12 : Kept [] w w2 := (hk0.trans hk1 (U := []) (by simp) (by simp <;> omega)).trans hk2 (by simp) (by simp <;> omega)
 have k3 : Kept [w.heap.size + 4, w.heap.size + 5] w2 ((w2.setCell ⟨w.heap.size + 1 + 1 + 1 + 1, 0, none⟩ (.int .i32 3)).setCell ⟨w.heap.size + 1 + 1 + 1 + 1 + 1, 0, none⟩ (.bool true)) :=
  ((Kept.refl _ _).setCell _ (by simp)).setCell _ (by simp)
 have hend2 := k12.trans k3 (U := []) (by simp) (by simp <;> omega)
 simp [bodyPost, results, Tryz.results38, go_sem, d4, d5]
 exact hend2
end
end Go.Proofs.YticcnlpfmekagaaGreat
