import Derived.Test.YticcnlpfmekagaaGreatSafe
import Derived.Stop.Asserts
namespace Go.Proofs.YticcnlpfmekagaaGreat
open Go Go.Proofs Go.RowKit
set_option linter.unusedVariables false
set_option linter.unusedSimpArgs false
/-- the strategies' types, and what a new one holds -/
def stratT : Nat → TypeId
  | 0 => 160
  | 1 => 167
  | 2 => 170
  | _ => 177
def stratO : Nat → Obj
  | 0 => .cells #[.func (.func 90) #[] #[], .string ⟨#[114, 97, 110, 103, 101]⟩] 166
  | 1 => .cells #[] 169
  | 2 => .cells #[.map none, .map none, .bool false] 176
  | _ => .cells #[.map none, .map none, .bool true, .int .i32 (-1)] 181
def dataF : Nat → FuncId
  | 0 => 180
  | 1 => 202
  | 2 => 226
  | _ => 280

set_option maxRecDepth 100000 in
theorem strat0 (w : World) : Calls Tryz.prog 73 #[] w fun e w' => e = .returned (.iface 160 (.pointer (some ⟨w.heap.size, 0, none⟩))) ∧ w' = w.alloc (stratO 0) := by
  go_enter Tryz.func73, Tryz.ntmps73
  go_wp2
  go_ret
  exact ⟨rfl, rfl⟩
set_option maxRecDepth 100000 in
theorem strat2 (w : World) : Calls Tryz.prog 75 #[] w fun e w' => e = .returned (.iface 170 (.pointer (some ⟨w.heap.size, 0, none⟩))) ∧ w' = w.alloc (stratO 2) := by
  go_enter Tryz.func75, Tryz.ntmps75
  go_wp2
  go_ret
  exact ⟨rfl, rfl⟩
set_option maxRecDepth 100000 in
theorem strat1 (w : World) : Calls Tryz.prog 74 #[] w fun e w' => e = .returned (.iface 167 (.pointer (some ⟨w.heap.size, 0, none⟩))) ∧ w' = w.alloc (stratO 1) := by
  go_enter Tryz.func74, Tryz.ntmps74
  go_wp2
  go_ret
  exact ⟨rfl, rfl⟩
set_option maxRecDepth 100000 in
theorem cellStore (b : Nat) (o : Nat) (w : World) (v : Value) (hc : w.cell? ⟨b, o, none⟩ = some v) (hz : w.frozen? ⟨b, o, none⟩ = false) (x : Int) : Calls Tryz.prog 94 #[.pointer (some ⟨b, o, none⟩), .int .i32 x] w fun e w' => e = .returned (.tuple #[]) ∧ w' = w.setCell ⟨b, o, none⟩ (.int .i32 x) := by
  go_enter Tryz.func94, Tryz.ntmps94
  go_wp2
  go_end0
  exact ⟨rfl, rfl⟩
set_option maxRecDepth 100000 in
theorem strat3 (w : World) : Calls Tryz.prog 76 #[] w fun e w' => e = .returned (.iface 177 (.pointer (some ⟨w.heap.size, 0, none⟩))) ∧ w' = w.alloc (stratO 3) := by
  have hcs := fun (w0 : World) v h1 h2 => cellStore w.heap.size 3 w0 v h1 h2 (-1)
  go_enter Tryz.func76, Tryz.ntmps76
  go_wp2_with (go_at_call 94; refine (hcs _ (.int .i32 0) (by simp) (by simp)).mono ?_; rintro e w1 ⟨rfl, rfl⟩)
  go_ret
  exact ⟨rfl, rfl⟩

set_option maxRecDepth 100000 in
theorem strategy_any (n : Nat) (hn : n < 4) (w : World) : Calls Tryz.prog 46 #[.int .i64 n] w fun e w' => e = .returned (.iface (stratT n) (.pointer (some ⟨w.heap.size, 0, none⟩))) ∧ w' = w.alloc (stratO n) := by
  rcases (by omega : n = 0 ∨ n = 1 ∨ n = 2 ∨ n = 3) with rfl | rfl | rfl | rfl
  all_goals
    go_enter Tryz.func46, Tryz.ntmps46
    go_wp2_with (first | (go_at_call 73; refine (strat0 _).mono ?_; rintro e w1 ⟨rfl, rfl⟩) | (go_at_call 74; refine (strat1 _).mono ?_; rintro e w1 ⟨rfl, rfl⟩) | (go_at_call 75; refine (strat2 _).mono ?_; rintro e w1 ⟨rfl, rfl⟩) | (go_at_call 76; refine (strat3 _).mono ?_; rintro e w1 ⟨rfl, rfl⟩))
    go_ret
    exact ⟨rfl, rfl⟩

theorem dataMeth (n : Nat) (hn : n < 4) : IsMeth (stratT n) "AssignmentData" (dataF n) := by
  rcases (by omega : n = 0 ∨ n = 1 ∨ n = 2 ∨ n = 3) with rfl | rfl | rfl | rfl
  all_goals exact ⟨fun a w => by kernel_rfl, fun a w => by kernel_rfl, fun a w => by kernel_rfl⟩

theorem encMeth407 : IsMeth 374 "pub-kestrel/pub/sarama.encode" 407 := ⟨fun a w => by kernel_rfl, fun a w => by kernel_rfl, fun a w => by kernel_rfl⟩
theorem noFlex374 : NoFlex 374 := fun a w => run_typeAssert_lacksB Tryz.underlying242 (by kernel_rfl) (by kernel_rfl) _ _ _

theorem be32_one (n : Int) : ∀ u ∈ be32 n, u.oneCell' = true := by intro u hu; simp [be32] at hu; rcases hu with h | h | h | h <;> subst h <;> rfl
theorem be16_one (n : Int) : ∀ u ∈ be16 n, u.oneCell' = true := by intro u hu; simp [be16] at hu; rcases hu with h | h <;> subst h <;> rfl
theorem byteCells_one (s : ByteArray) : ∀ u ∈ byteCells s, u.oneCell' = true := by
  intro u hu; unfold byteCells at hu; obtain ⟨b, _, rfl⟩ := List.mem_map.1 hu; rfl
theorem be32s_one (xs : List Int) : ∀ u ∈ be32s xs, u.oneCell' = true := by
  intro u hu; unfold be32s at hu; obtain ⟨b, _, h⟩ := List.mem_flatMap.1 hu; exact be32_one _ u h
theorem encV1_one (L : Tops) (g : Int) : ∀ u ∈ encV1 L g, u.oneCell' = true := by
  intro u hu
  unfold encV1 encTs at hu
  rcases List.mem_append.1 hu with hu | hu
  · rcases List.mem_append.1 hu with hu | hu
    · exact be32_one _ u hu
    · obtain ⟨x, _, hx⟩ := List.mem_flatMap.1 hu
      unfold encT encStr encInts at hx
      rcases List.mem_append.1 hx with hx | hx
      · rcases List.mem_append.1 hx with hx | hx
        · exact be16_one _ u hx
        · exact byteCells_one _ u hx
      · rcases List.mem_append.1 hx with hx | hx
        · exact be32_one _ u hx
        · exact be32s_one _ u hx
  · exact be32_one _ u hu
theorem Buf.sl {w : World} {rb : Nat} {bs : List Value} {n : Nat} (h : Buf w rb bs) (hn : bs.length = n) (h1 : ∀ u ∈ bs, u.oneCell' = true) : SlAt w 1 (.slice (some ⟨rb, 0, none⟩) n n) n bs := by
  refine ⟨by omega, h1, .inr ⟨rb, 0, n, rfl, fun j u hj => ?_⟩⟩
  unfold Buf at h
  rw [Nat.zero_add]
  simp [World.cell?, h, hj]

def DataOf (n : Nat) (L : Tops) (gen : Int) (cs : List Value) : Prop := (n ≠ 2 ∧ cs = []) ∨ (n = 2 ∧ ∃ L', L'.Perm L ∧ cs = encV1 L' gen)

set_option maxRecDepth 100000 in
set_option maxHeartbeats 1000000 in
theorem data_any (n : Nat) (hn : n < 4) (w : World) (mem : ByteArray) (r : Nat) (L : Tops) (gen : Int) (hL : TopsAt w r L) (hg : isI32 gen) (hroom : (encV1 L gen).length ≤ 1000000) (hsz : ∀ x ∈ L, x.1.size ≤ 32767)
    (hlt : ∀ x ∈ L, ∀ g, x.2.1.ownBlock = some g → g < w.heap.size) (a : Addr) :
    Calls Tryz.prog (dataF n) #[.pointer (some a), .string mem, .map (some r), .int .i32 gen] w fun e w' => ∃ v cs, e = .returned (.tuple #[v, .nilIface]) ∧ DataOf n L gen cs ∧ SlAt w' 1 v cs.length cs ∧ Kept [] w w' := by
  rcases (by omega : n = 0 ∨ n = 1 ∨ n = 2 ∨ n = 3) with rfl | rfl | rfl | rfl
  · go_enter Tryz.func180, Tryz.ntmps180
    go_wp2
    go_ret2
    exact ⟨_, [], rfl, .inl ⟨by omega, rfl⟩, SlAt.nil _ _, Kept.refl _ _⟩
  · go_enter Tryz.func202, Tryz.ntmps202
    go_wp2
    go_ret2
    exact ⟨_, [], rfl, .inl ⟨by omega, rfl⟩, SlAt.nil _ _, Kept.refl _ _⟩
  · have hlen : ∀ bs, (∃ L', L'.Perm L ∧ bs = encV1 L' gen) → bs.length = (encV1 L gen).length := by
      rintro bs ⟨L', hp, rfl⟩
      simp only [encV1, List.length_append, encTs_perm_length hp, hp.length_eq]
    have hm0 : ((w.alloc (.cells #[.map (some r), .int .i32 gen, .slice none 0 0] 377))).heap[w.heap.size]? = some (.cells #[.map (some r), .int .i32 gen, .slice none 0 0] 377 (0, 0)) := heap_alloc_new w _
    have hrl := hL.map.lt
    have he := encode_any 374 407 ⟨w.heap.size, 0, none⟩ encMeth407 noFlex374 (w.alloc (.cells #[.map (some r), .int .i32 gen, .slice none 0 0] 377)) (fun bs => ∃ L', L'.Perm L ∧ bs = encV1 L' gen) (encV1 L gen).length hlen (by omega)
      (fun s w' hk ho hs hmax => by
        have k0 : Kept [] w w' := ((Kept.refl [] w).alloc _).trans hk (by simp) (by simp)
        have := v1_encode s w.heap.size r (.slice none 0 0) gen L w' [] hs (hk.heap hm0 (by simp)) (hL.kept k0 (by simp) (by simp)) hg (by simpa using hmax) hsz
          (fun h => by have := ho _ h; simp only [World.size_alloc] at this; omega) (fun h => by have := ho _ h; simp only [World.size_alloc] at this; omega) (fun x hx g h1 h2 => by have := ho _ h2; have := hlt x hx g h1; simp only [World.size_alloc] at *; omega)
        refine this.mono ?_
        rintro e w2 ⟨rfl, L', hp, hst, hk2⟩
        exact ⟨rfl, _, ⟨L', hp, rfl⟩, by simpa using hst, hk2⟩)
    have HE := Lib.hid he; clear he
    have HL := Lib.hid hlen; clear hlen
    clear hL
    go_enter Tryz.func226, Tryz.ntmps226
    go_wp2_with (go_at_call 80; refine (HE.out).mono ?_; rintro e w1 ⟨rb, bs, rfl, hbs, hbuf, hk1, hrb⟩)
    go_ret2
    have hl := HL.out _ hbs
    obtain ⟨L', hp, rfl⟩ := hbs
    refine ⟨_, _, rfl, .inr ⟨rfl, L', hp, rfl⟩, ?_, ((Kept.refl [] w).alloc _).trans hk1 (by simp) (by simp)⟩
    rw [← hl]
    exact hbuf.sl rfl (encV1_one _ _)
  · go_enter Tryz.func280, Tryz.ntmps280
    go_wp2
    go_ret2
    exact ⟨_, [], rfl, .inl ⟨by omega, rfl⟩, SlAt.nil _ _, Kept.refl _ _⟩
end Go.Proofs.YticcnlpfmekagaaGreat
