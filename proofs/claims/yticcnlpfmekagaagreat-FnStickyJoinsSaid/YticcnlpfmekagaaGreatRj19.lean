/- Part 19 of the proof of the row: Dec, Dec2, Sink2. -/
import Derived.Test.YticcnlpfmekagaaGreatRj00
import Derived.Test.YticcnlpfmekagaaGreatRj05
import Derived.Lib.EndianBits
import Derived.RegionTactic
import Derived.BigQuiet
import Derived.Laws.BytesArg
import Derived.IntWalk
import Derived.Test.YticcnlpfmekagaaGreatRj10
set_option linter.unusedVariables false
set_option linter.unusedSimpArgs false
set_option maxRecDepth 100000
set_option maxHeartbeats 8000000
namespace Go.Proofs.YticcnlpfmekagaaGreat
section
open Go Go.Proofs Go.RowKit
def isU8 (x : Int) : Prop := 0 ≤ x ∧ x < 256
theorem uint16_any (g o n c : Nat) (b0 b1 : Int) (w : World) (hn : 2 ≤ n) (c0 : w.cell? ⟨g, o, none⟩ = some (.int .u8 b0)) (c1 : w.cell? ⟨g, o + 1, none⟩ = some (.int .u8 b1)) (h0 : isU8 b0) (h1 : isU8 b1) :
 Calls Tryz.prog 348 #[.agg #[], .slice (some ⟨g, o, none⟩) n c] w fun e w' => e = .returned (.int .u16 (b1 + b0 * 256)) ∧ Kept [] w w' := by
 unfold isU8 at h0 h1
 obtain ⟨a0, a1⟩ := h0
 obtain ⟨a2, a3⟩ := h1
 have d0 : (w.alloc (.cells #[] 484)).cell? ⟨g, o, none⟩ = some (.int .u8 b0) := ca c0
 have d1 : (w.alloc (.cells #[] 484)).cell? ⟨g, o + 1, none⟩ = some (.int .u8 b1) := ca c1
 clear c0 c1
 go_enter Tryz.func348, Tryz.ntmps348
 go_wp2
 go_quiet (fail)
 go_wp2
 go_ret
 refine ⟨?_, ((Kept.refl _ _).alloc _).drewN _⟩
 simp (disch := omega) only [u16_or8]
 rfl
theorem uint32_any (g o n c : Nat) (b0 b1 b2 b3 : Int) (w : World) (hn : 4 ≤ n) (c0 : w.cell? ⟨g, o, none⟩ = some (.int .u8 b0)) (c1 : w.cell? ⟨g, o + 1, none⟩ = some (.int .u8 b1))
 (c2 : w.cell? ⟨g, o + 2, none⟩ = some (.int .u8 b2)) (c3 : w.cell? ⟨g, o + 3, none⟩ = some (.int .u8 b3)) (h0 : isU8 b0) (h1 : isU8 b1) (h2 : isU8 b2) (h3 : isU8 b3) :
 Calls Tryz.prog 346 #[.agg #[], .slice (some ⟨g, o, none⟩) n c] w fun e w' => e = .returned (.int .u32 (b3 + b2 * 256 + b1 * 65536 + b0 * 16777216)) ∧ Kept [] w w' := by
 unfold isU8 at h0 h1 h2 h3
 obtain ⟨a0, a1⟩ := h0
 obtain ⟨a2, a3⟩ := h1
 obtain ⟨a4, a5⟩ := h2
 obtain ⟨a6, a7⟩ := h3
 have d0 : (w.alloc (.cells #[] 484)).cell? ⟨g, o, none⟩ = some (.int .u8 b0) := ca c0
 have d1 : (w.alloc (.cells #[] 484)).cell? ⟨g, o + 1, none⟩ = some (.int .u8 b1) := ca c1
 have d2 : (w.alloc (.cells #[] 484)).cell? ⟨g, o + 2, none⟩ = some (.int .u8 b2) := ca c2
 have d3 : (w.alloc (.cells #[] 484)).cell? ⟨g, o + 3, none⟩ = some (.int .u8 b3) := ca c3
 clear c0 c1 c2 c3
 go_enter Tryz.func346, Tryz.ntmps346
 go_wp2
 go_quiet (fail)
 go_wp2
 go_ret
 refine ⟨?_, ((Kept.refl _ _).alloc _).drewN _⟩
 simp (disch := omega) only [u32_or8, u32_or16, u32_or24]
 rfl
structure Dec (w : World) (b g off cap : Nat) (cs : List Value) (k : Nat) : Prop where
 at_ : w.heap[b]? = some (.cells #[.slice (some ⟨g, off, none⟩) cs.length cap, .int .i64 k, .slice none 0 0] 213 (0, 0))
 cells : ∀ j u, cs[j]? = some u → w.cell? ⟨g, off + j, none⟩ = some u
 u8 : ∀ u ∈ cs, ∃ x, u = .int .u8 x ∧ isU8 x
 ne : b ≠ g
 cap : cs.length ≤ cap
 small : cs.length ≤ 1000000000
 le : k ≤ cs.length
theorem Dec.c0 {w : World} {b g off cap k : Nat} {cs : List Value} (h : Dec w b g off cap cs k) : w.cell? ⟨b, 0, none⟩ = some (.slice (some ⟨g, off, none⟩) cs.length cap) := by have := h.at_; simp [World.cell?, this]
theorem Dec.c1 {w : World} {b g off cap k : Nat} {cs : List Value} (h : Dec w b g off cap cs k) : w.cell? ⟨b, 0 + 1, none⟩ = some (.int .i64 k) := by have := h.at_; simp [World.cell?, this]
theorem Dec.fz {w : World} {b g off cap k : Nat} {cs : List Value} (h : Dec w b g off cap cs k) (i : Nat) : w.frozen? ⟨b, i, none⟩ = false := by have := h.at_; simp [World.frozen?, this]
theorem Dec.kept {w w' : World} {b g off cap k : Nat} {cs : List Value} {S : List Nat} (h : Dec w b g off cap cs k) (kk : Kept S w w') (h1 : b ∉ S) (h2 : g ∉ S) : Dec w' b g off cap cs k :=
 ⟨kk.heap h.at_ h1, fun j u hj => kk.cell (h.cells j u hj) h2, h.u8, h.ne, h.cap, h.small, h.le⟩
theorem Dec.set {w : World} {b g off cap k : Nat} {cs : List Value} (h : Dec w b g off cap cs k) (k' : Nat) (hk : k' ≤ cs.length) : Dec (w.setCell ⟨b, 0 + 1, none⟩ (.int .i64 k')) b g off cap cs k' := by
 refine ⟨?_, fun j u hj => ?_, h.u8, h.ne, h.cap, h.small, hk⟩
 · simp only [World.setCell, Array.getElem?_modify, h.at_]; simp
 · exact YticcnlpfmekagaaGreat.cs (by simpa using h.ne.symm) (h.cells j u hj)
theorem Dec.lt {w : World} {b g off cap k : Nat} {cs : List Value} (h : Dec w b g off cap cs k) : b < w.heap.size := lt_of_heap h.at_
def Gets (b g off cap : Nat) (cs : List Value) (k' : Nat) (v : Value) (w : World) (e : Ending) (w' : World) : Prop :=
 e = .returned (.tuple #[v, .nilIface]) ∧ Dec w' b g off cap cs k' ∧ Kept [b] w w'
theorem remaining_any (b g off cap k : Nat) (cs : List Value) (w : World) (h : Dec w b g off cap cs k) :
 Calls Tryz.prog 345 #[.pointer (some ⟨b, 0, none⟩)] w fun e w' => e = .returned (.int .i64 ((cs.length : Int) - k)) ∧ Kept [] w w' := by
 have c0 := h.c0
 have c1 := h.c1
 have hle := h.le
 have hsm := h.small
 generalize cs.length = N at *
 clear h
 go_enter Tryz.func345, Tryz.ntmps345
 go_wp2
 go_quiet (fail)
 go_wp2
 go_ret
 exact ⟨rfl, (Kept.refl _ _).drewN _⟩
theorem getD_app {pre l post : List Value} {j : Nat} {u : Value} (h : l[j]? = some u) : (pre ++ l ++ post)[pre.length + j]? = some u := by
 have hj : j < l.length := (List.getElem?_eq_some_iff.1 h).1
 rw [List.append_assoc, List.getElem?_append_right (by omega), Nat.add_sub_cancel_left, List.getElem?_append_left hj]; exact h
def sg16 (x : Int) : Int := IntKind.i16.wrap x
def sg32 (x : Int) : Int := IntKind.i32.wrap x
theorem getInt16_any (b g off cap k : Nat) (x : Int) (pre post : List Value) (w : World) (h : Dec w b g off cap (pre ++ be16 x ++ post) k) (hk : k = pre.length) (h0 : 0 ≤ x) (h1 : x < 65536) :
 Calls Tryz.prog 338 #[.pointer (some ⟨b, 0, none⟩)] w (Gets b g off cap (pre ++ be16 x ++ post) (k + 2) (.int .i16 (sg16 x)) w) := by
 have q0 : (pre ++ be16 x ++ post)[k]? = some (.int .u8 (x / 256)) := by subst hk; exact getD_app (j := 0) rfl
 have q1 : (pre ++ be16 x ++ post)[k + 1]? = some (.int .u8 (x % 256)) := by subst hk; exact getD_app (j := 1) rfl
 have hlen : k + 2 ≤ (pre ++ be16 x ++ post).length := by simp [be16]; omega
 generalize hcs : pre ++ be16 x ++ post = cs at *
 clear hcs hk
 have HH := Zhd h
 have hcap := h.cap
 have hsm := h.small
 have hbg := h.ne
 have hq : ∀ w', Kept [] w w' → Calls Tryz.prog 348 #[.agg #[], .slice (some ⟨g, off + k, none⟩) (cs.length - k) (cap - k)] w' fun e w' => _ := fun w' kk => uint16_any g (off + k) (cs.length - k) (cap - k) (x / 256) (x % 256) w' (by omega) (kk.cell (HH.out.cells _ _ q0) (by simp)) (kk.cell (by rw [Nat.add_assoc]; exact HH.out.cells _ _ q1) (by simp)) (by unfold isU8; omega) (by unfold isU8; omega)
 have HQ := Zhd hq; clear hq
 have hrm := remaining_any b g off cap k cs w h
 have HR := Zhd hrm; clear hrm
 have hS : ∀ w1, Kept [] w w1 → w1.cell? ⟨b, 0, none⟩ = some (.slice (some ⟨g, off, none⟩) cs.length cap) ∧ w1.cell? ⟨b, 0 + 1, none⟩ = some (.int .i64 k) :=
  fun w1 kk => ⟨(HH.out.kept kk (by simp) (by simp)).c0, (HH.out.kept kk (by simp) (by simp)).c1⟩
 have HS := Zhd hS; clear hS
 have hF : ∀ w1, Kept [] w w1 → w1.frozen? ⟨b, 0 + 1, none⟩ = false ∧ Dec (w1.setCell ⟨b, 0 + 1, none⟩ (.int .i64 ((k + 2 : Nat) : Int))) b g off cap cs (k + 2) :=
  fun w1 kk => ⟨(HH.out.kept kk (by simp) (by simp)).fz _, (HH.out.kept kk (by simp) (by simp)).set (k + 2) hlen⟩
 have HF := Zhd hF; clear hF
 have i0 : (0 : Int) ≤ (k : Int) := by omega
 have i1 : (k : Int) ≤ (cs.length : Int) := by omega
 have nlt : ¬ ((cs.length : Int) - k < 2) := by omega
 have ne : ¬ cap = k := by omega
 have e2 : (k : Int) + 2 = ((k + 2 : Nat) : Int) := by omega
 have E2 := Zhd e2; clear e2
 clear h q0 q1
 generalize cs.length = N at *
 go_enter Tryz.func338, Tryz.ntmps338
 go_wp2_with (first | (go_at_call 345; refine HR.out.mono ?_; rintro e w1 ⟨rfl, hk1⟩) | fail)
 go_region_held3 (fun w' => w'.cell? ⟨b, 0, none⟩ = some (.slice (some ⟨g, off, none⟩) N cap) ∧ w'.cell? ⟨b, 0 + 1, none⟩ = some (.int .i64 k))
  (first | exact HS.out _ hk1.drew | exact HS.out _ (hk1.trans hk2.of_drew (U := []) (by simp) (by simp)) | fail)
  (first | (go_at_call 348; refine (HQ.out _ hk1.drew).mono ?_; rintro e w2 ⟨rfl, hk2⟩) | fail)
 have hk12 : Kept [] w w2 := hk1.trans hk2.of_drew (by simp) (by simp)
 have c1 := (HS.out _ hk12).2
 have f1 := (HF.out _ hk12).1
 go_wp2
 go_ret2
 refine ⟨?_, ?_, ?_⟩
 · have : (x % 256 + x / 256 * 256) = x := by omega
   rw [this]; rfl
 · have := (HF.out _ hk12).2
   rw [E2.out]; exact this
 · exact (hk12.mono (by simp)).setCell _ (by simp)
theorem getInt32_any (b g off cap k : Nat) (x : Int) (pre post : List Value) (w : World) (h : Dec w b g off cap (pre ++ be32 x ++ post) k) (hk : k = pre.length) (h0 : 0 ≤ x) (h1 : x < 4294967296) :
 Calls Tryz.prog 339 #[.pointer (some ⟨b, 0, none⟩)] w (Gets b g off cap (pre ++ be32 x ++ post) (k + 4) (.int .i32 (sg32 x)) w) := by
 have q0 : (pre ++ be32 x ++ post)[k]? = some (.int .u8 (x / 16777216)) := by subst hk; exact getD_app (j := 0) rfl
 have q1 : (pre ++ be32 x ++ post)[k + 1]? = some (.int .u8 (x / 65536 % 256)) := by subst hk; exact getD_app (j := 1) rfl
 have q2 : (pre ++ be32 x ++ post)[k + 2]? = some (.int .u8 (x / 256 % 256)) := by subst hk; exact getD_app (j := 2) rfl
 have q3 : (pre ++ be32 x ++ post)[k + 3]? = some (.int .u8 (x % 256)) := by subst hk; exact getD_app (j := 3) rfl
 have hlen : k + 4 ≤ (pre ++ be32 x ++ post).length := by simp [be32]; omega
 generalize hcs : pre ++ be32 x ++ post = cs at *
 clear hcs hk
 have HH := Zhd h
 have hcap := h.cap
 have hsm := h.small
 have hbg := h.ne
 have hq : ∀ w', Kept [] w w' → Calls Tryz.prog 346 #[.agg #[], .slice (some ⟨g, off + k, none⟩) (cs.length - k) (cap - k)] w' fun e w' => _ := fun w' kk => uint32_any g (off + k) (cs.length - k) (cap - k) (x / 16777216) (x / 65536 % 256) (x / 256 % 256) (x % 256) w' (by omega) (kk.cell (HH.out.cells _ _ q0) (by simp)) (kk.cell (by rw [Nat.add_assoc]; exact HH.out.cells _ _ q1) (by simp)) (kk.cell (by rw [Nat.add_assoc]; exact HH.out.cells _ _ q2) (by simp)) (kk.cell (by rw [Nat.add_assoc]; exact HH.out.cells _ _ q3) (by simp)) (by unfold isU8; omega) (by unfold isU8; omega) (by unfold isU8; omega) (by unfold isU8; omega)
 have HQ := Zhd hq; clear hq
 have hrm := remaining_any b g off cap k cs w h
 have HR := Zhd hrm; clear hrm
 have hS : ∀ w1, Kept [] w w1 → w1.cell? ⟨b, 0, none⟩ = some (.slice (some ⟨g, off, none⟩) cs.length cap) ∧ w1.cell? ⟨b, 0 + 1, none⟩ = some (.int .i64 k) :=
  fun w1 kk => ⟨(HH.out.kept kk (by simp) (by simp)).c0, (HH.out.kept kk (by simp) (by simp)).c1⟩
 have HS := Zhd hS; clear hS
 have hF : ∀ w1, Kept [] w w1 → w1.frozen? ⟨b, 0 + 1, none⟩ = false ∧ Dec (w1.setCell ⟨b, 0 + 1, none⟩ (.int .i64 ((k + 4 : Nat) : Int))) b g off cap cs (k + 4) :=
  fun w1 kk => ⟨(HH.out.kept kk (by simp) (by simp)).fz _, (HH.out.kept kk (by simp) (by simp)).set (k + 4) hlen⟩
 have HF := Zhd hF; clear hF
 have i0 : (0 : Int) ≤ (k : Int) := by omega
 have i1 : (k : Int) ≤ (cs.length : Int) := by omega
 have nlt : ¬ ((cs.length : Int) - k < 4) := by omega
 have ne : ¬ cap = k := by omega
 have e2 : (k : Int) + 4 = ((k + 4 : Nat) : Int) := by omega
 have E2 := Zhd e2; clear e2
 clear h q0 q1 q2 q3
 generalize cs.length = N at *
 go_enter Tryz.func339, Tryz.ntmps339
 go_wp2_with (first | (go_at_call 345; refine HR.out.mono ?_; rintro e w1 ⟨rfl, hk1⟩) | fail)
 go_region_held3 (fun w' => w'.cell? ⟨b, 0, none⟩ = some (.slice (some ⟨g, off, none⟩) N cap) ∧ w'.cell? ⟨b, 0 + 1, none⟩ = some (.int .i64 k))
  (first | exact HS.out _ hk1.drew | exact HS.out _ (hk1.trans hk2.of_drew (U := []) (by simp) (by simp)) | fail)
  (first | (go_at_call 346; refine (HQ.out _ hk1.drew).mono ?_; rintro e w2 ⟨rfl, hk2⟩) | fail)
 have hk12 : Kept [] w w2 := hk1.trans hk2.of_drew (by simp) (by simp)
 have c1 := (HS.out _ hk12).2
 have f1 := (HF.out _ hk12).1
 go_wp2
 go_ret2
 refine ⟨?_, ?_, ?_⟩
 · have : (x % 256 + x / 256 % 256 * 256 + x / 65536 % 256 * 65536 + x / 16777216 * 16777216) = x := by omega
   rw [this]; rfl
 · have := (HF.out _ hk12).2
   rw [E2.out]; exact this
 · exact (hk12.mono (by simp)).setCell _ (by simp)
theorem u32_at (b g off cap k : Nat) (x : Int) (pre post : List Value) (w : World) (h : Dec w b g off cap (pre ++ be32 x ++ post) k) (hk : k = pre.length) (h0 : 0 ≤ x) (h1 : x < 4294967296) (n c : Nat) (hn : 4 ≤ n) (w' : World) (kk : Kept [] w w') :
 Calls Tryz.prog 346 #[.agg #[], .slice (some ⟨g, off + k, none⟩) n c] w' fun e w2 => e = .returned (.int .u32 x) ∧ Kept [] w' w2 := by
 have q0 : (pre ++ be32 x ++ post)[k]? = some (.int .u8 (x / 16777216)) := by subst hk; exact getD_app (j := 0) rfl
 have q1 : (pre ++ be32 x ++ post)[k + 1]? = some (.int .u8 (x / 65536 % 256)) := by subst hk; exact getD_app (j := 1) rfl
 have q2 : (pre ++ be32 x ++ post)[k + 2]? = some (.int .u8 (x / 256 % 256)) := by subst hk; exact getD_app (j := 2) rfl
 have q3 : (pre ++ be32 x ++ post)[k + 3]? = some (.int .u8 (x % 256)) := by subst hk; exact getD_app (j := 3) rfl
 have := uint32_any g (off + k) n c (x / 16777216) (x / 65536 % 256) (x / 256 % 256) (x % 256) w' hn (kk.cell (h.cells _ _ q0) (by simp)) (kk.cell (by rw [Nat.add_assoc]; exact h.cells _ _ q1) (by simp)) (kk.cell (by rw [Nat.add_assoc]; exact h.cells _ _ q2) (by simp)) (kk.cell (by rw [Nat.add_assoc]; exact h.cells _ _ q3) (by simp)) (by unfold isU8; omega) (by unfold isU8; omega) (by unfold isU8; omega) (by unfold isU8; omega)
 rwa [show (x % 256 + x / 256 % 256 * 256 + x / 65536 % 256 * 65536 + x / 16777216 * 16777216) = x by omega] at this
theorem getArrayLength_any (b g off cap k n : Nat) (pre post : List Value) (w : World) (h : Dec w b g off cap (pre ++ be32 n ++ post) k) (hk : k = pre.length) (hn : n ≤ post.length) (hn2 : n ≤ 100000000) :
 Calls Tryz.prog 335 #[.pointer (some ⟨b, 0, none⟩)] w (Gets b g off cap (pre ++ be32 n ++ post) (k + 4) (.int .i64 n) w) := by
 have hu := u32_at b g off cap k n pre post w h hk (by omega) (by omega)
 have HU := Zhd hu; clear hu
 have hlen : k + 4 + n ≤ (pre ++ be32 n ++ post).length := by simp [be32]; omega
 generalize hcs : pre ++ be32 n ++ post = cs at *
 clear hcs hk
 have HH := Zhd h
 have hcap := h.cap
 have hsm := h.small
 have hbg := h.ne
 have hrm := remaining_any b g off cap k cs w h
 have HR := Zhd hrm; clear hrm
 have hS : ∀ w1, Kept [] w w1 → w1.cell? ⟨b, 0, none⟩ = some (.slice (some ⟨g, off, none⟩) cs.length cap) ∧ w1.cell? ⟨b, 0 + 1, none⟩ = some (.int .i64 k) :=
  fun w1 kk => ⟨(HH.out.kept kk (by simp) (by simp)).c0, (HH.out.kept kk (by simp) (by simp)).c1⟩
 have HS := Zhd hS; clear hS
 have hF : ∀ w1, Kept [] w w1 → w1.frozen? ⟨b, 0 + 1, none⟩ = false ∧ Dec (w1.setCell ⟨b, 0 + 1, none⟩ (.int .i64 ((k + 4 : Nat) : Int))) b g off cap cs (k + 4) :=
  fun w1 kk => ⟨(HH.out.kept kk (by simp) (by simp)).fz _, (HH.out.kept kk (by simp) (by simp)).set (k + 4) (by omega)⟩
 have HF := Zhd hF; clear hF
 have i0 : (0 : Int) ≤ (k : Int) := by omega
 have i1 : (k : Int) ≤ (cs.length : Int) := by omega
 have nlt : ¬ ((cs.length : Int) - k < 4) := by omega
 have ne : ¬ cap = k := by omega
 have e2 : (k : Int) + 4 = ((k + 4 : Nat) : Int) := by omega
 have E2 := Zhd e2; clear e2
 have ngt : ¬ ((cs.length : Int) - ((k + 4 : Nat) : Int) < (n : Int)) := by omega
 have ngt2 : ¬ ((104857600 : Int) < (n : Int)) := by omega
 have hw : IntKind.i32.wrap (n : Int) = n := by simp [IntKind.wrap, IntKind.bits, IntKind.signed]; omega
 have hw6 : IntKind.i64.wrap (n : Int) = n := by simp [IntKind.wrap, IntKind.bits, IntKind.signed]; omega
 have hr2 := fun (w' : World) (hd : Dec w' b g off cap cs (k + 4)) => remaining_any b g off cap (k + 4) cs w' hd
 have HR2 := Zhd hr2; clear hr2
 clear h
 generalize cs.length = N at *
 go_enter Tryz.func335, Tryz.ntmps335
 go_wp2_with (first | (go_at_call 345; refine HR.out.mono ?_; rintro e w1 ⟨rfl, hk1⟩) | fail)
 go_region_held3 (fun w' => w'.cell? ⟨b, 0, none⟩ = some (.slice (some ⟨g, off, none⟩) N cap) ∧ w'.cell? ⟨b, 0 + 1, none⟩ = some (.int .i64 k))
  (first | exact HS.out _ hk1.drew | exact HS.out _ (hk1.trans hk2.of_drew (U := []) (by simp) (by simp)) | fail)
  (first | (go_at_call 346; refine (HU.out _ _ (by omega) _ hk1.drew).mono ?_; rintro e w2 ⟨rfl, hk2⟩) | fail)
 have hk12 : Kept [] w w2 := hk1.trans hk2.of_drew (by simp) (by simp)
 have c1 := (HS.out _ hk12).2
 have f1 := (HF.out _ hk12).1
 have hd2 := (HF.out _ hk12).2
 rw [← E2.out] at hd2
 have hk3 : Kept [b] w (w2.setCell ⟨b, 0 + 1, none⟩ (.int .i64 ((k : Int) + 4))) := (hk12.mono (by simp)).setCell _ (by simp)
 have HD2 := Zhd hd2; clear hd2
 go_wp2_with (first | (go_at_call 345; refine (HR2.out _ HD2.out).mono ?_; rintro e w3 ⟨rfl, hk4⟩) | fail)
 go_ret2
 exact ⟨rfl, HD2.out.kept hk4 (by simp) (by simp), hk3.trans hk4 (by simp) (by simp)⟩
theorem sg16_pos (n : Nat) (h : n ≤ 32767) : sg16 n = n := by unfold sg16; simp [IntKind.wrap, IntKind.bits, IntKind.signed]; omega
theorem getStringLength_any (b g off cap k n : Nat) (pre post : List Value) (w : World) (h : Dec w b g off cap (pre ++ be16 n ++ post) k) (hk : k = pre.length) (hn : n ≤ post.length) (hn2 : n ≤ 32767) :
 Calls Tryz.prog 350 #[.pointer (some ⟨b, 0, none⟩)] w (Gets b g off cap (pre ++ be16 n ++ post) (k + 2) (.int .i64 n) w) := by
 have h1 := getInt16_any b g off cap k n pre post w h hk (by omega) (by omega)
 rw [sg16_pos n hn2] at h1
 have H1 := Zhd h1; clear h1
 have hlen : k + 2 + n ≤ (pre ++ be16 n ++ post).length := by simp [be16]; omega
 generalize pre ++ be16 n ++ post = cs at *
 have hr2 := fun (w' : World) (hd : Dec w' b g off cap cs (k + 2)) => remaining_any b g off cap (k + 2) cs w' hd
 have HR2 := Zhd hr2; clear hr2
 have hsm := h.small
 have ngt : ¬ ((cs.length : Int) - ((k + 2 : Nat) : Int) < (n : Int)) := by omega
 have hw6 : IntKind.i64.wrap (n : Int) = n := by simp [IntKind.wrap, IntKind.bits, IntKind.signed]; omega
 clear h hk hlen hn
 generalize cs.length = N at *
 go_enter Tryz.func350, Tryz.ntmps350
 go_wp2_with (first
  | (go_at_call 338; refine H1.out.mono ?_; rintro e w1 ⟨rfl, hd1, hk1⟩)
  | (go_at_call 345; refine (HR2.out _ hd1).mono ?_; rintro e w2 ⟨rfl, hk2⟩)
  | fail)
 go_ret2
 exact ⟨rfl, hd1.kept hk2 (by simp) (by simp), hk1.trans hk2 (by simp) (by simp)⟩
end
section
open Go Go.Proofs Go.RowKit
theorem str_nums (s : ByteArray) : strOfNums (s.data.toList.map fun b => (b.toNat : Int)) = s := by
 obtain ⟨⟨l⟩⟩ := s
 simp [strOfNums, Function.comp_def]
theorem byteCells_eq (s : ByteArray) : byteCells s = (s.data.toList.map fun b => (b.toNat : Int)).map (Value.int .u8) := by
 simp [byteCells]
theorem conv_str {w : World} {g off n c : Nat} {s : ByteArray} (hn : n = s.size) (h : ∀ j u, (byteCells s)[j]? = some u → w.cell? ⟨g, off + j, none⟩ = some u) :
 (convert 28 9 (.slice (some ⟨g, off, none⟩) n c)).run Tryz.prog w = .ok (.string s) w := by
 have := run_convert_bytes_arg (P := Tryz.prog) w 28 5 Tryz.underlying28 Tryz.underlying5 g off n c (s.data.toList.map fun b => (b.toNat : Int)) (by rw [hn, List.length_map, Array.length_toList]; rfl) (fun i hi => ?_) 9 Tryz.underlying9
 · rwa [str_nums] at this
 · have hl : (s.data.toList.map fun b => (b.toNat : Int)).length = s.size := by rw [List.length_map, Array.length_toList]; rfl
   have hi' : i < (s.data.toList.map fun b => (b.toNat : Int)).length := by omega
   refine h i _ ?_
   rw [byteCells_eq, List.getElem?_map, List.getElem?_eq_getElem hi', List.getD_eq_getElem?_getD, List.getElem?_eq_getElem hi']
   rfl
theorem getString_any (b g off cap k : Nat) (s : ByteArray) (pre post : List Value) (w : World) (h : Dec w b g off cap (pre ++ encStr s ++ post) k) (hk : k = pre.length) (hn2 : s.size ≤ 32767) :
 Calls Tryz.prog 342 #[.pointer (some ⟨b, 0, none⟩)] w (Gets b g off cap (pre ++ encStr s ++ post) (k + 2 + s.size) (.string s) w) := by
 have e0 : pre ++ encStr s ++ post = pre ++ be16 s.size ++ (byteCells s ++ post) := by simp [encStr]
 rw [e0] at h ⊢
 have h1 := getStringLength_any b g off cap k s.size pre (byteCells s ++ post) w h hk (by rw [List.length_append, byteCells_length]; omega) hn2
 have H1 := Zhd h1; clear h1
 have hget : ∀ j u, (byteCells s)[j]? = some u → (pre ++ be16 s.size ++ (byteCells s ++ post))[k + 2 + j]? = some u := fun j u hj => by
  rw [List.getElem?_append_right (by simp [be16]; omega)]
  rw [show k + 2 + j - (pre ++ be16 (s.size : Int)).length = j by simp [be16]; omega]
  rw [List.getElem?_append_left (List.getElem?_eq_some_iff.1 hj).1]; exact hj
 have HGET := Zhd hget; clear hget
 have hlen : k + 2 + s.size ≤ (pre ++ be16 s.size ++ (byteCells s ++ post)).length := by simp [be16, byteCells_length]; omega
 have hcap := h.cap
 have hsm := h.small
 have hbg := h.ne
 clear h e0
 generalize pre ++ be16 (s.size : Int) ++ (byteCells s ++ post) = cs at *
 have hw6 : IntKind.i64.wrap (s.size : Int) = s.size := by simp [IntKind.wrap, IntKind.bits, IntKind.signed]; omega
 have e3 : k + 2 + s.size - (k + 2) = s.size := by omega
 have hcv : ∀ (w' : World) (o : Nat), Dec w' b g off cap cs (k + 2) → (o = off + (k + 2) ∨ s.size = 0) → ∀ c, (convert 28 9 (.slice (some ⟨g, o, none⟩) (k + 2 + s.size - (k + 2)) c)).run Tryz.prog w' = .ok (.string s) w' := fun w' o hd ho c => by
  refine conv_str (by omega) (fun j u hj => ?_)
  rcases ho with rfl | h0
  · rw [Nat.add_assoc]; exact hd.cells _ _ (HGET.out j u hj)
  · have := (List.getElem?_eq_some_iff.1 hj).1
    rw [byteCells_length] at this; omega
 have HCV := Zhd hcv; clear hcv
 have e2 : ((k + 2 : Nat) : Int) + s.size = ((k + 2 + s.size : Nat) : Int) := by omega
 have E2 := Zhd e2; clear e2
 generalize hN : cs.length = N at *
 have HN := Zhd hN; clear hN
 generalize hsz : s.size = n at *
 have HSZ := Zhd hsz; clear hsz
 generalize hkk : k + 2 = k2 at *
 have HKK := Zhd hkk; clear hkk hk
 have i0 : (0 : Int) ≤ (k2 : Int) := by omega
 have i1 : (k2 : Int) ≤ (N : Int) := by omega
 have i2 : (k2 : Int) + n ≤ (cap : Int) := by omega
 have i3 : (k2 : Int) ≤ (k2 : Int) + n := by omega
 have i4 : (0 : Int) ≤ (k2 : Int) + n := by omega
 have nm : ¬ ((n : Int) = -1) := by omega
 have hws : IntKind.i64.wrap ((k2 : Int) + n) = (k2 : Int) + n := IntWalk.i64_in _ (by omega)
 have htn : ((k2 : Int) + n).toNat = k2 + n := by omega
 have hfin : ∀ w1 w2 : World, Gets b g off cap cs k2 (.int .i64 n) w (.returned (.tuple #[.int .i64 n, .nilIface])) w1 → Kept [] w1 w2 → w2.frozen? ⟨b, 0 + 1, none⟩ = false ∧ Gets b g off cap cs (k2 + n) (.string s) w (.returned (.tuple #[.string s, .nilIface])) (w2.setCell ⟨b, 0 + 1, none⟩ (.int .i64 ((k2 : Int) + n))) := fun w1 w2 hg kk => by
  obtain ⟨_, hd, hk1⟩ := hg
  have hd2 := hd.kept kk (by simp) (by simp)
  refine ⟨hd2.fz _, rfl, ?_, (hk1.trans kk (by simp) (by simp)).setCell _ (by simp)⟩
  rw [E2.out]
  exact hd2.set _ (by rw [HN.out]; omega)
 have HFIN := Zhd hfin; clear hfin
 by_cases hck : cap = k2
 · have hn0 : n = 0 := by omega
   have hck' : k2 = cap := hck.symm
   clear hck
   subst hck'
   have HN0 := Zhd hn0; clear hn0
   go_enter Tryz.func342, Tryz.ntmps342
   go_wp2_with (first | (go_at_call 350; refine H1.out.mono ?_; rintro e w1 hg1; obtain ⟨rfl, hd, hk1⟩ := hg1; have c0 := hd.c0; have c1 := hd.c1; rw [HN.out] at c0; have HD := Zhd hd; clear hd) | fail)
   have hc2 := HCV.out w1.drew off (HD.out.kept (Kept.refl [] _).drew (by simp) (by simp)) (.inr HN0.out) 0
   rw [e3] at hc2
   have HS : Hid (w1.drew.cell? ⟨b, 0, none⟩ = some (.slice (some ⟨g, off, none⟩) N k2) ∧ w1.drew.cell? ⟨b, 0 + 1, none⟩ = some (.int .i64 k2) ∧ (convert 28 9 (.slice (some ⟨g, off, none⟩) n 0)).run Tryz.prog w1.drew = .ok (.string s) w1.drew) := Zhd ⟨c0, c1, hc2⟩
   clear hc2
   go_region_held3 (fun w' => w'.cell? ⟨b, 0, none⟩ = some (.slice (some ⟨g, off, none⟩) N k2) ∧ w'.cell? ⟨b, 0 + 1, none⟩ = some (.int .i64 k2) ∧ (convert 28 9 (.slice (some ⟨g, off, none⟩) n 0)).run Tryz.prog w' = .ok (.string s) w')
    (first | with_reducible exact HS.out | fail)
    (fail)
   obtain ⟨f1, hg2⟩ := HFIN.out w1 w1.drew ⟨rfl, HD.out, hk1⟩ (Kept.refl [] _).drew
   have HG2 := Zhd hg2; clear hg2
   go_wp2
   go_ret2
   exact HG2.out
 · go_enter Tryz.func342, Tryz.ntmps342
   go_wp2_with (first | (go_at_call 350; refine H1.out.mono ?_; rintro e w1 hg1; obtain ⟨rfl, hd, hk1⟩ := hg1; have c0 := hd.c0; have c1 := hd.c1; rw [HN.out] at c0; have HD := Zhd hd; clear hd) | fail)
   have hc2 := HCV.out w1.drew _ (HD.out.kept (Kept.refl [] _).drew (by simp) (by simp)) (.inl rfl) (cap - k2)
   rw [e3] at hc2
   have HS : Hid (w1.drew.cell? ⟨b, 0, none⟩ = some (.slice (some ⟨g, off, none⟩) N cap) ∧ w1.drew.cell? ⟨b, 0 + 1, none⟩ = some (.int .i64 k2) ∧ (convert 28 9 (.slice (some ⟨g, off + k2, none⟩) n (cap - k2))).run Tryz.prog w1.drew = .ok (.string s) w1.drew) := Zhd ⟨c0, c1, hc2⟩
   clear hc2
   go_region_held3 (fun w' => w'.cell? ⟨b, 0, none⟩ = some (.slice (some ⟨g, off, none⟩) N cap) ∧ w'.cell? ⟨b, 0 + 1, none⟩ = some (.int .i64 k2) ∧ (convert 28 9 (.slice (some ⟨g, off + k2, none⟩) n (cap - k2))).run Tryz.prog w' = .ok (.string s) w')
    (first | with_reducible exact HS.out | fail)
    (fail)
   obtain ⟨f1, hg2⟩ := HFIN.out w1 w1.drew ⟨rfl, HD.out, hk1⟩ (Kept.refl [] _).drew
   have HG2 := Zhd hg2; clear hg2
   go_wp2
   go_ret2
   exact HG2.out
end
section
open Go Go.Proofs Go.RowKit
end
end Go.Proofs.YticcnlpfmekagaaGreat
