/- Part 23 of 51 of the proof of the row: the texts Dec. -/
import Derived.Test.YticcnlpfmekagaaGreatRd06
import Derived.Lib.EndianBits
import Derived.RegionTactic
import Derived.BigQuiet
import Derived.Laws.BytesArg
namespace Go.Proofs.YticcnlpfmekagaaGreat
open Go Go.Proofs Go.RowKit
set_option linter.unusedVariables false
set_option linter.unusedSimpArgs false

/-! ## The decoder: it reads -/

def isU8 (x : Int) : Prop := 0 ≤ x ∧ x < 256

set_option maxHeartbeats 400000 in
theorem uint16_any (g o n c : Nat) (b0 b1 : Int) (w : World) (hn : 2 ≤ n) (c0 : w.cell? ⟨g, o, none⟩ = some (.int .u8 b0)) (c1 : w.cell? ⟨g, o + 1, none⟩ = some (.int .u8 b1)) (h0 : isU8 b0) (h1 : isU8 b1) :
    Calls Tryz.prog 348 #[.agg #[], .slice (some ⟨g, o, none⟩) n c] w fun e w' => e = .returned (.int .u16 (b1 + b0 * 256)) ∧ Kept [] w w' := by
  unfold isU8 at h0 h1
  obtain ⟨a0, a1⟩ := h0
  obtain ⟨a2, a3⟩ := h1
  have d0 : (w.alloc (.cells #[] 484)).cell? ⟨g, o, none⟩ = some (.int .u8 b0) := ca c0
  have d1 : (w.alloc (.cells #[] 484)).cell? ⟨g, o + 1, none⟩ = some (.int .u8 b1) := ca c1
  clear c0 c1
  go_enter Tryz.func348, Tryz.ntmps348
  go_wp2
  go_quiet (fail)
  go_wp2
  go_ret
  refine ⟨?_, ((Kept.refl _ _).alloc _).drewN _⟩
  simp (disch := omega) only [u16_or8]
  rfl

set_option maxHeartbeats 800000 in
theorem uint32_any (g o n c : Nat) (b0 b1 b2 b3 : Int) (w : World) (hn : 4 ≤ n) (c0 : w.cell? ⟨g, o, none⟩ = some (.int .u8 b0)) (c1 : w.cell? ⟨g, o + 1, none⟩ = some (.int .u8 b1))
    (c2 : w.cell? ⟨g, o + 2, none⟩ = some (.int .u8 b2)) (c3 : w.cell? ⟨g, o + 3, none⟩ = some (.int .u8 b3)) (h0 : isU8 b0) (h1 : isU8 b1) (h2 : isU8 b2) (h3 : isU8 b3) :
    Calls Tryz.prog 346 #[.agg #[], .slice (some ⟨g, o, none⟩) n c] w fun e w' => e = .returned (.int .u32 (b3 + b2 * 256 + b1 * 65536 + b0 * 16777216)) ∧ Kept [] w w' := by
  unfold isU8 at h0 h1 h2 h3
  obtain ⟨a0, a1⟩ := h0
  obtain ⟨a2, a3⟩ := h1
  obtain ⟨a4, a5⟩ := h2
  obtain ⟨a6, a7⟩ := h3
  have d0 : (w.alloc (.cells #[] 484)).cell? ⟨g, o, none⟩ = some (.int .u8 b0) := ca c0
  have d1 : (w.alloc (.cells #[] 484)).cell? ⟨g, o + 1, none⟩ = some (.int .u8 b1) := ca c1
  have d2 : (w.alloc (.cells #[] 484)).cell? ⟨g, o + 2, none⟩ = some (.int .u8 b2) := ca c2
  have d3 : (w.alloc (.cells #[] 484)).cell? ⟨g, o + 3, none⟩ = some (.int .u8 b3) := ca c3
  clear c0 c1 c2 c3
  go_enter Tryz.func346, Tryz.ntmps346
  go_wp2
  go_quiet (fail)
  go_wp2
  go_ret
  refine ⟨?_, ((Kept.refl _ _).alloc _).drewN _⟩
  simp (disch := omega) only [u32_or8, u32_or16, u32_or24]
  rfl

/-- the decoder at b, over the bytes cs that lie in block g: k of them have been read -/
structure Dec (w : World) (b g off cap : Nat) (cs : List Value) (k : Nat) : Prop where
  at_ : w.heap[b]? = some (.cells #[.slice (some ⟨g, off, none⟩) cs.length cap, .int .i64 k, .slice none 0 0] 213 (0, 0))
  cells : ∀ j u, cs[j]? = some u → w.cell? ⟨g, off + j, none⟩ = some u
  u8 : ∀ u ∈ cs, ∃ x, u = .int .u8 x ∧ isU8 x
  ne : b ≠ g
  cap : cs.length ≤ cap
  small : cs.length ≤ 1000000000
  le : k ≤ cs.length
theorem Dec.c0 {w : World} {b g off cap k : Nat} {cs : List Value} (h : Dec w b g off cap cs k) : w.cell? ⟨b, 0, none⟩ = some (.slice (some ⟨g, off, none⟩) cs.length cap) := by have := h.at_; simp [World.cell?, this]
theorem Dec.c1 {w : World} {b g off cap k : Nat} {cs : List Value} (h : Dec w b g off cap cs k) : w.cell? ⟨b, 0 + 1, none⟩ = some (.int .i64 k) := by have := h.at_; simp [World.cell?, this]
theorem Dec.fz {w : World} {b g off cap k : Nat} {cs : List Value} (h : Dec w b g off cap cs k) (i : Nat) : w.frozen? ⟨b, i, none⟩ = false := by have := h.at_; simp [World.frozen?, this]
theorem Dec.kept {w w' : World} {b g off cap k : Nat} {cs : List Value} {S : List Nat} (h : Dec w b g off cap cs k) (kk : Kept S w w') (h1 : b ∉ S) (h2 : g ∉ S) : Dec w' b g off cap cs k :=
  ⟨kk.heap h.at_ h1, fun j u hj => kk.cell (h.cells j u hj) h2, h.u8, h.ne, h.cap, h.small, h.le⟩
theorem Dec.set {w : World} {b g off cap k : Nat} {cs : List Value} (h : Dec w b g off cap cs k) (k' : Nat) (hk : k' ≤ cs.length) : Dec (w.setCell ⟨b, 0 + 1, none⟩ (.int .i64 k')) b g off cap cs k' := by
  refine ⟨?_, fun j u hj => ?_, h.u8, h.ne, h.cap, h.small, hk⟩
  · simp only [World.setCell, Array.getElem?_modify, h.at_]; simp
  · exact YticcnlpfmekagaaGreat.cs (by simpa using h.ne.symm) (h.cells j u hj)
theorem Dec.lt {w : World} {b g off cap k : Nat} {cs : List Value} (h : Dec w b g off cap cs k) : b < w.heap.size := lt_of_heap h.at_

/-- it has read on to k', and gives v -/
def Gets (b g off cap : Nat) (cs : List Value) (k' : Nat) (v : Value) (w : World) (e : Ending) (w' : World) : Prop :=
  e = .returned (.tuple #[v, .nilIface]) ∧ Dec w' b g off cap cs k' ∧ Kept [b] w w'

set_option maxHeartbeats 400000 in
theorem remaining_any (b g off cap k : Nat) (cs : List Value) (w : World) (h : Dec w b g off cap cs k) :
    Calls Tryz.prog 345 #[.pointer (some ⟨b, 0, none⟩)] w fun e w' => e = .returned (.int .i64 ((cs.length : Int) - k)) ∧ Kept [] w w' := by
  have c0 := h.c0
  have c1 := h.c1
  have hle := h.le
  have hsm := h.small
  generalize cs.length = N at *
  clear h
  go_enter Tryz.func345, Tryz.ntmps345
  go_wp2
  go_quiet (fail)
  go_wp2
  go_ret
  exact ⟨rfl, (Kept.refl _ _).drewN _⟩

theorem getD_app {pre l post : List Value} {j : Nat} {u : Value} (h : l[j]? = some u) : (pre ++ l ++ post)[pre.length + j]? = some u := by
  have hj : j < l.length := (List.getElem?_eq_some_iff.1 h).1
  rw [List.append_assoc, List.getElem?_append_right (by omega), Nat.add_sub_cancel_left, List.getElem?_append_left hj]; exact h

/-- the sign of 16 and of 32 bits -/
def sg16 (x : Int) : Int := IntKind.i16.wrap x
def sg32 (x : Int) : Int := IntKind.i32.wrap x

set_option maxRecDepth 100000 in
set_option maxHeartbeats 400000 in
theorem getInt16_any (b g off cap k : Nat) (x : Int) (pre post : List Value) (w : World) (h : Dec w b g off cap (pre ++ be16 x ++ post) k) (hk : k = pre.length) (h0 : 0 ≤ x) (h1 : x < 65536) :
    Calls Tryz.prog 338 #[.pointer (some ⟨b, 0, none⟩)] w (Gets b g off cap (pre ++ be16 x ++ post) (k + 2) (.int .i16 (sg16 x)) w) := by
  have q0 : (pre ++ be16 x ++ post)[k]? = some (.int .u8 (x / 256)) := by subst hk; exact getD_app (j := 0) rfl
  have q1 : (pre ++ be16 x ++ post)[k + 1]? = some (.int .u8 (x % 256)) := by subst hk; exact getD_app (j := 1) rfl
  have hlen : k + 2 ≤ (pre ++ be16 x ++ post).length := by simp [be16]; omega
  generalize hcs : pre ++ be16 x ++ post = cs at *
  clear hcs hk
  have HH := Lib.hid h
  have hcap := h.cap
  have hsm := h.small
  have hbg := h.ne
  have hq : ∀ w', Kept [] w w' → Calls Tryz.prog 348 #[.agg #[], .slice (some ⟨g, off + k, none⟩) (cs.length - k) (cap - k)] w' fun e w' => _ := fun w' kk => uint16_any g (off + k) (cs.length - k) (cap - k) (x / 256) (x % 256) w' (by omega) (kk.cell (HH.out.cells _ _ q0) (by simp)) (kk.cell (by rw [Nat.add_assoc]; exact HH.out.cells _ _ q1) (by simp)) (by unfold isU8; omega) (by unfold isU8; omega)
  have HQ := Lib.hid hq; clear hq
  have hrm := remaining_any b g off cap k cs w h
  have HR := Lib.hid hrm; clear hrm
  have hS : ∀ w1, Kept [] w w1 → w1.cell? ⟨b, 0, none⟩ = some (.slice (some ⟨g, off, none⟩) cs.length cap) ∧ w1.cell? ⟨b, 0 + 1, none⟩ = some (.int .i64 k) :=
    fun w1 kk => ⟨(HH.out.kept kk (by simp) (by simp)).c0, (HH.out.kept kk (by simp) (by simp)).c1⟩
  have HS := Lib.hid hS; clear hS
  have hF : ∀ w1, Kept [] w w1 → w1.frozen? ⟨b, 0 + 1, none⟩ = false ∧ Dec (w1.setCell ⟨b, 0 + 1, none⟩ (.int .i64 ((k + 2 : Nat) : Int))) b g off cap cs (k + 2) :=
    fun w1 kk => ⟨(HH.out.kept kk (by simp) (by simp)).fz _, (HH.out.kept kk (by simp) (by simp)).set (k + 2) hlen⟩
  have HF := Lib.hid hF; clear hF
  have i0 : (0 : Int) ≤ (k : Int) := by omega
  have i1 : (k : Int) ≤ (cs.length : Int) := by omega
  have nlt : ¬ ((cs.length : Int) - k < 2) := by omega
  have ne : ¬ cap = k := by omega
  have e2 : (k : Int) + 2 = ((k + 2 : Nat) : Int) := by omega
  have E2 := Lib.hid e2; clear e2
  clear h q0 q1
  generalize cs.length = N at *
  go_enter Tryz.func338, Tryz.ntmps338
  go_wp2_with (first | (go_at_call 345; refine HR.out.mono ?_; rintro e w1 ⟨rfl, hk1⟩) | fail)
  go_region_held3 (fun w' => w'.cell? ⟨b, 0, none⟩ = some (.slice (some ⟨g, off, none⟩) N cap) ∧ w'.cell? ⟨b, 0 + 1, none⟩ = some (.int .i64 k))
    (first | exact HS.out _ hk1.drew | exact HS.out _ (hk1.trans hk2.of_drew (U := []) (by simp) (by simp)) | fail)
    (first | (go_at_call 348; refine (HQ.out _ hk1.drew).mono ?_; rintro e w2 ⟨rfl, hk2⟩) | fail)
  have hk12 : Kept [] w w2 := hk1.trans hk2.of_drew (by simp) (by simp)
  have c1 := (HS.out _ hk12).2
  have f1 := (HF.out _ hk12).1
  go_wp2
  go_ret2
  refine ⟨?_, ?_, ?_⟩
  · have : (x % 256 + x / 256 * 256) = x := by omega
    rw [this]; rfl
  · have := (HF.out _ hk12).2
    rw [E2.out]; exact this
  · exact (hk12.mono (by simp)).setCell _ (by simp)

set_option maxRecDepth 100000 in
set_option maxHeartbeats 400000 in
theorem getInt32_any (b g off cap k : Nat) (x : Int) (pre post : List Value) (w : World) (h : Dec w b g off cap (pre ++ be32 x ++ post) k) (hk : k = pre.length) (h0 : 0 ≤ x) (h1 : x < 4294967296) :
    Calls Tryz.prog 339 #[.pointer (some ⟨b, 0, none⟩)] w (Gets b g off cap (pre ++ be32 x ++ post) (k + 4) (.int .i32 (sg32 x)) w) := by
  have q0 : (pre ++ be32 x ++ post)[k]? = some (.int .u8 (x / 16777216)) := by subst hk; exact getD_app (j := 0) rfl
  have q1 : (pre ++ be32 x ++ post)[k + 1]? = some (.int .u8 (x / 65536 % 256)) := by subst hk; exact getD_app (j := 1) rfl
  have q2 : (pre ++ be32 x ++ post)[k + 2]? = some (.int .u8 (x / 256 % 256)) := by subst hk; exact getD_app (j := 2) rfl
  have q3 : (pre ++ be32 x ++ post)[k + 3]? = some (.int .u8 (x % 256)) := by subst hk; exact getD_app (j := 3) rfl
  have hlen : k + 4 ≤ (pre ++ be32 x ++ post).length := by simp [be32]; omega
  generalize hcs : pre ++ be32 x ++ post = cs at *
  clear hcs hk
  have HH := Lib.hid h
  have hcap := h.cap
  have hsm := h.small
  have hbg := h.ne
  have hq : ∀ w', Kept [] w w' → Calls Tryz.prog 346 #[.agg #[], .slice (some ⟨g, off + k, none⟩) (cs.length - k) (cap - k)] w' fun e w' => _ := fun w' kk => uint32_any g (off + k) (cs.length - k) (cap - k) (x / 16777216) (x / 65536 % 256) (x / 256 % 256) (x % 256) w' (by omega) (kk.cell (HH.out.cells _ _ q0) (by simp)) (kk.cell (by rw [Nat.add_assoc]; exact HH.out.cells _ _ q1) (by simp)) (kk.cell (by rw [Nat.add_assoc]; exact HH.out.cells _ _ q2) (by simp)) (kk.cell (by rw [Nat.add_assoc]; exact HH.out.cells _ _ q3) (by simp)) (by unfold isU8; omega) (by unfold isU8; omega) (by unfold isU8; omega) (by unfold isU8; omega)
  have HQ := Lib.hid hq; clear hq
  have hrm := remaining_any b g off cap k cs w h
  have HR := Lib.hid hrm; clear hrm
  have hS : ∀ w1, Kept [] w w1 → w1.cell? ⟨b, 0, none⟩ = some (.slice (some ⟨g, off, none⟩) cs.length cap) ∧ w1.cell? ⟨b, 0 + 1, none⟩ = some (.int .i64 k) :=
    fun w1 kk => ⟨(HH.out.kept kk (by simp) (by simp)).c0, (HH.out.kept kk (by simp) (by simp)).c1⟩
  have HS := Lib.hid hS; clear hS
  have hF : ∀ w1, Kept [] w w1 → w1.frozen? ⟨b, 0 + 1, none⟩ = false ∧ Dec (w1.setCell ⟨b, 0 + 1, none⟩ (.int .i64 ((k + 4 : Nat) : Int))) b g off cap cs (k + 4) :=
    fun w1 kk => ⟨(HH.out.kept kk (by simp) (by simp)).fz _, (HH.out.kept kk (by simp) (by simp)).set (k + 4) hlen⟩
  have HF := Lib.hid hF; clear hF
  have i0 : (0 : Int) ≤ (k : Int) := by omega
  have i1 : (k : Int) ≤ (cs.length : Int) := by omega
  have nlt : ¬ ((cs.length : Int) - k < 4) := by omega
  have ne : ¬ cap = k := by omega
  have e2 : (k : Int) + 4 = ((k + 4 : Nat) : Int) := by omega
  have E2 := Lib.hid e2; clear e2
  clear h q0 q1 q2 q3
  generalize cs.length = N at *
  go_enter Tryz.func339, Tryz.ntmps339
  go_wp2_with (first | (go_at_call 345; refine HR.out.mono ?_; rintro e w1 ⟨rfl, hk1⟩) | fail)
  go_region_held3 (fun w' => w'.cell? ⟨b, 0, none⟩ = some (.slice (some ⟨g, off, none⟩) N cap) ∧ w'.cell? ⟨b, 0 + 1, none⟩ = some (.int .i64 k))
    (first | exact HS.out _ hk1.drew | exact HS.out _ (hk1.trans hk2.of_drew (U := []) (by simp) (by simp)) | fail)
    (first | (go_at_call 346; refine (HQ.out _ hk1.drew).mono ?_; rintro e w2 ⟨rfl, hk2⟩) | fail)
  have hk12 : Kept [] w w2 := hk1.trans hk2.of_drew (by simp) (by simp)
  have c1 := (HS.out _ hk12).2
  have f1 := (HF.out _ hk12).1
  go_wp2
  go_ret2
  refine ⟨?_, ?_, ?_⟩
  · have : (x % 256 + x / 256 % 256 * 256 + x / 65536 % 256 * 65536 + x / 16777216 * 16777216) = x := by omega
    rw [this]; rfl
  · have := (HF.out _ hk12).2
    rw [E2.out]; exact this
  · exact (hk12.mono (by simp)).setCell _ (by simp)

theorem u32_at (b g off cap k : Nat) (x : Int) (pre post : List Value) (w : World) (h : Dec w b g off cap (pre ++ be32 x ++ post) k) (hk : k = pre.length) (h0 : 0 ≤ x) (h1 : x < 4294967296) (n c : Nat) (hn : 4 ≤ n) (w' : World) (kk : Kept [] w w') :
    Calls Tryz.prog 346 #[.agg #[], .slice (some ⟨g, off + k, none⟩) n c] w' fun e w2 => e = .returned (.int .u32 x) ∧ Kept [] w' w2 := by
  have q0 : (pre ++ be32 x ++ post)[k]? = some (.int .u8 (x / 16777216)) := by subst hk; exact getD_app (j := 0) rfl
  have q1 : (pre ++ be32 x ++ post)[k + 1]? = some (.int .u8 (x / 65536 % 256)) := by subst hk; exact getD_app (j := 1) rfl
  have q2 : (pre ++ be32 x ++ post)[k + 2]? = some (.int .u8 (x / 256 % 256)) := by subst hk; exact getD_app (j := 2) rfl
  have q3 : (pre ++ be32 x ++ post)[k + 3]? = some (.int .u8 (x % 256)) := by subst hk; exact getD_app (j := 3) rfl
  have := uint32_any g (off + k) n c (x / 16777216) (x / 65536 % 256) (x / 256 % 256) (x % 256) w' hn (kk.cell (h.cells _ _ q0) (by simp)) (kk.cell (by rw [Nat.add_assoc]; exact h.cells _ _ q1) (by simp)) (kk.cell (by rw [Nat.add_assoc]; exact h.cells _ _ q2) (by simp)) (kk.cell (by rw [Nat.add_assoc]; exact h.cells _ _ q3) (by simp)) (by unfold isU8; omega) (by unfold isU8; omega) (by unfold isU8; omega) (by unfold isU8; omega)
  rwa [show (x % 256 + x / 256 % 256 * 256 + x / 65536 % 256 * 65536 + x / 16777216 * 16777216) = x by omega] at this

set_option maxRecDepth 100000 in
set_option maxHeartbeats 400000 in
theorem getArrayLength_any (b g off cap k n : Nat) (pre post : List Value) (w : World) (h : Dec w b g off cap (pre ++ be32 n ++ post) k) (hk : k = pre.length) (hn : n ≤ post.length) (hn2 : n ≤ 100000000) :
    Calls Tryz.prog 335 #[.pointer (some ⟨b, 0, none⟩)] w (Gets b g off cap (pre ++ be32 n ++ post) (k + 4) (.int .i64 n) w) := by
  have hu := u32_at b g off cap k n pre post w h hk (by omega) (by omega)
  have HU := Lib.hid hu; clear hu
  have hlen : k + 4 + n ≤ (pre ++ be32 n ++ post).length := by simp [be32]; omega
  generalize hcs : pre ++ be32 n ++ post = cs at *
  clear hcs hk
  have HH := Lib.hid h
  have hcap := h.cap
  have hsm := h.small
  have hbg := h.ne
  have hrm := remaining_any b g off cap k cs w h
  have HR := Lib.hid hrm; clear hrm
  have hS : ∀ w1, Kept [] w w1 → w1.cell? ⟨b, 0, none⟩ = some (.slice (some ⟨g, off, none⟩) cs.length cap) ∧ w1.cell? ⟨b, 0 + 1, none⟩ = some (.int .i64 k) :=
    fun w1 kk => ⟨(HH.out.kept kk (by simp) (by simp)).c0, (HH.out.kept kk (by simp) (by simp)).c1⟩
  have HS := Lib.hid hS; clear hS
  have hF : ∀ w1, Kept [] w w1 → w1.frozen? ⟨b, 0 + 1, none⟩ = false ∧ Dec (w1.setCell ⟨b, 0 + 1, none⟩ (.int .i64 ((k + 4 : Nat) : Int))) b g off cap cs (k + 4) :=
    fun w1 kk => ⟨(HH.out.kept kk (by simp) (by simp)).fz _, (HH.out.kept kk (by simp) (by simp)).set (k + 4) (by omega)⟩
  have HF := Lib.hid hF; clear hF
  have i0 : (0 : Int) ≤ (k : Int) := by omega
  have i1 : (k : Int) ≤ (cs.length : Int) := by omega
  have nlt : ¬ ((cs.length : Int) - k < 4) := by omega
  have ne : ¬ cap = k := by omega
  have e2 : (k : Int) + 4 = ((k + 4 : Nat) : Int) := by omega
  have E2 := Lib.hid e2; clear e2
  have ngt : ¬ ((cs.length : Int) - ((k + 4 : Nat) : Int) < (n : Int)) := by omega
  have ngt2 : ¬ ((104857600 : Int) < (n : Int)) := by omega
  have hw : IntKind.i32.wrap (n : Int) = n := by simp [IntKind.wrap, IntKind.bits, IntKind.signed]; omega
  have hw6 : IntKind.i64.wrap (n : Int) = n := by simp [IntKind.wrap, IntKind.bits, IntKind.signed]; omega
  have hr2 := fun (w' : World) (hd : Dec w' b g off cap cs (k + 4)) => remaining_any b g off cap (k + 4) cs w' hd
  have HR2 := Lib.hid hr2; clear hr2
  clear h
  generalize cs.length = N at *
  go_enter Tryz.func335, Tryz.ntmps335
  go_wp2_with (first | (go_at_call 345; refine HR.out.mono ?_; rintro e w1 ⟨rfl, hk1⟩) | fail)
  go_region_held3 (fun w' => w'.cell? ⟨b, 0, none⟩ = some (.slice (some ⟨g, off, none⟩) N cap) ∧ w'.cell? ⟨b, 0 + 1, none⟩ = some (.int .i64 k))
    (first | exact HS.out _ hk1.drew | exact HS.out _ (hk1.trans hk2.of_drew (U := []) (by simp) (by simp)) | fail)
    (first | (go_at_call 346; refine (HU.out _ _ (by omega) _ hk1.drew).mono ?_; rintro e w2 ⟨rfl, hk2⟩) | fail)
  have hk12 : Kept [] w w2 := hk1.trans hk2.of_drew (by simp) (by simp)
  have c1 := (HS.out _ hk12).2
  have f1 := (HF.out _ hk12).1
  have hd2 := (HF.out _ hk12).2
  rw [← E2.out] at hd2
  have hk3 : Kept [b] w (w2.setCell ⟨b, 0 + 1, none⟩ (.int .i64 ((k : Int) + 4))) := (hk12.mono (by simp)).setCell _ (by simp)
  have HD2 := Lib.hid hd2; clear hd2
  go_wp2_with (first | (go_at_call 345; refine (HR2.out _ HD2.out).mono ?_; rintro e w3 ⟨rfl, hk4⟩) | fail)
  go_ret2
  exact ⟨rfl, HD2.out.kept hk4 (by simp) (by simp), hk3.trans hk4 (by simp) (by simp)⟩

set_option maxRecDepth 100000 in
set_option maxHeartbeats 400000 in
theorem getRawBytes_any (b g off cap k n : Nat) (cs : List Value) (w : World) (h : Dec w b g off cap cs k) (hn : k + n ≤ cs.length) :
    Calls Tryz.prog 347 #[.pointer (some ⟨b, 0, none⟩), .int .i64 n] w fun e w' => ∃ u, Gets b g off cap cs (k + n) u w e w' ∧ SlAt w' 1 u n ((cs.drop k).take n) ∧ (∃ a c, u = .slice (some a) n c ∧ a.block = g) := by
  have HH := Lib.hid h
  have hcap := h.cap
  have hsm := h.small
  have hbg := h.ne
  have hrm := remaining_any b g off cap k cs w h
  have HR := Lib.hid hrm; clear hrm
  have hF : ∀ w1, Kept [] w w1 → w1.cell? ⟨b, 0, none⟩ = some (.slice (some ⟨g, off, none⟩) cs.length cap) ∧ w1.cell? ⟨b, 0 + 1, none⟩ = some (.int .i64 k) ∧ w1.frozen? ⟨b, 0 + 1, none⟩ = false ∧ Dec (w1.setCell ⟨b, 0 + 1, none⟩ (.int .i64 ((k + n : Nat) : Int))) b g off cap cs (k + n) :=
    fun w1 kk => ⟨(HH.out.kept kk (by simp) (by simp)).c0, (HH.out.kept kk (by simp) (by simp)).c1, (HH.out.kept kk (by simp) (by simp)).fz _, (HH.out.kept kk (by simp) (by simp)).set (k + n) hn⟩
  have HF := Lib.hid hF; clear hF
  have i0 : (0 : Int) ≤ (k : Int) := by omega
  have i1 : (k : Int) ≤ (cs.length : Int) := by omega
  have nlt : ¬ ((cs.length : Int) - k < (n : Int)) := by omega
  have nn : ¬ ((n : Int) < 0) := by omega
  have e2 : (k : Int) + n = ((k + n : Nat) : Int) := by omega
  have E2 := Lib.hid e2; clear e2
  have hlen : ((cs.drop k).take n).length = n := by simp; omega
  have HL := Lib.hid hlen; clear hlen
  have hget : ∀ w' : World, (∀ j u, cs[j]? = some u → w'.cell? ⟨g, off + j, none⟩ = some u) → ∀ j u, ((cs.drop k).take n)[j]? = some u → w'.cell? ⟨g, off + k + j, none⟩ = some u := fun w' hc j u hj => by
    have hjn : j < n := by have := (List.getElem?_eq_some_iff.1 hj).1; simp at this; omega
    rw [List.getElem?_take, if_pos hjn, List.getElem?_drop] at hj
    rw [Nat.add_assoc]; exact hc _ _ hj
  have HG := Lib.hid hget; clear hget
  have hone : ∀ u ∈ (cs.drop k).take n, u.oneCell' = true := fun u hu => by
    obtain ⟨x, rfl, _⟩ := HH.out.u8 u (List.mem_of_mem_drop (List.mem_of_mem_take hu)); rfl
  have HO := Lib.hid hone; clear hone
  clear h
  generalize hN : cs.length = N at *
  have HN := Lib.hid hN; clear hN
  have i2 : (k : Int) + n ≤ (cap : Int) := by omega
  have i3 : (k : Int) ≤ (k : Int) + n := by omega
  have i4 : (0 : Int) ≤ (k : Int) + n := by omega
  by_cases hck : cap = k
  · have hn0 : n = 0 := by omega
    have HN0 := Lib.hid hn0; clear hn0
    go_enter Tryz.func347, Tryz.ntmps347
    go_wp2_with (first | (go_at_call 345; refine HR.out.mono ?_; rintro e w1 ⟨rfl, hk1⟩; obtain ⟨d0, d1, f1, hd⟩ := HF.out _ hk1; have HD := Lib.hid hd; clear hd) | fail)
    go_quiet (fail)
    go_wp2
    go_ret2
    rw [← E2.out] at HD
    have e3 : k + n - k = n := by omega
    refine ⟨.slice (some ⟨g, off, none⟩) (k + n - k) 0, ⟨rfl, HD.out.kept ((Kept.refl [] _).drewN _) (by simp) (by simp), ((hk1.mono (by simp)).setCell _ (by simp)).drewN _⟩, ?_, ⟨_, _, by rw [e3], rfl⟩⟩
    rw [e3]
    refine ⟨by rw [HL.out]; omega, HO.out, .inr ⟨g, off, 0, rfl, fun j u hj => ?_⟩⟩
    have := (List.getElem?_eq_some_iff.1 hj).1
    rw [HL.out, HN0.out] at this; omega
  · go_enter Tryz.func347, Tryz.ntmps347
    go_wp2_with (first | (go_at_call 345; refine HR.out.mono ?_; rintro e w1 ⟨rfl, hk1⟩; obtain ⟨d0, d1, f1, hd⟩ := HF.out _ hk1; have HD := Lib.hid hd; clear hd) | fail)
    go_quiet (fail)
    go_wp2
    go_ret2
    rw [← E2.out] at HD
    have e3 : k + n - k = n := by omega
    refine ⟨.slice (some ⟨g, off + k, none⟩) (k + n - k) (cap - k), ⟨rfl, HD.out.kept ((Kept.refl [] _).drewN _) (by simp) (by simp), ((hk1.mono (by simp)).setCell _ (by simp)).drewN _⟩, ?_, ⟨_, _, by rw [e3], rfl⟩⟩
    rw [e3]
    refine ⟨by rw [HL.out]; omega, HO.out, .inr ⟨g, off + k, _, rfl, fun j u hj => ?_⟩⟩
    exact HG.out _ (fun j u hj => (HD.out.kept ((Kept.refl [] _).drewN _) (by simp) (by simp)).cells j u hj) j u hj

theorem sg32_pos (n : Nat) (h : n ≤ 100000000) : sg32 n = n := by unfold sg32; simp [IntKind.wrap, IntKind.bits, IntKind.signed]; omega
theorem sg16_pos (n : Nat) (h : n ≤ 32767) : sg16 n = n := by unfold sg16; simp [IntKind.wrap, IntKind.bits, IntKind.signed]; omega
theorem sg32_none : sg32 4294967295 = -1 := by decide
theorem sg16_none : sg16 65535 = -1 := by decide

theorem drop_enc {pre l post : List Value} {k : Nat} (hk : k = pre.length + l.length) : (pre ++ l ++ post).drop k = post := by subst hk; rw [← List.length_append, List.drop_left]
set_option maxRecDepth 100000 in
set_option maxHeartbeats 400000 in
theorem getBytes_any (b g off cap k n : Nat) (pre data post : List Value) (w : World) (h : Dec w b g off cap (pre ++ be32 n ++ (data ++ post)) k) (hk : k = pre.length) (hn : n = data.length) (hn2 : n ≤ 100000000) :
    Calls Tryz.prog 336 #[.pointer (some ⟨b, 0, none⟩)] w fun e w' => ∃ u, Gets b g off cap (pre ++ be32 n ++ (data ++ post)) (k + 4 + n) u w e w' ∧ SlAt w' 1 u n data ∧ (∃ a c, u = .slice (some a) n c ∧ a.block = g) := by
  have h1 := getInt32_any b g off cap k n pre (data ++ post) w h hk (by omega) (by omega)
  rw [sg32_pos n hn2] at h1
  have H1 := Lib.hid h1; clear h1
  have hdd : ((pre ++ be32 n ++ (data ++ post)).drop (k + 4)).take n = data := by
    rw [drop_enc (by simp [be32]; omega), hn, List.take_left]
  have HDD := Lib.hid hdd; clear hdd
  have hlen : k + 4 + n ≤ (pre ++ be32 n ++ (data ++ post)).length := by simp [be32]; omega
  generalize pre ++ be32 n ++ (data ++ post) = cs at *
  have h2 := fun (w' : World) (hd : Dec w' b g off cap cs (k + 4)) => getRawBytes_any b g off cap (k + 4) n cs w' hd hlen
  have H2 := Lib.hid h2; clear h2
  have nn : ¬ ((n : Int) = -1) := by omega
  have hw6 : IntKind.i64.wrap (n : Int) = n := by simp [IntKind.wrap, IntKind.bits, IntKind.signed]; omega
  clear h hn hk hlen
  go_enter Tryz.func336, Tryz.ntmps336
  go_wp2_with (first
    | (go_at_call 339; refine H1.out.mono ?_; rintro e w1 ⟨rfl, hd1, hk1⟩)
    | (go_at_call 347; refine (H2.out _ hd1).mono ?_; rintro e w2 ⟨u, ⟨rfl, hd2, hk2⟩, hsl, a, c, rfl, hag⟩; rw [HDD.out] at hsl)
    | fail)
  go_ret2
  exact ⟨_, ⟨rfl, hd2, hk1.trans hk2 (by simp) (by simp)⟩, hsl, _, _, rfl, hag⟩

set_option maxRecDepth 100000 in
set_option maxHeartbeats 400000 in
theorem getBytes_none (b g off cap k : Nat) (pre post : List Value) (w : World) (h : Dec w b g off cap (pre ++ be32 4294967295 ++ post) k) (hk : k = pre.length) :
    Calls Tryz.prog 336 #[.pointer (some ⟨b, 0, none⟩)] w (Gets b g off cap (pre ++ be32 4294967295 ++ post) (k + 4) (.slice none 0 0) w) := by
  have h1 := getInt32_any b g off cap k 4294967295 pre post w h hk (by omega) (by omega)
  rw [sg32_none] at h1
  have H1 := Lib.hid h1; clear h1
  clear h hk
  go_enter Tryz.func336, Tryz.ntmps336
  go_wp2_with (first
    | (go_at_call 339; refine H1.out.mono ?_; rintro e w1 ⟨rfl, hd1, hk1⟩)
    | fail)
  go_ret2
  exact ⟨rfl, hd1, hk1⟩

set_option maxRecDepth 100000 in
set_option maxHeartbeats 400000 in
theorem getStringLength_any (b g off cap k n : Nat) (pre post : List Value) (w : World) (h : Dec w b g off cap (pre ++ be16 n ++ post) k) (hk : k = pre.length) (hn : n ≤ post.length) (hn2 : n ≤ 32767) :
    Calls Tryz.prog 350 #[.pointer (some ⟨b, 0, none⟩)] w (Gets b g off cap (pre ++ be16 n ++ post) (k + 2) (.int .i64 n) w) := by
  have h1 := getInt16_any b g off cap k n pre post w h hk (by omega) (by omega)
  rw [sg16_pos n hn2] at h1
  have H1 := Lib.hid h1; clear h1
  have hlen : k + 2 + n ≤ (pre ++ be16 n ++ post).length := by simp [be16]; omega
  generalize pre ++ be16 n ++ post = cs at *
  have hr2 := fun (w' : World) (hd : Dec w' b g off cap cs (k + 2)) => remaining_any b g off cap (k + 2) cs w' hd
  have HR2 := Lib.hid hr2; clear hr2
  have hsm := h.small
  have ngt : ¬ ((cs.length : Int) - ((k + 2 : Nat) : Int) < (n : Int)) := by omega
  have hw6 : IntKind.i64.wrap (n : Int) = n := by simp [IntKind.wrap, IntKind.bits, IntKind.signed]; omega
  clear h hk hlen hn
  generalize cs.length = N at *
  go_enter Tryz.func350, Tryz.ntmps350
  go_wp2_with (first
    | (go_at_call 338; refine H1.out.mono ?_; rintro e w1 ⟨rfl, hd1, hk1⟩)
    | (go_at_call 345; refine (HR2.out _ hd1).mono ?_; rintro e w2 ⟨rfl, hk2⟩)
    | fail)
  go_ret2
  exact ⟨rfl, hd1.kept hk2 (by simp) (by simp), hk1.trans hk2 (by simp) (by simp)⟩

set_option maxRecDepth 100000 in
set_option maxHeartbeats 400000 in
theorem getStringLength_none (b g off cap k : Nat) (pre post : List Value) (w : World) (h : Dec w b g off cap (pre ++ be16 65535 ++ post) k) (hk : k = pre.length) :
    Calls Tryz.prog 350 #[.pointer (some ⟨b, 0, none⟩)] w (Gets b g off cap (pre ++ be16 65535 ++ post) (k + 2) (.int .i64 (-1)) w) := by
  have h1 := getInt16_any b g off cap k 65535 pre post w h hk (by omega) (by omega)
  rw [sg16_none] at h1
  have H1 := Lib.hid h1; clear h1
  have hlen : k + 2 ≤ (pre ++ be16 65535 ++ post).length := by simp [be16]; omega
  generalize pre ++ be16 65535 ++ post = cs at *
  have hr2 := fun (w' : World) (hd : Dec w' b g off cap cs (k + 2)) => remaining_any b g off cap (k + 2) cs w' hd
  have HR2 := Lib.hid hr2; clear hr2
  have hsm := h.small
  have ngt : ¬ ((cs.length : Int) - ((k + 2 : Nat) : Int) < -1) := by omega
  clear h hk hlen
  generalize cs.length = N at *
  go_enter Tryz.func350, Tryz.ntmps350
  go_wp2_with (first
    | (go_at_call 338; refine H1.out.mono ?_; rintro e w1 ⟨rfl, hd1, hk1⟩)
    | (go_at_call 345; refine (HR2.out _ hd1).mono ?_; rintro e w2 ⟨rfl, hk2⟩)
    | fail)
  go_ret2
  exact ⟨rfl, hd1.kept hk2 (by simp) (by simp), hk1.trans hk2 (by simp) (by simp)⟩
end Go.Proofs.YticcnlpfmekagaaGreat
