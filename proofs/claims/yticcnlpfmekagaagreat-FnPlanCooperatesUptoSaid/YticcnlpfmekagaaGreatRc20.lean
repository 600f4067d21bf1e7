/- Part 20 of the proof of the row: Dec, Dec2, Sink2, Dec3, Spec, Spec2, Dec4, Dec5, Pop, DecV, Ud, UdB. -/
import Derived.Test.YticcnlpfmekagaaGreatRc00
import Derived.Test.YticcnlpfmekagaaGreatRc05
import Derived.Lib.EndianBits
import Derived.RegionTactic
import Derived.BigQuiet
import Derived.Laws.BytesArg
import Derived.IntWalk
import Derived.Test.YticcnlpfmekagaaGreatRc10
import Derived.Test.YticcnlpfmekagaaGreatRc09
import Derived.Test.YticcnlpfmekagaaGreatRc18
import Derived.Test.YticcnlpfmekagaaGreatRc19
set_option linter.unusedVariables false
set_option linter.unusedSimpArgs false
set_option maxRecDepth 100000
set_option maxHeartbeats 8000000
namespace Go.Proofs.YticcnlpfmekagaaGreat
section
open Go Go.Proofs Go.RowKit
def isU8 (x : Int) : Prop := 0 ≤ x ∧ x < 256
structure Dec (w : World) (b g off cap : Nat) (cs : List Value) (k : Nat) : Prop where
 at_ : w.heap[b]? = some (.cells #[.slice (some ⟨g, off, none⟩) cs.length cap, .int .i64 k, .slice none 0 0] 213 (0, 0))
 cells : ∀ j u, cs[j]? = some u → w.cell? ⟨g, off + j, none⟩ = some u
 u8 : ∀ u ∈ cs, ∃ x, u = .int .u8 x ∧ isU8 x
 ne : b ≠ g
 cap : cs.length ≤ cap
 small : cs.length ≤ 1000000000
 le : k ≤ cs.length
theorem Dec.c0 {w : World} {b g off cap k : Nat} {cs : List Value} (h : Dec w b g off cap cs k) : w.cell? ⟨b, 0, none⟩ = some (.slice (some ⟨g, off, none⟩) cs.length cap) := by have := h.at_; simp [World.cell?, this]
theorem Dec.c1 {w : World} {b g off cap k : Nat} {cs : List Value} (h : Dec w b g off cap cs k) : w.cell? ⟨b, 0 + 1, none⟩ = some (.int .i64 k) := by have := h.at_; simp [World.cell?, this]
theorem Dec.fz {w : World} {b g off cap k : Nat} {cs : List Value} (h : Dec w b g off cap cs k) (i : Nat) : w.frozen? ⟨b, i, none⟩ = false := by have := h.at_; simp [World.frozen?, this]
theorem Dec.kept {w w' : World} {b g off cap k : Nat} {cs : List Value} {S : List Nat} (h : Dec w b g off cap cs k) (kk : Kept S w w') (h1 : b ∉ S) (h2 : g ∉ S) : Dec w' b g off cap cs k :=
 ⟨kk.heap h.at_ h1, fun j u hj => kk.cell (h.cells j u hj) h2, h.u8, h.ne, h.cap, h.small, h.le⟩
theorem Dec.set {w : World} {b g off cap k : Nat} {cs : List Value} (h : Dec w b g off cap cs k) (k' : Nat) (hk : k' ≤ cs.length) : Dec (w.setCell ⟨b, 0 + 1, none⟩ (.int .i64 k')) b g off cap cs k' := by
 refine ⟨?_, fun j u hj => ?_, h.u8, h.ne, h.cap, h.small, hk⟩
 · simp only [World.setCell, Array.getElem?_modify, h.at_]; simp
 · exact YticcnlpfmekagaaGreat.cs (by simpa using h.ne.symm) (h.cells j u hj)
theorem Dec.lt {w : World} {b g off cap k : Nat} {cs : List Value} (h : Dec w b g off cap cs k) : b < w.heap.size := lt_of_heap h.at_
end
section
open Go Go.Proofs Go.RowKit
end
section
open Go Go.Proofs Go.RowKit
end
section
open Go Go.Proofs Go.RowKit
def RowIs (w : World) (R E : Nat) (L : List Value) : Prop := w.heap[R]? = some (.cells L.toArray E (0, 0))
theorem RowIs.cell {w : World} {R E k : Nat} {L pre post : List Value} {x : Value} (h : RowIs w R E L) (e : L = pre ++ x :: post) (hk : k = pre.length) : w.cell? ⟨R, k, none⟩ = some x := by
 subst hk e; unfold RowIs at h; simp [World.cell?, h]
theorem RowIs.fz {w : World} {R E : Nat} {L : List Value} (h : RowIs w R E L) (k : Nat) : w.frozen? ⟨R, k, none⟩ = false := by unfold RowIs at h; simp [World.frozen?, h]
theorem RowIs.set {w : World} {R E k : Nat} {L pre post : List Value} {x : Value} (h : RowIs w R E L) (e : L = pre ++ x :: post) (hk : k = pre.length) (v : Value) : RowIs (w.setCell ⟨R, k, none⟩ v) R E (pre ++ v :: post) := by
 subst hk e; unfold RowIs at *
 simp [World.setCell, Array.getElem?_modify, h]
theorem RowIs.kept {w w' : World} {R E : Nat} {L : List Value} {S : List Nat} (h : RowIs w R E L) (k : Kept S w w') (hs : R ∉ S) : RowIs w' R E L := k.heap h hs
end
section
open Go Go.Proofs Go.RowKit
structure Acc (wB w : World) (v : Value) (xs : List Value) : Prop where
 own : w.ownsRow 0 5 1 v xs.length xs
 fr : Fresh wB v
 kept : Kept [] wB w
theorem Acc.nil {wB w : World} (h : Kept [] wB w) : Acc wB w (.slice none 0 0) [] := ⟨own_nil _ _, Fresh.nil _, h⟩
theorem own_n {w : World} {v : Value} {n : Nat} {xs : List Value} (h : w.ownsRow 0 5 1 v n xs) : n = xs.length := by have := h.1; omega
theorem Acc.form {wB w : World} {v : Value} {xs : List Value} (h : Acc wB w v xs) : ∃ a n c, v = .slice a n c := own_form h.own
theorem Acc.len {wB w : World} {a : Option Addr} {n c : Nat} {xs : List Value} (h : Acc wB w (.slice a n c) xs) : n = xs.length := by
 rcases h.own.2 with ⟨h1, h2⟩ | ⟨g, cap, cur, h1, _⟩
 · cases h1; exact h2.symm
 · cases h1; rfl
theorem Acc.step {wB w w1 w2 : World} {v v' : Value} {xs ys : List Value} {m : Nat} (h : Acc wB w v xs) (hk : Kept [] w w1) (ho : w2.ownsRow 0 5 1 v' (xs.length + m) (xs ++ ys)) (hk1 : Kept v.ownBlock.toList w1 w2)
 (hd : (v'.ownBlock = v.ownBlock ∧ w2.heap.size = w1.heap.size) ∨ (v'.ownBlock = some w1.heap.size ∧ w2.heap.size = w1.heap.size + 1)) : Acc wB w2 v' (xs ++ ys) := by
 obtain ⟨h1, h2⟩ := app_step h.fr (h.kept.trans hk (U := []) (by simp) (by simp)) hk1 hd
 exact ⟨by rw [← own_n ho]; exact ho, h1, h2⟩
end
section
open Go Go.Proofs Go.RowKit
end
section
open Go Go.Proofs Go.RowKit
section
variable {b g off cap : Nat} {cs pre post : List Value} {w : World}
end
def encTP (x : ByteArray × List Int) : List Value := encStr x.1 ++ encInts x.2
theorem encTP_length (x : ByteArray × List Int) : (encTP x).length = 6 + x.1.size + 4 * x.2.length := by simp [encTP, encStr_length, encInts_length]; omega
structure TPOk (x : ByteArray × List Int) : Prop where
 top : x.1.size ≤ 32767
 len : x.2.length ≤ 1000000
 i32 : ∀ y ∈ x.2, isI32 y
end
section
open Go Go.Proofs Go.RowKit
def U8L (l : List Value) : Prop := ∀ u ∈ l, ∃ x, u = Value.int .u8 x ∧ isU8 x
theorem U8L.flat {α : Type} {f : α → List Value} {L : List α} (h : ∀ x ∈ L, U8L (f x)) : U8L (L.flatMap f) := fun u hu => by
 obtain ⟨x, hx, hu⟩ := List.mem_flatMap.1 hu
 exact h x hx u hu
end
section
open Go Go.Proofs Go.RowKit Go.Lib
open Classical
def Rs.tops (r : Nat) (T : Tops) : Res where
 foot := r :: T.flatMap (fun x => x.2.1.ownBlock.toList)
 holds := fun w => TopsAt w r T
 stable := fun w w' S k hs h => h.kept k (hs r (by simp)) (fun x hx g hg => hs g (by
  refine List.mem_cons_of_mem _ (List.mem_flatMap.2 ⟨x, hx, by simp [hg]⟩)))
theorem tops_foot (r : Nat) (T : Tops) : r ∈ (Rs.tops r T).foot := by simp [Rs.tops]
def tpsOf (x : ByteArray × List Int) : List TP := x.2.map fun n => (x.1, n)
theorem rawT_append (A B : Tops) : rawT (A ++ B) = rawT A ++ rawT B := by simp [rawT]
theorem rawT_nil {A : Tops} (h : rawT A = []) : A = [] := by simpa [rawT] using h
abbrev itTops (r : Nat) (T : Tops) (lf : List (Value × Value)) (it : Nat) : Res := Rs.it (Rs.tops r T) r (rawT T) lf it (tops_foot r T)
def topTps (T : Tops) : List TP := T.flatMap fun x => tpsOf (x.1, x.2.2)
theorem topTps_append (A B : Tops) : topTps (A ++ B) = topTps A ++ topTps B := by simp [topTps]
theorem topTps_perm {A B : Tops} (h : A.Perm B) : (topTps A).Perm (topTps B) := h.flatMap_right _
theorem tpsOf_len (top : ByteArray) (xs : List Int) : (tpsOf (top, xs)).length = xs.length := by simp [tpsOf]
theorem tpsOf_snoc (ps : List TP) (top : ByteArray) (xs : List Int) (k : Nat) (n : Int) (h : xs[k]? = some n) : ps ++ tpsOf (top, xs.take k) ++ [(top, n)] = ps ++ tpsOf (top, xs.take (k + 1)) := by
 obtain ⟨h1, h2⟩ := List.getElem?_eq_some_iff.1 h
 rw [List.take_succ_eq_append_getElem h1, h2]
 simp [tpsOf]
end
section
open Go Go.Proofs Go.RowKit
def v1Bytes (D : List (ByteArray × List Int)) (gen : Int) : List Value := be32 D.length ++ D.flatMap encTP ++ be32 (gen % 4294967296)
theorem topTps_tops2 (T : Tops) : topTps T = (tops2 T).flatMap tpsOf := by simp [topTps, tops2, List.flatMap_map]
end
section
open Go Go.Proofs Go.RowKit
def UdAt (w : World) (lo m : Nat) (parts : List TP) (gen : Int) : Prop :=
 ∃ (mv v : Value) (N : Nat) (ps : List TP), w.heap[m]? = some (.cells #[mv, .int .i32 gen, v] 377 (0, 0)) ∧ ps.length = N ∧ ps.Perm parts ∧ w.ownsRow 0 384 2 v N (ps.flatMap encTp) ∧ (∀ y, v.ownBlock = some y → lo ≤ y ∧ y < w.heap.size)
end
section
open Go Go.Proofs Go.RowKit
def UdIs (w : World) (dv : Value) (parts : List TP) (gen : Int) : Prop :=
 ∀ w1, Kept [] w w1 → Calls Tryz.prog 260 #[dv] w1 fun e w' => e = .returned (.tuple #[.iface 374 (.pointer (some ⟨w1.heap.size, 0, none⟩)), .nilIface]) ∧ UdAt w' w1.heap.size w1.heap.size parts gen ∧ Kept [] w1 w'
theorem UdIs.kept {w w' : World} {dv : Value} {parts : List TP} {gen : Int} (h : UdIs w dv parts gen) (k : Kept [] w w') : UdIs w' dv parts gen := fun w1 k1 => h w1 (k.trans k1 (by simp) (by simp))
theorem rev_row : (Tryz.prog.info? 441).bind (fun i => (i.methods.find? (·.name == "Len")).map fun m => (m.path.toList.map fun s => (s.struct, s.index, s.deref), m.func)) = some ([(443, 0, true)], none) := by kernel_rfl
theorem is_row : (Tryz.prog.info? 404).bind (fun i => (i.methods.find? (·.name == "Len")).map fun m => (m.path.toList.length, m.func)) = some (0, some (412, false)) := by kernel_rfl
theorem is_len (k : Nat) (v : Option Addr) (n c : Nat) (w : World) : (method (k + 1) 404 (.slice v n c) "Len").run Tryz.prog w = .ok (412, .slice v n c) w := by
 obtain ⟨i, hi, h2⟩ := Option.bind_eq_some_iff.1 is_row
 obtain ⟨m, hm, h3⟩ := Option.map_eq_some_iff.1 h2
 simp only [Prod.mk.injEq] at h3
 obtain ⟨h4, h5⟩ := h3
 have h6 : m.path.toList = [] := List.length_eq_zero_iff.1 h4
 have h8 : (typeInfo 404).run Tryz.prog w = .ok i w := by simp [typeInfo, go_sem, hi]
 rw [method, Sem.run_bind, h8, Result.andThen_ok, hm]
 simp only [h6, h5, follow, pure_bind, receiverAt, Sem.run_bind]
 have h9 : (underlying 404).run Tryz.prog w = .ok (.slice 3) w := by simp [go_sem]
 rw [h9, Result.andThen_ok]
 simp only [Place.get, Sem.run_pure, Result.andThen_ok]
theorem rev_len (b : Nat) (v : Option Addr) (n c : Nat) (w : World) (h : w.cell? ⟨b, 0, none⟩ = some (.iface 404 (.slice v n c))) :
 (method 643 441 (.pointer (some ⟨b, 0, none⟩)) "Len").run Tryz.prog w = .ok (412, .slice v n c) w := by
 obtain ⟨i, hi, h2⟩ := Option.bind_eq_some_iff.1 rev_row
 obtain ⟨m, hm, h3⟩ := Option.map_eq_some_iff.1 h2
 simp only [Prod.mk.injEq] at h3
 obtain ⟨h4, h5⟩ := h3
 obtain ⟨s, h6, h7⟩ := List.map_eq_singleton_iff.1 h4
 simp only [Prod.mk.injEq] at h7
 obtain ⟨e1, e2, e3⟩ := h7
 have h8 : (typeInfo 441).run Tryz.prog w = .ok i w := by simp [typeInfo, go_sem, hi]
 rw [method, Sem.run_bind, h8, Result.andThen_ok, hm]
 simp only [h6, h5, follow, e1, e2, e3]
 have h9 : (underlying 443).run Tryz.prog w = .ok (.struct #[{ name := "Interface", type := 333, offset := 0, embedded := true, tag := "", pkgPath := "", byteOffset := 0 }]) w := by simp [go_sem, Tryz.underlying443]
 have h10 : (fieldPlace ⟨b, 0, none⟩ { name := "Interface", type := 333, offset := 0, embedded := true, tag := "", pkgPath := "", byteOffset := 0 }).run Tryz.prog w = .ok ⟨b, 0, none⟩ w := by simp [fieldPlace, go_sem]
 have h11 : (loadVar 333 ⟨b, 0, none⟩).run Tryz.prog w = .ok (.iface 404 (.slice v n c)) w := by simp [go_sem, h]
 simp only [Sem.run_bind, h9, Result.andThen_ok, List.getElem?_toArray, List.getElem?_cons_zero, if_true, Place.get, pure_bind, asAddr, h10, Sem.run_pure, h11, is_len]
theorem int_len (v : Option Addr) (n c : Nat) (w : World) : Calls Tryz.prog 412 #[.slice v n c] w fun e w' => e = .returned (.int .i64 n) ∧ w' = w := by
 go_enter Tryz.func412, Tryz.ntmps412
 go_wp2
 go_ret
 exact ⟨rfl, rfl⟩
theorem rev_any (v : Option Addr) (n c : Nat) (w : World) : Calls Tryz.prog 236 #[.iface 404 (.slice v n c)] w fun e w' => e = .returned (.iface 441 (.pointer (some ⟨w.heap.size, 0, none⟩))) ∧ w' = w.alloc (.cells #[.iface 404 (.slice v n c)] 443) := by
 go_enter Tryz.func236, Tryz.ntmps236
 go_wp2
 go_ret
 exact ⟨rfl, rfl⟩
theorem sort_one (b : Nat) (v : Option Addr) (c : Nat) (w : World) (h : w.cell? ⟨b, 0, none⟩ = some (.iface 404 (.slice v 1 c))) :
 Calls Tryz.prog 185 #[.iface 441 (.pointer (some ⟨b, 0, none⟩))] w fun e w' => e = .returned (.tuple #[]) ∧ w' = w := by
 have hm := rev_len b v 1 c w h
 go_enter Tryz.func185, Tryz.ntmps185
 go_wp2_with (first
  | (go_at_call 412; refine (int_len _ 1 _ _).mono ?_; rintro e w6 ⟨rfl, rfl⟩)
  | fail)
 refine bodyPost_ret (results_none rfl _ _ _) rfl ?_
 exact ⟨rfl, rfl⟩
end
end Go.Proofs.YticcnlpfmekagaaGreat
