/- Part 4 of the proof of the row: Real, Real2, Sink. -/
import Derived.Test.YticcnlpfmekagaaGreatRj00
import Derived.Test.YticcnlpfmekagaaGreatRj03
set_option linter.unusedVariables false
set_option linter.unusedSimpArgs false
set_option maxRecDepth 100000
set_option maxHeartbeats 8000000
namespace Go.Proofs.YticcnlpfmekagaaGreat
section
open Go Go.Proofs Go.RowKit
def Buf (w : World) (rb : Nat) (L : List Value) : Prop := w.heap[rb]? = some (.cells L.toArray 5 (0, 0))
theorem Buf.cell {w : World} {rb : Nat} {pre post : List Value} {x : Value} (h : Buf w rb (pre ++ x :: post)) {k : Nat} (hk : k = pre.length) : w.cell? ⟨rb, k, none⟩ = some x := by
 subst hk; unfold Buf at h; simp [World.cell?, h]
theorem Buf.fz {w : World} {rb : Nat} {L : List Value} (h : Buf w rb L) (k : Nat) : w.frozen? ⟨rb, k, none⟩ = false := by unfold Buf at h; simp [World.frozen?, h]
theorem Buf.set {w : World} {rb : Nat} {pre post : List Value} {x : Value} (h : Buf w rb (pre ++ x :: post)) {k : Nat} (hk : k = pre.length) (v : Value) : Buf (w.setCell ⟨rb, k, none⟩ v) rb (pre ++ v :: post) := by
 subst hk; unfold Buf at *
 simp [World.setCell, Array.getElem?_modify, h]
theorem Buf.kept {w w' : World} {rb : Nat} {L : List Value} {S : List Nat} (h : Buf w rb L) (k : Kept S w w') (hs : rb ∉ S) : Buf w' rb L := k.heap h hs
theorem Buf.alloc {w : World} {rb : Nat} {L : List Value} (h : Buf w rb L) (o : Obj) : Buf (w.alloc o) rb L := ha h
theorem Buf.lt {w : World} {rb : Nat} {L : List Value} (h : Buf w rb L) : rb < w.heap.size := lt_of_heap h
def be16 (x : Int) : List Value := [.int .u8 (x / 256), .int .u8 (x % 256)]
def be32 (x : Int) : List Value := [.int .u8 (x / 16777216), .int .u8 (x / 65536 % 256), .int .u8 (x / 256 % 256), .int .u8 (x % 256)]
theorem Buf.set1 {w : World} {rb k : Nat} {L pre post : List Value} {x : Value} (h : Buf w rb L) (e : L = pre ++ x :: post) (hk : k = pre.length) (v : Value) : Buf (w.setCell ⟨rb, k, none⟩ v) rb (pre ++ v :: post) := by
 subst e; exact h.set hk v
theorem putUint16_any (rb o n c : Nat) (x : Int) (pre post : List Value) (y0 y1 : Value) (w : World) (hb : Buf w rb (pre ++ y0 :: y1 :: post)) (ho : o = pre.length) (hn : 2 ≤ n) (hx : 0 ≤ x) (hx1 : x < 65536)
 (hy1 : ∃ q, y1 = .int .u8 q) :
 Calls Tryz.prog 333 #[.agg #[], .slice (some ⟨rb, o, none⟩) n c, .int .u16 x] w fun e w' => e = .returned (.tuple #[]) ∧ Buf w' rb (pre ++ be16 x ++ post) ∧ Kept [rb] w w' ∧ w'.heap.size = w.heap.size + 1 := by
 obtain ⟨q, rfl⟩ := hy1
 have hlt := hb.lt
 have c0 := hb.cell ho
 have hb1 : Buf w rb ((pre ++ [y0]) ++ .int .u8 q :: post) := by simpa using hb
 have c1 := hb1.cell (k := o + 1) (by simp [ho])
 have f0 := hb.fz o
 have f1 := hb.fz (o + 1)
 have HO := Zhd ho
 clear ho
 go_enter Tryz.func333, Tryz.ntmps333
 go_wp2
 go_end0
 refine ⟨rfl, ?_, (((Kept.refl _ _).setCell _ (by simp)).setCell _ (by simp)).alloc _, by simp⟩
 refine Buf.alloc ?_ _
 have h1 := hb.set1 rfl HO.out (.int .u8 (x / 256))
 have h2 := h1.set1 (k := o + 1) (pre := pre ++ [.int .u8 (x / 256)]) (x := .int .u8 q) (post := post) (by simp) (by simp [HO.out]) (.int .u8 (x % 256))
 simpa [be16] using h2
theorem putUint32_any (rb o n c : Nat) (x : Int) (pre post : List Value) (y0 y1 y2 y3 : Value) (w : World) (hb : Buf w rb (pre ++ y0 :: y1 :: y2 :: y3 :: post)) (ho : o = pre.length) (hn : 4 ≤ n) (hx : 0 ≤ x) (hx1 : x < 4294967296)
 (hy1 : ∃ q, y3 = .int .u8 q) :
 Calls Tryz.prog 334 #[.agg #[], .slice (some ⟨rb, o, none⟩) n c, .int .u32 x] w fun e w' => e = .returned (.tuple #[]) ∧ Buf w' rb (pre ++ be32 x ++ post) ∧ Kept [rb] w w' ∧ w'.heap.size = w.heap.size + 1 := by
 obtain ⟨q, rfl⟩ := hy1
 have hlt := hb.lt
 have c0 := hb.cell ho
 have c1 := Buf.cell (pre := pre ++ [y0]) (k := o + 1) (by simpa using hb) (by simp [ho])
 have c2 := Buf.cell (pre := pre ++ [y0, y1]) (k := o + 2) (by simpa using hb) (by simp [ho])
 have c3 := Buf.cell (pre := pre ++ [y0, y1, y2]) (k := o + 3) (by simpa using hb) (by simp [ho])
 have f0 := hb.fz o
 have f1 := hb.fz (o + 1)
 have f2 := hb.fz (o + 2)
 have f3 := hb.fz (o + 3)
 have HO := Zhd ho
 clear ho
 go_enter Tryz.func334, Tryz.ntmps334
 go_wp2
 go_end0
 refine ⟨rfl, ?_, (((((Kept.refl _ _).setCell _ (by simp)).setCell _ (by simp)).setCell _ (by simp)).setCell _ (by simp)).alloc _, by simp⟩
 refine Buf.alloc ?_ _
 have h1 := hb.set1 rfl HO.out (.int .u8 (x / 16777216))
 have h2 := h1.set1 (k := o + 1) (pre := pre ++ [.int .u8 (x / 16777216)]) (x := y1) (post := y2 :: .int .u8 q :: post) (by simp) (by simp [HO.out]) (.int .u8 (x / 65536 % 256))
 have h3 := h2.set1 (k := o + 2) (pre := pre ++ [.int .u8 (x / 16777216), .int .u8 (x / 65536 % 256)]) (x := y2) (post := .int .u8 q :: post) (by simp) (by simp [HO.out]) (.int .u8 (x / 256 % 256))
 have h4 := h3.set1 (k := o + 3) (pre := pre ++ [.int .u8 (x / 16777216), .int .u8 (x / 65536 % 256), .int .u8 (x / 256 % 256)]) (x := .int .u8 q) (post := post) (by simp) (by simp [HO.out]) (.int .u8 (x % 256))
 simpa [be32] using h4
structure Enc (w : World) (b rb N : Nat) (done : List Value) : Prop where
 at_ : w.heap[b]? = some (.cells #[.slice (some ⟨rb, 0, none⟩) N N, .int .i64 done.length, .slice none 0 0] 200 (0, 0))
 buf : ∃ rest, Buf w rb (done ++ rest) ∧ (done ++ rest).length = N ∧ ∀ v ∈ rest, ∃ q, v = .int .u8 q
 ne : b ≠ rb
theorem Enc.c0 {w : World} {b rb N : Nat} {done : List Value} (h : Enc w b rb N done) : w.cell? ⟨b, 0, none⟩ = some (.slice (some ⟨rb, 0, none⟩) N N) := by have := h.at_; simp [World.cell?, this]
theorem Enc.c1 {w : World} {b rb N : Nat} {done : List Value} (h : Enc w b rb N done) : w.cell? ⟨b, 0 + 1, none⟩ = some (.int .i64 done.length) := by have := h.at_; simp [World.cell?, this]
theorem Enc.fz {w : World} {b rb N : Nat} {done : List Value} (h : Enc w b rb N done) (i : Nat) : w.frozen? ⟨b, i, none⟩ = false := by have := h.at_; simp [World.frozen?, this]
theorem Enc.kept {w w' : World} {b rb N : Nat} {done : List Value} {S : List Nat} (h : Enc w b rb N done) (k : Kept S w w') (h1 : b ∉ S) (h2 : rb ∉ S) : Enc w' b rb N done := by
 obtain ⟨rest, h3, h4⟩ := h.buf
 exact ⟨k.heap h.at_ h1, ⟨rest, h3.kept k h2, h4⟩, h.ne⟩
theorem Enc.step {w w1 : World} {b rb N : Nat} {done bs post : List Value} (h : Enc w b rb N done) (k : Kept [rb] w w1) (hb : Buf w1 rb (done ++ bs ++ post)) (hl : (done ++ bs ++ post).length = N) (hp : ∀ v ∈ post, ∃ q, v = .int .u8 q) (n : Int) (hn : n = done.length + bs.length) :
 Enc (w1.setCell ⟨b, 0 + 1, none⟩ (.int .i64 n)) b rb N (done ++ bs) ∧ Kept [b, rb] w (w1.setCell ⟨b, 0 + 1, none⟩ (.int .i64 n)) := by
 have ha := k.heap h.at_ (by simpa using h.ne)
 refine ⟨⟨?_, ⟨post, ?_, hl, hp⟩, h.ne⟩, (k.mono (by simp)).setCell _ (by simp)⟩
 · subst hn
   simp only [World.setCell, Array.getElem?_modify, ha]
   simp
 · exact hs (by simpa using h.ne.symm) hb
def Puts (w : World) (b rb N : Nat) (done bs : List Value) (w' : World) : Prop := Enc w' b rb N (done ++ bs) ∧ Kept [b, rb] w w'
theorem wrap_u32 (x : Int) : IntKind.u32.wrap x = x % 4294967296 := by simp [IntKind.wrap, IntKind.bits, IntKind.signed]
theorem wrap_u16 (x : Int) : IntKind.u16.wrap x = x % 65536 := by simp [IntKind.wrap, IntKind.bits, IntKind.signed]
theorem four {l : List Value} (h : 4 ≤ l.length) : ∃ a b c d r, l = a :: b :: c :: d :: r := by
 match l, h with
 | a :: b :: c :: d :: r, _ => exact ⟨a, b, c, d, r, rfl⟩
theorem two {l : List Value} (h : 2 ≤ l.length) : ∃ a b r, l = a :: b :: r := by
 match l, h with
 | a :: b :: r, _ => exact ⟨a, b, r, rfl⟩
theorem real_putInt32 (b rb N : Nat) (done : List Value) (x : Int) (w : World) (he : Enc w b rb N done) (hN : N ≤ 1000000000) (hroom : done.length + 4 ≤ N) (hx : -2147483648 ≤ x) (hx1 : x ≤ 2147483647) :
 Calls Tryz.prog 318 #[.pointer (some ⟨b, 0, none⟩), .int .i32 x] w fun e w' => e = .returned (.tuple #[]) ∧ Puts w b rb N done (be32 (x % 4294967296)) w' := by
 have c0 := he.c0
 have c1 := he.c1
 obtain ⟨rest, hbuf, hlen, hu8⟩ := he.buf
 obtain ⟨y0, y1, y2, y3, post, rfl⟩ := four (l := rest) (by simp at hlen; omega)
 generalize hd : done.length = d at c1 hroom
 have i0 : (0 : Int) ≤ (d : Int) := by omega
 have i1 : (d : Int) ≤ (N : Int) := by omega
 have ne : ¬ N = d := by omega
 have hq := hu8 y3 (by simp)
 have Hd := Zhd hd
 have Hl := Zhd hlen; clear hlen
 have hcall := putUint32_any rb d (N - d) (N - d) (IntKind.u32.wrap x) done post y0 y1 y2 y3 w.drew hbuf hd.symm (by omega) (by rw [wrap_u32]; omega) (by rw [wrap_u32]; omega) hq
 have Hcall := Zhd hcall; clear hcall hd
 have hbr := he.ne
 have hS : ∀ w1, Kept [rb] w.drew w1 → w1.cell? ⟨b, 0, none⟩ = some (.slice (some ⟨rb, 0, none⟩) N N) ∧ w1.cell? ⟨b, 0 + 1, none⟩ = some (.int .i64 d) :=
  fun w1 hk => ⟨hk.cell (p := ⟨b, 0, none⟩) c0 (by simpa using hbr), hk.cell (p := ⟨b, 0 + 1, none⟩) c1 (by simpa using hbr)⟩
 have HS := Zhd hS; clear hS
 go_enter Tryz.func318, Tryz.ntmps318
 go_wp2
 go_region_held3 (fun w' => w'.cell? ⟨b, 0, none⟩ = some (.slice (some ⟨rb, 0, none⟩) N N) ∧ w'.cell? ⟨b, 0 + 1, none⟩ = some (.int .i64 d))
  (first | exact HS.out _ hk | go_keep)
  (first | (go_at_call 334; refine Hcall.out.mono ?_; rintro e w1 ⟨rfl, hb1, hk, hsz⟩))
 have c1' := hk.cell (p := ⟨b, 0 + 1, none⟩) c1 (by simpa using hbr)
 have f1' := hk.frz (p := ⟨b, 0 + 1, none⟩) (he.fz _) (lt_of_heap he.at_) (by simpa using hbr)
 go_wp2
 go_end0
 have hst := he.step (bs := be32 (x % 4294967296)) (post := post) (w1 := w1) hk.of_drew (by rw [wrap_u32] at hb1; exact hb1) (by have := Hl.out; simp [be32] at this ⊢; omega) (fun v hv => hu8 v (by simp [hv])) (d + 4) (by rw [Hd.out]; simp [be32])
 exact ⟨rfl, hst⟩
theorem real_putInt16 (b rb N : Nat) (done : List Value) (x : Int) (w : World) (he : Enc w b rb N done) (hN : N ≤ 1000000000) (hroom : done.length + 2 ≤ N) (hx : -32768 ≤ x) (hx1 : x ≤ 32767) :
 Calls Tryz.prog 317 #[.pointer (some ⟨b, 0, none⟩), .int .i16 x] w fun e w' => e = .returned (.tuple #[]) ∧ Puts w b rb N done (be16 (x % 65536)) w' := by
 have c0 := he.c0
 have c1 := he.c1
 obtain ⟨rest, hbuf, hlen, hu8⟩ := he.buf
 obtain ⟨y0, y1, post, rfl⟩ := two (l := rest) (by simp at hlen; omega)
 generalize hd : done.length = d at c1 hroom
 have i0 : (0 : Int) ≤ (d : Int) := by omega
 have i1 : (d : Int) ≤ (N : Int) := by omega
 have ne : ¬ N = d := by omega
 have hq := hu8 y1 (by simp)
 have Hd := Zhd hd
 have Hl := Zhd hlen; clear hlen
 have hcall := putUint16_any rb d (N - d) (N - d) (IntKind.u16.wrap x) done post y0 y1 w.drew hbuf hd.symm (by omega) (by rw [wrap_u16]; omega) (by rw [wrap_u16]; omega) hq
 have Hcall := Zhd hcall; clear hcall hd
 have hbr := he.ne
 have hS : ∀ w1, Kept [rb] w.drew w1 → w1.cell? ⟨b, 0, none⟩ = some (.slice (some ⟨rb, 0, none⟩) N N) ∧ w1.cell? ⟨b, 0 + 1, none⟩ = some (.int .i64 d) :=
  fun w1 hk => ⟨hk.cell (p := ⟨b, 0, none⟩) c0 (by simpa using hbr), hk.cell (p := ⟨b, 0 + 1, none⟩) c1 (by simpa using hbr)⟩
 have HS := Zhd hS; clear hS
 go_enter Tryz.func317, Tryz.ntmps317
 go_wp2
 go_region_held3 (fun w' => w'.cell? ⟨b, 0, none⟩ = some (.slice (some ⟨rb, 0, none⟩) N N) ∧ w'.cell? ⟨b, 0 + 1, none⟩ = some (.int .i64 d))
  (first | exact HS.out _ hk | go_keep)
  (first | (go_at_call 333; refine Hcall.out.mono ?_; rintro e w1 ⟨rfl, hb1, hk, hsz⟩))
 have c1' := hk.cell (p := ⟨b, 0 + 1, none⟩) c1 (by simpa using hbr)
 have f1' := hk.frz (p := ⟨b, 0 + 1, none⟩) (he.fz _) (lt_of_heap he.at_) (by simpa using hbr)
 go_wp2
 go_end0
 have hst := he.step (bs := be16 (x % 65536)) (post := post) (w1 := w1) hk.of_drew (by rw [wrap_u16] at hb1; exact hb1) (by have := Hl.out; simp [be16] at this ⊢; omega) (fun v hv => hu8 v (by simp [hv])) (d + 2) (by rw [Hd.out]; simp [be16])
 exact ⟨rfl, hst⟩
theorem Puts.trans {w w1 w2 : World} {b rb N : Nat} {done b1 b2 : List Value} (h : Puts w b rb N done b1 w1) (h' : Puts w1 b rb N (done ++ b1) b2 w2) : Puts w b rb N done (b1 ++ b2) w2 :=
 ⟨by rw [← List.append_assoc]; exact h'.1, h.2.trans h'.2 (fun _ h => h) (fun _ h _ => h)⟩
theorem info5 : (Tryz.prog.info? 5).map (·.size) = some 1 := by kernel_rfl
theorem real_putArrayLength (b rb N : Nat) (done : List Value) (n : Nat) (w : World) (he : Enc w b rb N done) (hN : N ≤ 1000000000) (hroom : done.length + 4 ≤ N) (hx : n ≤ 1000000000) :
 Calls Tryz.prog 311 #[.pointer (some ⟨b, 0, none⟩), .int .i64 n] w fun e w' => e = .returned .nilIface ∧ Puts w b rb N done (be32 n) w' := by
 go_enter Tryz.func311, Tryz.ntmps311
 go_wp2_with fail
 refine (real_putInt32 b rb N done n w he hN hroom (by omega) (by omega)).mono ?_
 rintro e w1 ⟨rfl, h1⟩
 rw [Int.emod_eq_of_lt (by omega) (by omega)] at h1
 go_wp2
 go_ret
 exact ⟨rfl, h1⟩
theorem take_app {l : List Value} {k : Nat} (h : k ≤ l.length) : ∃ mid post, l = mid ++ post ∧ mid.length = k := ⟨l.take k, l.drop k, (List.take_append_drop k l).symm, by simp [h]⟩
theorem real_putString (b rb N : Nat) (done : List Value) (s : ByteArray) (w : World) (he : Enc w b rb N done) (hN : N ≤ 1000000000) (hroom : done.length + 2 + s.size ≤ N) (hx : s.size ≤ 32767) :
 Calls Tryz.prog 327 #[.pointer (some ⟨b, 0, none⟩), .string s] w fun e w' => e = .returned .nilIface ∧ Puts w b rb N done (be16 s.size ++ byteCells s) w' := by
 go_enter Tryz.func327, Tryz.ntmps327
 go_wp2_with fail
 refine (real_putInt16 b rb N done s.size w he hN (by omega) (by omega) (by omega)).mono ?_
 rintro e w1 ⟨rfl, h1⟩
 rw [Int.emod_eq_of_lt (by omega) (by omega)] at h1
 have he1 := h1.1
 have c0 := he1.c0
 have c1 := he1.c1
 obtain ⟨rest, hbuf, hlen, hu8⟩ := he1.buf
 obtain ⟨mid, post, rfl, hmid⟩ := take_app (l := rest) (k := s.size) (by simp [be16] at hlen; omega)
 have hroom' : (done ++ be16 ↑s.size).length + s.size ≤ N := by simp [be16]; omega
 generalize hd : (done ++ be16 ↑s.size).length = d at c1 hroom'
 have i0 : (0 : Int) ≤ (d : Int) := by omega
 have i1 : (d : Int) ≤ (N : Int) := by omega
 have hbr := he.ne
 have hS : ∀ w2, Kept [rb] w1.drew w2 → w2.cell? ⟨b, 0, none⟩ = some (.slice (some ⟨rb, 0, none⟩) N N) ∧ w2.cell? ⟨b, 0 + 1, none⟩ = some (.int .i64 d) :=
  fun w1 hk => ⟨hk.cell (p := ⟨b, 0, none⟩) c0 (by simpa using hbr), hk.cell (p := ⟨b, 0 + 1, none⟩) c1 (by simpa using hbr)⟩
 have HS := Zhd hS; clear hS
 have Hd := Zhd hd; clear hd
 have Hl := Zhd hlen; clear hlen
 have Hm := Zhd hmid; clear hmid
 have hbuf' : w1.heap[rb]? = some (.cells ((done ++ be16 ↑s.size) ++ mid ++ post).toArray 5 (0, 0)) := by rw [List.append_assoc]; exact hbuf
 have HB := Zhd hbuf'; clear hbuf' hbuf
 have hfin : ∀ w2 : World, w2.heap[rb]? = some (.cells ((done ++ be16 ↑s.size) ++ byteCells s ++ post).toArray 5 (0, 0)) → Kept [rb] w1.drew w2 →
  Puts w b rb N done (be16 s.size ++ byteCells s) (w2.setCell ⟨b, 0 + 1, none⟩ (.int .i64 (d + s.size))) := fun w2 hb2 hk => by
  refine h1.trans ?_
  refine he1.step (bs := byteCells s) (post := post) hk.of_drew hb2 ?_ (fun v hv => hu8 v (by simp [hv])) _ (by rw [Hd.out, byteCells_length])
  have h1 := Hl.out
  have h2 := Hm.out
  have h3 := byteCells_length s
  simp at h1 ⊢; omega
 have HF := Zhd hfin; clear hfin
 have hf1 : ∀ w2 : World, Kept [rb] w1.drew w2 → w2.frozen? ⟨b, 0 + 1, none⟩ = false := fun w2 hk => hk.frz (he1.fz _) (lt_of_heap he1.at_) (by simpa using hbr)
 have HZ := Zhd hf1; clear hf1
 by_cases hnd : N = d
 · have h0 : s.size = 0 := by omega
   have H0 := Zhd h0; clear h0
   have hnd' : d = N := hnd.symm
   clear hnd
   subst hnd'
   go_wp2
   go_region_held3 (fun w' => w'.cell? ⟨b, 0, none⟩ = some (.slice (some ⟨rb, 0, none⟩) d d) ∧ w'.cell? ⟨b, 0 + 1, none⟩ = some (.int .i64 d))
    (first | exact HS.out _ hk | go_keep)
    (first | (refine sl_copy1 rfl rfl Tryz.underlying28 info5 rfl rfl HB.out (Src.ofString _ Tryz.underlying9 s) Hm.out (by have := H0.out; omega) (fun hh => by have := H0.out; omega) ?_; intro w2 hb2 hk hsz))
   obtain ⟨c0', c1'⟩ := HS.out _ hk
   have f1' := HZ.out _ hk
   go_wp2
   go_ret
   exact ⟨rfl, HF.out _ hb2 hk⟩
 · go_wp2
   go_region_held3 (fun w' => w'.cell? ⟨b, 0, none⟩ = some (.slice (some ⟨rb, 0, none⟩) N N) ∧ w'.cell? ⟨b, 0 + 1, none⟩ = some (.int .i64 d))
    (first | exact HS.out _ hk | go_keep)
    (first | (refine sl_copy1 rfl rfl Tryz.underlying28 info5 rfl rfl HB.out (Src.ofString _ Tryz.underlying9 s) Hm.out (by omega) (fun _ => by rw [Hd.out]) ?_; intro w2 hb2 hk hsz))
   obtain ⟨c0', c1'⟩ := HS.out _ hk
   have f1' := HZ.out _ hk
   go_wp2
   go_ret
   exact ⟨rfl, HF.out _ hb2 hk⟩
end
section
open Go Go.Proofs Go.RowKit
def i32s (xs : List Int) : List Value := xs.map (Value.int .i32)
def be32s (xs : List Int) : List Value := xs.flatMap (fun x => be32 (x % 4294967296))
theorem be32s_take (xs : List Int) (k : Nat) (x : Int) (h : xs[k]? = some x) : be32s (xs.take (k + 1)) = be32s (xs.take k) ++ be32 (x % 4294967296) := by
 have hk : k < xs.length := (List.getElem?_eq_some_iff.1 h).1
 have hx : xs[k] = x := (List.getElem?_eq_some_iff.1 h).2
 rw [List.take_succ_eq_append_getElem hk, hx]
 simp [be32s]
theorem be32s_length (xs : List Int) : (be32s xs).length = 4 * xs.length := by
 induction xs with
 | nil => rfl
 | cons x xs ih => simp only [be32s, List.flatMap_cons, List.length_append, List.length_cons] at *; rw [ih]; simp [be32]; omega
def isI32 (x : Int) : Prop := -2147483648 ≤ x ∧ x ≤ 2147483647
theorem SlAt.cases {w : World} {sz : Nat} {a : Option Addr} {n m c : Nat} {cs : List Value} (h : SlAt w sz (.slice a n c) m cs) : n = m ∧ ((True ∧ n = 0 ∧ cs = []) ∨ ∃ g off, a = some ⟨g, off, none⟩ ∧ ∀ j u, cs[j]? = some u → w.cell? ⟨g, off + j, none⟩ = some u) := by
 obtain ⟨h1, h2, ⟨a', c', h3, h4⟩ | ⟨g, off, cap, h3, h4⟩⟩ := h
 · cases h3; exact ⟨h4.symm, .inl ⟨trivial, rfl, List.eq_nil_of_length_eq_zero (by rw [h1, h4]; simp)⟩⟩
 · cases h3; exact ⟨rfl, .inr ⟨g, off, rfl, h4⟩⟩
theorem real_putInt32Array (b rb N : Nat) (done : List Value) (a : Option Addr) (c : Nat) (xs : List Int) (w : World) (he : Enc w b rb N done) (hN : N ≤ 1000000000) (hroom : done.length + 4 + 4 * xs.length ≤ N)
 (hs : SlAt w 1 (.slice a xs.length c) xs.length (i32s xs)) (hx : ∀ x ∈ xs, isI32 x) (ho : ∀ g, (Value.slice a xs.length c).ownBlock = some g → g ≠ b ∧ g ≠ rb) :
 Calls Tryz.prog 319 #[.pointer (some ⟨b, 0, none⟩), .slice a xs.length c] w fun e w' => e = .returned .nilIface ∧ Puts w b rb N done (be32 xs.length ++ be32s xs) w' := by
 generalize hn : xs.length = n at *
 obtain ⟨_, hcase⟩ := hs.cases
 have Hn := Zhd hn
 rcases hcase with ⟨_, h0, _⟩ | ⟨g, off, rfl, hcell⟩
 · have H0 := Zhd h0; clear h0
   go_enter Tryz.func319, Tryz.ntmps319
   go_wp2_with fail
   refine (real_putArrayLength b rb N done n w he hN (by omega) (by omega)).mono ?_
   rintro e w1 ⟨rfl, h1⟩
   clear hn
   go_wp2_with fail
   go_loopw [17] (fun i wr => ∃ k : Nat, k ≤ n ∧ i = .int .i64 k ∧ Puts w b rb N done (be32 n ++ be32s (xs.take k)) wr) (fun i _ => n - (intOf i).toNat)
   case atStart => exact ⟨0, Nat.zero_le _, rfl, by simpa [be32s] using h1⟩
   case round =>
    obtain ⟨k, hk, rfl, hp⟩ := hrel
    have hge : ¬ k < n := by have := H0.out; omega
    go_wp2
    go_ret
    rw [List.take_of_length_le (by have := Hn.out; omega)] at hp
    exact ⟨rfl, hp⟩
 · have hob := ho g rfl
   go_enter Tryz.func319, Tryz.ntmps319
   go_wp2_with fail
   refine (real_putArrayLength b rb N done n w he hN (by omega) (by omega)).mono ?_
   rintro e w1 ⟨rfl, h1⟩
   clear hn
   have HC := Zhd hcell; clear hcell
   have HO := Zhd hob; clear hob
   have HX := Zhd hx; clear hx
   clear ho hs
   go_wp2_with fail
   go_loopw [17] (fun i wr => ∃ k : Nat, k ≤ n ∧ i = .int .i64 k ∧ Puts w b rb N done (be32 n ++ be32s (xs.take k)) wr) (fun i _ => n - (intOf i).toNat)
   case atStart => exact ⟨0, Nat.zero_le _, rfl, by simpa [be32s] using h1⟩
   case round =>
    obtain ⟨k, hk, rfl, hp⟩ := hrel
    by_cases hlt : k < n
    · have hkx : ∃ x, xs[k]? = some x := ⟨_, List.getElem?_eq_getElem (by have := Hn.out; omega)⟩
      obtain ⟨x, hkx⟩ := hkx
      have hxr := HX.out x (List.mem_of_getElem? hkx)
      have hc1 := hp.2.cell (p := ⟨g, off + k, none⟩) (HC.out k (.int .i32 x) (by simp [i32s, hkx])) (by have := HO.out; simp [this.1, this.2])
      have HK := Zhd hkx; clear hkx
      have HXR := Zhd hxr; clear hxr
      have hcall := real_putInt32 b rb N (done ++ (be32 n ++ be32s (xs.take k))) x wr hp.1 hN (by rw [List.length_append, List.length_append, be32s_length]; simp [be32]; have := Hn.out; omega) HXR.out.1 HXR.out.2
      have HCall := Zhd hcall; clear hcall
      go_wp2_with fail
      refine HCall.out.mono ?_
      rintro e w2 ⟨rfl, h2⟩
      have h3 : Puts w b rb N done (be32 n ++ be32s (xs.take (k + 1))) w2 := by
       have := hp.trans h2
       rwa [be32s_take xs k x HK.out, ← List.append_assoc]
      go_wp2
      go_roundw
      case rel => exact ⟨k + 1, by omega, by go_num, h3⟩
      case measure => simp [intOf]; omega
    · go_wp2
      go_ret
      rw [List.take_of_length_le (by have := Hn.out; omega)] at hp
      exact ⟨rfl, hp⟩
end
section
open Go Go.Proofs Go.RowKit
def encStr (s : ByteArray) : List Value := be16 s.size ++ byteCells s
def encInts (xs : List Int) : List Value := be32 xs.length ++ be32s xs
structure IsMeth (T : TypeId) (name : String) (f : FuncId) : Prop where
 m : ∀ (a : Addr) (w : World), (method 643 T (.pointer (some a)) name).run Tryz.prog w = .ok (f, .pointer (some a)) w
 n : ∀ (a : Addr) (w : World), (nilAhead 643 T (.pointer (some a)) name).run Tryz.prog w = .ok (some false) w
 c : ∀ (args : Array Value) (w : World), (callFunc f args).run Tryz.prog w = .ok (.enter f args) w
structure Sink where
 T : TypeId
 b : Nat
 St : List Value → World → Prop
 own : List Nat
 max : Nat
 hmax : max ≤ 100000000
 kept : ∀ {d w w' S}, St d w → Kept S w w' → (∀ x ∈ own, x ∉ S) → St d w'
 drew : ∀ {d w}, St d w → St d w.drew
 lt : ∀ {d w}, St d w → ∀ x ∈ own, x < w.heap.size
 fI16 : FuncId
 fI32 : FuncId
 fArr : FuncId
 fStr : FuncId
 fInts : FuncId
 mI16 : IsMeth T "pub-kestrel/pub/sarama.putInt16" fI16
 mI32 : IsMeth T "pub-kestrel/pub/sarama.putInt32" fI32
 mArr : IsMeth T "pub-kestrel/pub/sarama.putArrayLength" fArr
 mStr : IsMeth T "pub-kestrel/pub/sarama.putString" fStr
 mInts : IsMeth T "pub-kestrel/pub/sarama.putInt32Array" fInts
 cI16 : ∀ {d w} (x : Int), St d w → d.length + 2 ≤ max → -32768 ≤ x → x ≤ 32767 → Calls Tryz.prog fI16 #[.pointer (some ⟨b, 0, none⟩), .int .i16 x] w fun e w' => e = .returned (.tuple #[]) ∧ St (d ++ be16 (x % 65536)) w' ∧ Kept own w w'
 cI32 : ∀ {d w} (x : Int), St d w → d.length + 4 ≤ max → isI32 x → Calls Tryz.prog fI32 #[.pointer (some ⟨b, 0, none⟩), .int .i32 x] w fun e w' => e = .returned (.tuple #[]) ∧ St (d ++ be32 (x % 4294967296)) w' ∧ Kept own w w'
 cArr : ∀ {d w} (n : Nat), St d w → d.length + 4 ≤ max → n ≤ 100000000 → Calls Tryz.prog fArr #[.pointer (some ⟨b, 0, none⟩), .int .i64 n] w fun e w' => e = .returned .nilIface ∧ St (d ++ be32 n) w' ∧ Kept own w w'
 cStr : ∀ {d w} (s : ByteArray), St d w → d.length + (encStr s).length ≤ max → s.size ≤ 32767 → Calls Tryz.prog fStr #[.pointer (some ⟨b, 0, none⟩), .string s] w fun e w' => e = .returned .nilIface ∧ St (d ++ encStr s) w' ∧ Kept own w w'
 cInts : ∀ {d w} (a : Option Addr) (c : Nat) (xs : List Int), St d w → d.length + (encInts xs).length ≤ max → SlAt w 1 (.slice a xs.length c) xs.length (i32s xs) → (∀ x ∈ xs, isI32 x) → (∀ g, (Value.slice a xs.length c).ownBlock = some g → g ∉ own) →
  Calls Tryz.prog fInts #[.pointer (some ⟨b, 0, none⟩), .slice a xs.length c] w fun e w' => e = .returned .nilIface ∧ St (d ++ encInts xs) w' ∧ Kept own w w'
theorem encStr_length (s : ByteArray) : (encStr s).length = 2 + s.size := by simp [encStr, be16, byteCells_length]; omega
theorem encInts_length (xs : List Int) : (encInts xs).length = 4 + 4 * xs.length := by simp [encInts, be32, be32s_length]; omega
def prepSink (b : Nat) : Sink where
 T := 205
 b := b
 St := fun d w => Prep w b d.length
 own := [b]
 max := 100000000
 hmax := by omega
 kept := fun h k hs => h.kept k (hs b (by simp))
 drew := fun h => h
 lt := fun h x hx => by simp at hx; subst hx; exact lt_of_heap h
 fI16 := 291
 fI32 := 292
 fArr := 285
 fStr := 301
 fInts := 293
 mI16 := ⟨fun _ _ => by kernel_rfl, fun _ _ => by kernel_rfl, fun _ _ => by kernel_rfl⟩
 mI32 := ⟨fun _ _ => by kernel_rfl, fun _ _ => by kernel_rfl, fun _ _ => by kernel_rfl⟩
 mArr := ⟨fun _ _ => by kernel_rfl, fun _ _ => by kernel_rfl, fun _ _ => by kernel_rfl⟩
 mStr := ⟨fun _ _ => by kernel_rfl, fun _ _ => by kernel_rfl, fun _ _ => by kernel_rfl⟩
 mInts := ⟨fun _ _ => by kernel_rfl, fun _ _ => by kernel_rfl, fun _ _ => by kernel_rfl⟩
 cI16 := fun x h hm h1 h2 => (prep_putInt16 b _ x _ h (by omega) (by omega)).mono fun e w' ⟨h1, h2⟩ => ⟨h1, by have := h2.prep; simpa [be16] using this, h2.kept⟩
 cI32 := fun x h hm hx => (prep_putInt32 b _ x _ h (by omega) (by omega)).mono fun e w' ⟨h1, h2⟩ => ⟨h1, by have := h2.prep; simpa [be32] using this, h2.kept⟩
 cArr := fun n h hm hx => (prep_putArrayLength b _ _ _ h (by omega) (by omega) (by omega)).mono fun e w' ⟨h1, h2⟩ => ⟨h1, by have := h2.prep; simpa [be32] using this, h2.kept⟩
 cStr := fun s h hm hx => (prep_putString b _ s _ h (by omega) (by omega) hx).mono fun e w' ⟨h1, h2⟩ => ⟨h1, by have := h2.prep; rw [List.length_append, encStr_length]; simpa using this, h2.kept⟩
 cInts := fun a c xs h hm hs hx ho => (prep_putInt32Array b _ a _ c _ h (by omega) (by omega) (by rw [encInts_length] at hm; omega)).mono fun e w' ⟨h1, h2⟩ => ⟨h1, by have := h2.prep; rw [List.length_append, encInts_length]; simpa using this, h2.kept⟩
def realSink (b rb N : Nat) (hN : N ≤ 100000000) : Sink where
 T := 208
 b := b
 St := fun d w => Enc w b rb N d
 own := [b, rb]
 max := N
 hmax := hN
 kept := fun h k hs => h.kept k (hs b (by simp)) (hs rb (by simp))
 drew := fun h => ⟨h.at_, h.buf, h.ne⟩
 lt := fun h x hx => by
  obtain ⟨r, h1, _⟩ := h.buf
  simp at hx; rcases hx with rfl | rfl
  · exact lt_of_heap h.at_
  · exact h1.lt
 fI16 := 317
 fI32 := 318
 fArr := 311
 fStr := 327
 fInts := 319
 mI16 := ⟨fun _ _ => by kernel_rfl, fun _ _ => by kernel_rfl, fun _ _ => by kernel_rfl⟩
 mI32 := ⟨fun _ _ => by kernel_rfl, fun _ _ => by kernel_rfl, fun _ _ => by kernel_rfl⟩
 mArr := ⟨fun _ _ => by kernel_rfl, fun _ _ => by kernel_rfl, fun _ _ => by kernel_rfl⟩
 mStr := ⟨fun _ _ => by kernel_rfl, fun _ _ => by kernel_rfl, fun _ _ => by kernel_rfl⟩
 mInts := ⟨fun _ _ => by kernel_rfl, fun _ _ => by kernel_rfl, fun _ _ => by kernel_rfl⟩
 cI16 := fun x h hm h1 h2 => real_putInt16 b rb N _ x _ h (by omega) hm h1 h2
 cI32 := fun x h hm hx => real_putInt32 b rb N _ x _ h (by omega) hm hx.1 hx.2
 cArr := fun n h hm hx => real_putArrayLength b rb N _ n _ h (by omega) hm (by omega)
 cStr := fun s h hm hx => real_putString b rb N _ s _ h (by omega) (by rw [encStr_length] at hm; omega) hx
 cInts := fun a c xs h hm hs hx ho => real_putInt32Array b rb N _ a c xs _ h (by omega) (by rw [encInts_length] at hm; omega) hs hx (fun g hg => by have := ho g hg; simpa using this)
end
end Go.Proofs.YticcnlpfmekagaaGreat
