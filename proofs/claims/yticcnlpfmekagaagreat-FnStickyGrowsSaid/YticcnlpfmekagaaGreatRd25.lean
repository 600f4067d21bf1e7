/- Part 25 of 51 of the proof of the row: the texts Sink2. -/
import Derived.Test.YticcnlpfmekagaaGreatRd12
namespace Go.Proofs.YticcnlpfmekagaaGreat
open Go Go.Proofs Go.RowKit
set_option linter.unusedVariables false
set_option linter.unusedSimpArgs false

/-! ## Both encoders, more: bytes, lists of texts, a text or none -/

def encData (a : Option Addr) (data : List Value) : List Value := match a with
  | none => be32 4294967295
  | some _ => be32 data.length ++ data
def encStrs (l : List ByteArray) : List Value := be32 l.length ++ l.flatMap encStr
def encNStr : Option ByteArray → List Value
  | none => be16 65535
  | some s => encStr s
def U8s (data : List Value) : Prop := ∀ u ∈ data, ∃ q, u = Value.int .u8 q

set_option maxRecDepth 100000 in
set_option maxHeartbeats 400000 in
theorem real_putRawBytes (b rb N : Nat) (done : List Value) (a : Option Addr) (c : Nat) (data : List Value) (w : World) (he : Enc w b rb N done) (hN : N ≤ 1000000000) (hroom : done.length + data.length ≤ N)
    (hs : SlAt w 1 (.slice a data.length c) data.length data) :
    Calls Tryz.prog 326 #[.pointer (some ⟨b, 0, none⟩), .slice a data.length c] w fun e w' => e = .returned .nilIface ∧ Puts w b rb N done data w' := by
  have c0 := he.c0
  have c1 := he.c1
  obtain ⟨rest, hbuf, hlen, hu8⟩ := he.buf
  have hsrc := hs.drew.src Tryz.underlying28
  have hdl : data.length = data.length := rfl
  generalize hn : data.length = n at hsrc hroom ⊢
  obtain ⟨mid, post, rfl, hmid⟩ := take_app (l := rest) (k := n) (by simp at hlen; omega)
  generalize hd : done.length = d at c1 hroom
  have i0 : (0 : Int) ≤ (d : Int) := by omega
  have i1 : (d : Int) ≤ (N : Int) := by omega
  have hbr := he.ne
  have hS : ∀ w2, Kept [rb] w.drew w2 → w2.cell? ⟨b, 0, none⟩ = some (.slice (some ⟨rb, 0, none⟩) N N) ∧ w2.cell? ⟨b, 0 + 1, none⟩ = some (.int .i64 d) :=
    fun w1 hk => ⟨hk.cell (p := ⟨b, 0, none⟩) c0 (by simpa using hbr), hk.cell (p := ⟨b, 0 + 1, none⟩) c1 (by simpa using hbr)⟩
  have HS := Lib.hid hS; clear hS
  have Hd := Lib.hid hd; clear hd
  have Hl := Lib.hid hlen; clear hlen
  have Hm := Lib.hid hmid; clear hmid
  have Hn := Lib.hid hn; clear hn
  have HSRC := Lib.hid hsrc; clear hsrc hs hdl
  have hbuf' : w.heap[rb]? = some (.cells (done ++ mid ++ post).toArray 5 (0, 0)) := by rw [List.append_assoc]; exact hbuf
  have HB := Lib.hid hbuf'; clear hbuf' hbuf
  have hfin : ∀ w2 : World, w2.heap[rb]? = some (.cells (done ++ data ++ post).toArray 5 (0, 0)) → Kept [rb] w.drew w2 →
      Puts w b rb N done data (w2.setCell ⟨b, 0 + 1, none⟩ (.int .i64 (d + n))) := fun w2 hb2 hk => by
    refine he.step (bs := data) (post := post) hk.of_drew hb2 ?_ (fun v hv => hu8 v (by simp [hv])) _ (by rw [Hd.out, Hn.out])
    have h1 := Hl.out
    have h2 := Hm.out
    have h3 := Hn.out
    simp at h1 ⊢; omega
  have HF := Lib.hid hfin; clear hfin
  have hf1 : ∀ w2 : World, Kept [rb] w.drew w2 → w2.frozen? ⟨b, 0 + 1, none⟩ = false := fun w2 hk => hk.frz (he.fz _) (lt_of_heap he.at_) (by simpa using hbr)
  have HZ := Lib.hid hf1; clear hf1
  clear hu8 he
  by_cases hnd : N = d
  · have h0 : n = 0 := by omega
    have H0 := Lib.hid h0; clear h0
    have hnd' : d = N := hnd.symm
    clear hnd
    subst hnd'
    go_enter Tryz.func326, Tryz.ntmps326
    go_wp2
    go_region_held3 (fun w' => w'.cell? ⟨b, 0, none⟩ = some (.slice (some ⟨rb, 0, none⟩) d d) ∧ w'.cell? ⟨b, 0 + 1, none⟩ = some (.int .i64 d))
      (first | exact HS.out _ hk | exact HS.out _ (Kept.refl _ _) | fail)
      (first | (refine sl_copy1 rfl rfl Tryz.underlying28 info5 rfl rfl HB.out HSRC.out Hm.out (by have := H0.out; omega) (fun hh => by have := H0.out; omega) ?_; intro w2 hb2 hk hsz) | fail)
    obtain ⟨c0', c1'⟩ := HS.out _ hk
    have f1' := HZ.out _ hk
    go_wp2
    go_ret
    exact ⟨rfl, HF.out _ hb2 hk⟩
  · go_enter Tryz.func326, Tryz.ntmps326
    go_wp2
    go_region_held3 (fun w' => w'.cell? ⟨b, 0, none⟩ = some (.slice (some ⟨rb, 0, none⟩) N N) ∧ w'.cell? ⟨b, 0 + 1, none⟩ = some (.int .i64 d))
      (first | exact HS.out _ hk | exact HS.out _ (Kept.refl _ _) | fail)
      (first | (refine sl_copy1 rfl rfl Tryz.underlying28 info5 rfl rfl HB.out HSRC.out Hm.out (by omega) (fun _ => by rw [Hd.out]) ?_; intro w2 hb2 hk hsz) | fail)
    obtain ⟨c0', c1'⟩ := HS.out _ hk
    have f1' := HZ.out _ hk
    go_wp2
    go_ret
    exact ⟨rfl, HF.out _ hb2 hk⟩

set_option maxRecDepth 100000 in
set_option maxHeartbeats 400000 in
theorem real_putBytes (b rb N : Nat) (done : List Value) (a : Option Addr) (c : Nat) (data : List Value) (w : World) (he : Enc w b rb N done) (hN : N ≤ 100000000) (hroom : done.length + (encData a data).length ≤ N)
    (hs : SlAt w 1 (.slice a data.length c) data.length data) (ho : ∀ g, (Value.slice a data.length c).ownBlock = some g → g ≠ b ∧ g ≠ rb) :
    Calls Tryz.prog 313 #[.pointer (some ⟨b, 0, none⟩), .slice a data.length c] w fun e w' => e = .returned .nilIface ∧ Puts w b rb N done (encData a data) w' := by
  have hn := fun w => Lib.run_eql_slice_nil (P := Tryz.prog) w 28 5 a data.length c 0 0 Tryz.underlying28
  cases a with
  | none =>
    have h1 := real_putInt32 b rb N done (-1) w he (by omega) (by simp [encData, be32] at hroom; omega) (by omega) (by omega)
    rw [show (-1 : Int) % 4294967296 = 4294967295 from by decide] at h1
    have H1 := Lib.hid h1; clear h1
    clear hroom
    go_enter Tryz.func313, Tryz.ntmps313
    go_wp2_with (first | (go_at_call 318; refine H1.out.mono ?_; rintro e w1 ⟨rfl, h2⟩) | fail)
    go_ret
    exact ⟨rfl, h2⟩
  | some ad =>
    have hr : done.length + (4 + data.length) ≤ N := by simp [encData, be32] at hroom; omega
    have h1 := real_putInt32 b rb N done data.length w he (by omega) (by omega) (by omega) (by omega)
    rw [Int.emod_eq_of_lt (by omega) (by omega)] at h1
    have H1 := Lib.hid h1; clear h1
    have h2 := fun (w1 : World) (hp : Puts w b rb N done (be32 data.length) w1) => real_putRawBytes b rb N (done ++ be32 data.length) (some ad) c data w1 hp.1 (by omega) (by simp [be32]; omega) (hs.kept hp.2 (fun g hg => by have := ho g hg; simp; omega))
    have H2 := Lib.hid h2; clear h2
    have hw : IntKind.i32.wrap (data.length : Int) = data.length := by simp [IntKind.wrap, IntKind.bits, IntKind.signed]; omega
    clear hs ho hroom he
    generalize hnn : data.length = n at *
    have HNN := Lib.hid hnn; clear hnn
    go_enter Tryz.func313, Tryz.ntmps313
    go_wp2_with (first
      | (go_at_call 318; refine H1.out.mono ?_; rintro e w1 ⟨rfl, h2⟩)
      | (go_at_call 326; refine (H2.out _ h2).mono ?_; rintro e w2 ⟨rfl, h3⟩)
      | fail)
    go_ret
    refine ⟨rfl, ?_⟩
    show Puts w b rb N done (be32 (data.length : Int) ++ data) w2
    rw [HNN.out]
    exact h2.trans h3

set_option maxRecDepth 100000 in
set_option maxHeartbeats 400000 in
theorem prep_putStrings (b : Nat) (l : List ByteArray) (a : Option Addr) (c : Nat) (d : List Value) (w : World) (h : (prepSink b).St d w) (hroom : d.length + (encStrs l).length ≤ (prepSink b).max) (hs : SlStrs w (.slice a l.length c) l) (hsz : ∀ x ∈ l, x.size ≤ 32767)
    (ho : ∀ g, (Value.slice a l.length c).ownBlock = some g → g ∉ (prepSink b).own) :
    Calls Tryz.prog 302 #[.pointer (some ⟨b, 0, none⟩), .slice a l.length c] w fun e w' => e = .returned .nilIface ∧ (prepSink b).St (d ++ encStrs l) w' ∧ Kept (prepSink b).own w w' := by
  have hmx := (prepSink b).hmax
  have hl4 : (encStrs l).length = 4 + (l.flatMap encStr).length := by simp [encStrs, be32]; omega
  have hln : l.length ≤ (l.flatMap encStr).length := by
    clear hroom hs hsz ho hl4
    induction l with
    | nil => simp
    | cons y l ih => rw [List.flatMap_cons, List.length_append, encStr_length, List.length_cons]; omega
  have hnb : l.length ≤ 100000000 := by omega
  have h1 := (prepSink b).cArr l.length h (by omega) (by omega)
  have H1 := Lib.hid h1; clear h1
  obtain ⟨_, hcase⟩ := hs.2.cases
  have hstep : ∀ (k : Nat) (x : ByteArray) (w' : World), l[k]? = some x → (prepSink b).St (d ++ be32 l.length ++ (l.take k).flatMap encStr) w' → Calls Tryz.prog (prepSink b).fStr #[.pointer (some ⟨b, 0, none⟩), .string x] w' fun e w'' => e = .returned .nilIface ∧ (prepSink b).St (d ++ be32 l.length ++ (l.take (k + 1)).flatMap encStr) w'' ∧ Kept (prepSink b).own w' w'' := by
    intro k x w' hx hst
    obtain ⟨hk', hx'⟩ := List.getElem?_eq_some_iff.1 hx
    have e1 : (l.take (k + 1)).flatMap encStr = (l.take k).flatMap encStr ++ encStr x := by rw [List.take_succ_eq_append_getElem hk', hx', List.flatMap_append]; simp
    have e2 : (l.flatMap encStr).length = ((l.take (k + 1)).flatMap encStr).length + ((l.drop (k + 1)).flatMap encStr).length := by
      conv => lhs; rw [← List.take_append_drop (k + 1) l, List.flatMap_append, List.length_append]
    have := (prepSink b).cStr x hst (by rw [e1, List.length_append] at e2; simp only [List.length_append, be32, List.length_cons, List.length_nil]; omega) (hsz x (List.mem_of_getElem? hx))
    rw [e1, ← List.append_assoc]; exact this
  have HST := Lib.hid hstep; clear hstep
  have HO := Lib.hid ho; clear ho
  have e0 : encStrs l = be32 l.length ++ l.flatMap encStr := rfl
  rw [e0, ← List.append_assoc]
  clear hroom hs hsz hl4 hln e0
  generalize hn : l.length = n at *
  have HN := Lib.hid hn; clear hn
  have HC := Lib.hid hcase; clear hcase
  go_enter Tryz.func302, Tryz.ntmps302
  go_wp2_with (first | (go_at_call 285; refine H1.out.mono ?_; rintro e w1 ⟨rfl, hst1, hk1⟩) | fail)
  go_loopw [18] (fun i wr => ∃ k : Nat, k ≤ n ∧ i = .int .i64 k ∧ (prepSink b).St (d ++ be32 n ++ (l.take k).flatMap encStr) wr ∧ Kept (prepSink b).own w wr) (fun i _ => n - (intOf i).toNat)
  case atStart => exact ⟨0, Nat.zero_le _, rfl, by simpa using hst1, hk1⟩
  case round =>
    obtain ⟨k, hk, rfl, hst, hkr⟩ := hrel
    by_cases hlt : k < n
    · obtain ⟨x, hx⟩ : ∃ x, l[k]? = some x := ⟨_, List.getElem?_eq_getElem (by have := HN.out; omega)⟩
      rcases HC.out with ⟨_, h0, _⟩ | ⟨g, off, hva, hcell⟩
      · omega
      have hgo := HO.out g (by rw [hva]; rfl)
      have c1 : wr.cell? ⟨g, off + k, none⟩ = some (.string x) := hkr.cell (hcell k _ (by simp [strs, hx])) hgo
      have hcall := HST.out k x wr hx hst
      have HCALL := Lib.hid hcall; clear hcall hcell hx hst
      cases hva
      go_wp2_with (first | (go_at_call 301; refine HCALL.out.mono ?_; rintro e w2 ⟨rfl, hst2, hk2⟩) | fail)
      go_roundw
      case rel => exact ⟨k + 1, by omega, by go_num, hst2, hkr.trans hk2 (fun _ h => h) (fun _ h _ => h)⟩
      case measure => simp [intOf]; omega
    · rw [List.take_of_length_le (by have := HN.out; omega)] at hst
      go_wp2
      go_ret
      exact ⟨rfl, hst, hkr⟩

set_option maxRecDepth 100000 in
set_option maxHeartbeats 400000 in
theorem real_putStrings (b rb N : Nat) (hN : N ≤ 100000000) (l : List ByteArray) (a : Option Addr) (c : Nat) (d : List Value) (w : World) (h : (realSink b rb N hN).St d w) (hroom : d.length + (encStrs l).length ≤ (realSink b rb N hN).max) (hs : SlStrs w (.slice a l.length c) l) (hsz : ∀ x ∈ l, x.size ≤ 32767)
    (ho : ∀ g, (Value.slice a l.length c).ownBlock = some g → g ∉ (realSink b rb N hN).own) :
    Calls Tryz.prog 328 #[.pointer (some ⟨b, 0, none⟩), .slice a l.length c] w fun e w' => e = .returned .nilIface ∧ (realSink b rb N hN).St (d ++ encStrs l) w' ∧ Kept (realSink b rb N hN).own w w' := by
  have hmx := (realSink b rb N hN).hmax
  have hl4 : (encStrs l).length = 4 + (l.flatMap encStr).length := by simp [encStrs, be32]; omega
  have hln : l.length ≤ (l.flatMap encStr).length := by
    clear hroom hs hsz ho hl4
    induction l with
    | nil => simp
    | cons y l ih => rw [List.flatMap_cons, List.length_append, encStr_length, List.length_cons]; omega
  have hnb : l.length ≤ 100000000 := by omega
  have h1 := (realSink b rb N hN).cArr l.length h (by omega) (by omega)
  have H1 := Lib.hid h1; clear h1
  obtain ⟨_, hcase⟩ := hs.2.cases
  have hstep : ∀ (k : Nat) (x : ByteArray) (w' : World), l[k]? = some x → (realSink b rb N hN).St (d ++ be32 l.length ++ (l.take k).flatMap encStr) w' → Calls Tryz.prog (realSink b rb N hN).fStr #[.pointer (some ⟨b, 0, none⟩), .string x] w' fun e w'' => e = .returned .nilIface ∧ (realSink b rb N hN).St (d ++ be32 l.length ++ (l.take (k + 1)).flatMap encStr) w'' ∧ Kept (realSink b rb N hN).own w' w'' := by
    intro k x w' hx hst
    obtain ⟨hk', hx'⟩ := List.getElem?_eq_some_iff.1 hx
    have e1 : (l.take (k + 1)).flatMap encStr = (l.take k).flatMap encStr ++ encStr x := by rw [List.take_succ_eq_append_getElem hk', hx', List.flatMap_append]; simp
    have e2 : (l.flatMap encStr).length = ((l.take (k + 1)).flatMap encStr).length + ((l.drop (k + 1)).flatMap encStr).length := by
      conv => lhs; rw [← List.take_append_drop (k + 1) l, List.flatMap_append, List.length_append]
    have := (realSink b rb N hN).cStr x hst (by rw [e1, List.length_append] at e2; simp only [List.length_append, be32, List.length_cons, List.length_nil]; omega) (hsz x (List.mem_of_getElem? hx))
    rw [e1, ← List.append_assoc]; exact this
  have HST := Lib.hid hstep; clear hstep
  have HO := Lib.hid ho; clear ho
  have e0 : encStrs l = be32 l.length ++ l.flatMap encStr := rfl
  rw [e0, ← List.append_assoc]
  clear hroom hs hsz hl4 hln e0
  generalize hn : l.length = n at *
  have HN := Lib.hid hn; clear hn
  have HC := Lib.hid hcase; clear hcase
  go_enter Tryz.func328, Tryz.ntmps328
  go_wp2_with (first | (go_at_call 311; refine H1.out.mono ?_; rintro e w1 ⟨rfl, hst1, hk1⟩) | fail)
  go_loopw [18] (fun i wr => ∃ k : Nat, k ≤ n ∧ i = .int .i64 k ∧ (realSink b rb N hN).St (d ++ be32 n ++ (l.take k).flatMap encStr) wr ∧ Kept (realSink b rb N hN).own w wr) (fun i _ => n - (intOf i).toNat)
  case atStart => exact ⟨0, Nat.zero_le _, rfl, by simpa using hst1, hk1⟩
  case round =>
    obtain ⟨k, hk, rfl, hst, hkr⟩ := hrel
    by_cases hlt : k < n
    · obtain ⟨x, hx⟩ : ∃ x, l[k]? = some x := ⟨_, List.getElem?_eq_getElem (by have := HN.out; omega)⟩
      rcases HC.out with ⟨_, h0, _⟩ | ⟨g, off, hva, hcell⟩
      · omega
      have hgo := HO.out g (by rw [hva]; rfl)
      have c1 : wr.cell? ⟨g, off + k, none⟩ = some (.string x) := hkr.cell (hcell k _ (by simp [strs, hx])) hgo
      have hcall := HST.out k x wr hx hst
      have HCALL := Lib.hid hcall; clear hcall hcell hx hst
      cases hva
      go_wp2_with (first | (go_at_call 327; refine HCALL.out.mono ?_; rintro e w2 ⟨rfl, hst2, hk2⟩) | fail)
      go_roundw
      case rel => exact ⟨k + 1, by omega, by go_num, hst2, hkr.trans hk2 (fun _ h => h) (fun _ h _ => h)⟩
      case measure => simp [intOf]; omega
    · rw [List.take_of_length_le (by have := HN.out; omega)] at hst
      go_wp2
      go_ret
      exact ⟨rfl, hst, hkr⟩

/-- a pointer to a text, or none -/
def PStr (w : World) (p : Value) (o : Option ByteArray) : Prop := (p = .pointer none ∧ o = none) ∨ ∃ g off s, p = .pointer (some ⟨g, off, none⟩) ∧ o = some s ∧ w.cell? ⟨g, off, none⟩ = some (.string s)

set_option maxRecDepth 100000 in
set_option maxHeartbeats 400000 in
theorem prep_putNStr (b : Nat) (p : Value) (o : Option ByteArray) (d : List Value) (w : World) (h : (prepSink b).St d w) (hroom : d.length + (encNStr o).length ≤ (prepSink b).max) (hp : PStr w p o) (hsz : ∀ s, o = some s → s.size ≤ 32767) :
    Calls Tryz.prog 299 #[.pointer (some ⟨b, 0, none⟩), p] w fun e w' => e = .returned .nilIface ∧ (prepSink b).St (d ++ encNStr o) w' ∧ Kept (prepSink b).own w w' := by
  rcases hp with ⟨rfl, rfl⟩ | ⟨g, off, s, rfl, rfl, hc⟩
  · have hpp : Prep w b d.length := h
    have hc := hpp.cell
    have hf := hpp.fz (0 + 1)
    have hd : d.length ≤ 100000000 := by have : (prepSink b).max = 100000000 := rfl; omega
    clear hroom hsz h
    have HP := Lib.hid hpp; clear hpp
    generalize hdl : d.length = n at *
    have HDL := Lib.hid hdl; clear hdl
    go_enter Tryz.func299, Tryz.ntmps299
    go_wp2
    go_ret
    have h2 := counts_set .nilIface (k := 2) HP.out
    refine ⟨rfl, ?_, h2.2.kept⟩
    have := h2.2.prep
    show Prep _ b (d ++ be16 65535).length
    rw [List.length_append, HDL.out]; simpa [be16] using this
  · have h1 := (prepSink b).cStr s h hroom (hsz s rfl)
    have H1 := Lib.hid h1; clear h1
    clear hroom hsz h
    go_enter Tryz.func299, Tryz.ntmps299
    go_wp2_with (first | (go_at_call 301; refine H1.out.mono ?_; rintro e w1 ⟨rfl, h2, h3⟩) | fail)
    go_ret
    exact ⟨rfl, h2, h3⟩

set_option maxRecDepth 100000 in
set_option maxHeartbeats 400000 in
theorem real_putNStr (b rb N : Nat) (hN : N ≤ 100000000) (p : Value) (o : Option ByteArray) (d : List Value) (w : World) (h : (realSink b rb N hN).St d w) (hroom : d.length + (encNStr o).length ≤ (realSink b rb N hN).max) (hp : PStr w p o) (hsz : ∀ s, o = some s → s.size ≤ 32767) :
    Calls Tryz.prog 325 #[.pointer (some ⟨b, 0, none⟩), p] w fun e w' => e = .returned .nilIface ∧ (realSink b rb N hN).St (d ++ encNStr o) w' ∧ Kept (realSink b rb N hN).own w w' := by
  rcases hp with ⟨rfl, rfl⟩ | ⟨g, off, s, rfl, rfl, hc⟩
  · have h1 := (realSink b rb N hN).cI16 (-1) h (by simpa [encNStr, be16] using hroom) (by omega) (by omega)
    rw [show (-1 : Int) % 65536 = 65535 from by decide] at h1
    have H1 := Lib.hid h1; clear h1
    clear hroom hsz h
    go_enter Tryz.func325, Tryz.ntmps325
    go_wp2_with (first | (go_at_call 317; refine H1.out.mono ?_; rintro e w1 ⟨rfl, h2, h3⟩) | fail)
    go_ret
    exact ⟨rfl, h2, h3⟩
  · have h1 := (realSink b rb N hN).cStr s h hroom (hsz s rfl)
    have H1 := Lib.hid h1; clear h1
    clear hroom hsz h
    go_enter Tryz.func325, Tryz.ntmps325
    go_wp2_with (first | (go_at_call 327; refine H1.out.mono ?_; rintro e w1 ⟨rfl, h2, h3⟩) | fail)
    go_ret
    exact ⟨rfl, h2, h3⟩

structure Sink2 extends Sink where
  fBytes : FuncId
  fStrs : FuncId
  fNStr : FuncId
  mBytes : IsMeth T "pub-kestrel/pub/sarama.putBytes" fBytes
  mStrs : IsMeth T "pub-kestrel/pub/sarama.putStringArray" fStrs
  mNStr : IsMeth T "pub-kestrel/pub/sarama.putNullableString" fNStr
  cBytes : ∀ {d w} (a : Option Addr) (c : Nat) (data : List Value), St d w → d.length + (encData a data).length ≤ max → SlAt w 1 (.slice a data.length c) data.length data → (∀ g, (Value.slice a data.length c).ownBlock = some g → g ∉ own) →
    Calls Tryz.prog fBytes #[.pointer (some ⟨b, 0, none⟩), .slice a data.length c] w fun e w' => e = .returned .nilIface ∧ St (d ++ encData a data) w' ∧ Kept own w w'
  cStrs : ∀ {d w} (a : Option Addr) (c : Nat) (l : List ByteArray), St d w → d.length + (encStrs l).length ≤ max → SlStrs w (.slice a l.length c) l → (∀ x ∈ l, x.size ≤ 32767) → (∀ g, (Value.slice a l.length c).ownBlock = some g → g ∉ own) →
    Calls Tryz.prog fStrs #[.pointer (some ⟨b, 0, none⟩), .slice a l.length c] w fun e w' => e = .returned .nilIface ∧ St (d ++ encStrs l) w' ∧ Kept own w w'
  cNStr : ∀ {d w} (p : Value) (o : Option ByteArray), St d w → d.length + (encNStr o).length ≤ max → PStr w p o → (∀ s, o = some s → s.size ≤ 32767) →
    Calls Tryz.prog fNStr #[.pointer (some ⟨b, 0, none⟩), p] w fun e w' => e = .returned .nilIface ∧ St (d ++ encNStr o) w' ∧ Kept own w w'

def prepSink2 (b : Nat) : Sink2 where
  toSink := prepSink b
  fBytes := 287
  fStrs := 302
  fNStr := 299
  mBytes := ⟨fun _ _ => by kernel_rfl, fun _ _ => by kernel_rfl, fun _ _ => by kernel_rfl⟩
  mStrs := ⟨fun _ _ => by kernel_rfl, fun _ _ => by kernel_rfl, fun _ _ => by kernel_rfl⟩
  mNStr := ⟨fun _ _ => by kernel_rfl, fun _ _ => by kernel_rfl, fun _ _ => by kernel_rfl⟩
  cBytes := fun {d w} a c data h hm hs ho => by
    have hmx : (prepSink b).max = 100000000 := rfl
    have h0 : a = none → data.length = 0 := fun e => by
      subst e
      rcases hs.2.2 with ⟨a', c', h1, h2⟩ | ⟨g', off', c', h1, _⟩
      · exact h2
      · cases h1
    have hl : (encData a data).length = 4 + data.length := by
      cases a with
      | none => simp [encData, be32, h0 rfl]
      | some _ => simp [encData, be32]; omega
    refine (prep_putBytes b d.length a data.length c w h (by omega) (by omega) (by omega) h0).mono fun e w' ⟨h1, h2⟩ => ⟨h1, ?_, h2.kept⟩
    have := h2.prep
    show Prep _ b (d ++ encData a data).length
    rw [List.length_append, hl]; simpa using this
  cStrs := fun a c l h hm hs hz ho => prep_putStrings b l a c _ _ h hm hs hz ho
  cNStr := fun p o h hm hp hz => prep_putNStr b p o _ _ h hm hp hz

def realSink2 (b rb N : Nat) (hN : N ≤ 100000000) : Sink2 where
  toSink := realSink b rb N hN
  fBytes := 313
  fStrs := 328
  fNStr := 325
  mBytes := ⟨fun _ _ => by kernel_rfl, fun _ _ => by kernel_rfl, fun _ _ => by kernel_rfl⟩
  mStrs := ⟨fun _ _ => by kernel_rfl, fun _ _ => by kernel_rfl, fun _ _ => by kernel_rfl⟩
  mNStr := ⟨fun _ _ => by kernel_rfl, fun _ _ => by kernel_rfl, fun _ _ => by kernel_rfl⟩
  cBytes := fun {d w} a c data h hm hs ho => real_putBytes b rb N d a c data w h hN hm hs (fun g hg => by have := ho g hg; simpa [realSink] using this)
  cStrs := fun a c l h hm hs hz ho => real_putStrings b rb N hN l a c _ _ h hm hs hz ho
  cNStr := fun p o h hm hp hz => real_putNStr b rb N hN p o _ _ h hm hp hz

set_option maxRecDepth 100000 in
set_option maxHeartbeats 1000000 in
theorem encode2_any (T : TypeId) (f : FuncId) (ad : Addr) (hmeth : IsMeth T "pub-kestrel/pub/sarama.encode" f) (hT : NoFlex T) (w : World) (Bs : List Value → Prop) (len : Nat) (hlen : ∀ bs, Bs bs → bs.length = len) (hle : len ≤ 100000000)
    (henc : ∀ (s : Sink2) (w' : World), Kept [] w w' → (∀ x ∈ s.own, w.heap.size ≤ x) → s.St [] w' → len ≤ s.max →
      Calls Tryz.prog f #[.pointer (some ad), .iface s.T (.pointer (some ⟨s.b, 0, none⟩))] w' fun e w'' => e = .returned .nilIface ∧ ∃ bs, Bs bs ∧ s.St bs w'' ∧ Kept s.own w' w'') :
    Calls Tryz.prog 80 #[.iface T (.pointer (some ad))] w fun e w' => ∃ rb bs, e = .returned (.tuple #[.slice (some ⟨rb, 0, none⟩) len len, .nilIface]) ∧ Bs bs ∧ Buf w' rb bs ∧ Kept [] w w' ∧ w.heap.size ≤ rb := by
  have hmt := hmeth.m
  have hnl := hmeth.n
  have hcf := hmeth.c
  have hmk := make_bytes len hle
  have HE := Lib.hid henc; clear henc
  have HL := Lib.hid hlen; clear hlen
  have HT := Lib.hid hT; clear hT
  have hp0 : Prep ((w.alloc (.cells #[.slice none 0 0, .int .i64 0] 198)).alloc (.cells #[.slice none 0 0, .int .i64 0, .slice none 0 0] 200)).drew w.heap.size 0 := by
    unfold Prep
    exact ha (heap_alloc_new w _)
  have HP0 := Lib.hid hp0; clear hp0
  go_enter Tryz.func80, Tryz.ntmps80
  go_wp2
  go_region_held3 (fun w' => True) (first | exact trivial)
    (first | (go_at_call 106; refine (flexEnc _ _ _ HT.out _).mono ?_; rintro e w1 ⟨rfl, rfl⟩) | (refine (HE.out (prepSink2 w.heap.size) _ (((Kept.refl [] w).alloc _).alloc _).drew (by simp [prepSink2, prepSink]) HP0.out hle).mono ?_; rintro e w1 ⟨rfl, bs, hbs, hst1, hk1⟩))
  all_goals
    have hk1 := hk1.of_drew
    have hp1 : Prep w1 w.heap.size len := by have := HL.out bs hbs; rw [← this]; exact hst1
    have hr1 : w1.heap[w.heap.size + 1]? = some (.cells #[.slice none 0 0, .int .i64 0, .slice none 0 0] 200 (0, 0)) := by
      refine hk1.heap ?_ (by simp [prepSink2, prepSink])
      have := heap_alloc_new (w.alloc (.cells #[.slice none 0 0, .int .i64 0] 198)) (.cells #[.slice none 0 0, .int .i64 0, .slice none 0 0] 200)
      simpa using this
    have hk01 : Kept [] w w1 := ((((Kept.refl [] w).alloc _).alloc _).trans hk1 (U := []) (by simp) (by simp [prepSink2, prepSink]))
    have hsz1 := hk1.size
    simp only [World.size_alloc] at hsz1
    have cl : w1.cell? ⟨w.heap.size, 1, none⟩ = some (.int .i64 len) := hp1.cell
    have cr : w1.cell? ⟨w.heap.size + 1, 0, none⟩ = some (.slice none 0 0) := by simp [World.cell?, hr1]
    have fr : w1.frozen? ⟨w.heap.size + 1, 0, none⟩ = false := by simp [World.frozen?, hr1]
    have HP1 := Lib.hid hp1; clear hp1
    have HR1 := Lib.hid hr1; clear hr1
    clear hst1
    have hlt1 : w.heap.size + 1 < w1.heap.size := by omega
    have hlt0 : w.heap.size < w1.heap.size := by omega
    have hd1 : decide ((len : Int) < 0) = false := by simp
    have hd2 : decide ((104857600 : Int) < (len : Int)) = false := by simp; omega
    go_wp2
    have henc0 : Enc ((w1.setCell ⟨w.heap.size + 1, 0, none⟩ (.slice (some ⟨w1.heap.size, 0, none⟩) len len)).alloc (.cells (Array.replicate len (.int .u8 0)) 5)).drew (w.heap.size + 1) w1.heap.size len [] := by
      refine ⟨?_, ⟨List.replicate len (.int .u8 0), ?_, by simp, fun v hv => ⟨0, (List.mem_replicate.1 hv).2⟩⟩, by omega⟩
      · refine ha ?_
        have := HR1.out
        simp [World.setCell, Array.getElem?_modify, this]
      · have h := heap_alloc_new (w1.setCell ⟨w.heap.size + 1, 0, none⟩ (.slice (some ⟨w1.heap.size, 0, none⟩) len len)) (.cells (Array.replicate len (.int .u8 0)) 5)
        rw [World.size_setCell] at h
        have e : ([] ++ List.replicate len (Value.int .u8 0)).toArray = Array.replicate len (Value.int .u8 0) := by simp
        unfold Buf; rw [e]; exact h
    have HE0 := Lib.hid henc0; clear henc0
    have hkk : Kept [] w ((w1.setCell ⟨w.heap.size + 1, 0, none⟩ (.slice (some ⟨w1.heap.size, 0, none⟩) len len)).alloc (.cells (Array.replicate len (.int .u8 0)) 5)).drew :=
      ((hk01.setCell _ (by simp)).alloc _).drew
    have HKK := Lib.hid hkk; clear hkk
    go_region_held3 (fun w' => True) (first | exact trivial)
      (first | (go_at_call 106; refine (flexEnc _ _ _ HT.out _).mono ?_; rintro e w2 ⟨rfl, rfl⟩) | (refine (HE.out (realSink2 (w.heap.size + 1) w1.heap.size len hle) _ HKK.out (by simp [realSink2, realSink]; omega) HE0.out (Nat.le_refl _)).mono ?_; rintro e w2 ⟨rfl, bs2, hbs2, hst2, hk2⟩))
    all_goals
      have hst2' : Enc w2 (w.heap.size + 1) w1.heap.size len bs2 := hst2
      have c2 := hst2'.c0
      have hl2 := HL.out _ hbs2
      have HST := Lib.hid hst2'; clear hst2' hst2
      have HL2 := Lib.hid hl2; clear hl2
      go_wp2
      go_ret2
      refine ⟨w1.heap.size, bs2, rfl, hbs2, ?_, HKK.out.trans hk2 (by simp) (by simp [realSink2, realSink]; omega), by omega⟩
      obtain ⟨rest, h1, h2, _⟩ := HST.out.buf
      have : rest = [] := by
        apply List.eq_nil_of_length_eq_zero
        have := HL2.out
        simp at h2; omega
      subst this
      simpa using h1
end Go.Proofs.YticcnlpfmekagaaGreat
