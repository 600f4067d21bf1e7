/- Part 5 of the proof of the row: V1, Encode, Share, Big, Safe. -/
import Derived.Test.YticcnlpfmekagaaGreatRj00
import Derived.Test.YticcnlpfmekagaaGreatRj04
import Derived.Defers
import Derived.Recover
set_option linter.unusedVariables false
set_option linter.unusedSimpArgs false
set_option maxRecDepth 100000
set_option maxHeartbeats 8000000
namespace Go.Proofs.YticcnlpfmekagaaGreat
section
open Go Go.Proofs Go.RowKit
abbrev Tops := List (ByteArray × Value × List Int)
def rawT (L : Tops) : List (Value × Value) := L.map fun x => (.string x.1, x.2.1)
def SlInts (w : World) (v : Value) (xs : List Int) : Prop := (∃ a c, v = .slice a xs.length c) ∧ SlAt w 1 v xs.length (i32s xs) ∧ ∀ x ∈ xs, isI32 x
structure TopsAt (w : World) (r : Nat) (L : Tops) : Prop where
 map : MapAt w isStr r (rawT L)
 parts : ∀ x ∈ L, SlInts w x.2.1 x.2.2
theorem SlInts.kept {w w' : World} {v : Value} {xs : List Int} {S : List Nat} (h : SlInts w v xs) (k : Kept S w w') (hs : ∀ g, v.ownBlock = some g → g ∉ S) : SlInts w' v xs :=
 ⟨h.1, h.2.1.kept k hs, h.2.2⟩
theorem TopsAt.kept {w w' : World} {r : Nat} {L : Tops} {S : List Nat} (h : TopsAt w r L) (k : Kept S w w') (hr : r ∉ S) (hs : ∀ x ∈ L, ∀ g, x.2.1.ownBlock = some g → g ∉ S) : TopsAt w' r L :=
 ⟨h.map.kept k hr, fun x hx => (h.parts x hx).kept k (hs x hx)⟩
theorem rawT_split {L : Tops} {l1 l2 : List (Value × Value)} {k v : Value} (h : rawT L = l1 ++ (k, v) :: l2) :
 ∃ L1 x L2, L = L1 ++ x :: L2 ∧ l1 = rawT L1 ∧ l2 = rawT L2 ∧ k = .string x.1 ∧ v = x.2.1 := by
 unfold rawT at *
 obtain ⟨L1, M, e1, e2, e3⟩ := List.map_eq_append_iff.1 h
 obtain ⟨x, L2, e4, e5, e6⟩ := List.map_eq_cons_iff.1 e3
 obtain ⟨h1, h2⟩ := Prod.mk.inj e5
 exact ⟨L1, x, L2, by rw [e1, e4], e2.symm, e6.symm, h1.symm, h2.symm⟩
def encT (x : ByteArray × Value × List Int) : List Value := encStr x.1 ++ encInts x.2.2
def encTs (L : Tops) : List Value := L.flatMap encT
theorem encTs_snoc (L : Tops) (x : ByteArray × Value × List Int) : encTs (L ++ [x]) = encTs L ++ encStr x.1 ++ encInts x.2.2 := by simp [encTs, encT]
theorem encTs_perm_length {L M : Tops} (h : L.Perm M) : (encTs L).length = (encTs M).length := by
 unfold encTs; exact (h.flatMap_right encT).length_eq
def encV1 (L : Tops) (gen : Int) : List Value := be32 L.length ++ encTs L ++ be32 (gen % 4294967296)
theorem Sink.cInts' (s : Sink) {d : List Value} {w : World} (v : Value) (xs : List Int) (h : s.St d w) (hm : d.length + (encInts xs).length ≤ s.max) (hv : SlInts w v xs) (ho : ∀ g, v.ownBlock = some g → g ∉ s.own) :
 Calls Tryz.prog s.fInts #[.pointer (some ⟨s.b, 0, none⟩), v] w fun e w' => e = .returned .nilIface ∧ s.St (d ++ encInts xs) w' ∧ Kept s.own w w' := by
 obtain ⟨⟨a, c, rfl⟩, h1, h2⟩ := hv
 exact s.cInts a c xs h hm h1 h2 ho
theorem v1_encode (s : Sink) (m r : Nat) (tp : Value) (gen : Int) (L : Tops) (w : World) (d : List Value) (hs : s.St d w)
 (hm : w.heap[m]? = some (.cells #[.map (some r), .int .i32 gen, tp] 377 (0, 0))) (hL : TopsAt w r L) (hg : isI32 gen)
 (hroom : d.length + (encV1 L gen).length ≤ s.max) (hsz : ∀ x ∈ L, x.1.size ≤ 32767)
 (hmo : m ∉ s.own) (hro : r ∉ s.own) (hpo : ∀ x ∈ L, ∀ g, x.2.1.ownBlock = some g → g ∉ s.own) :
 Calls Tryz.prog 407 #[.pointer (some ⟨m, 0, none⟩), .iface s.T (.pointer (some ⟨s.b, 0, none⟩))] w fun e w' =>
  e = .returned .nilIface ∧ ∃ L', L'.Perm L ∧ s.St (d ++ encV1 L' gen) w' ∧ Kept s.own w w' := by
 have hm0 := fun (w' : World) (k : Kept s.own w w') => (show w'.cell? ⟨m, 0, none⟩ = some (.map (some r)) by have := k.heap hm hmo; simp [World.cell?, this])
 have hm1 := fun (w' : World) (k : Kept s.own w w') => (show w'.cell? ⟨m, 0 + 1, none⟩ = some (.int .i32 gen) by have := k.heap hm hmo; simp [World.cell?, this])
 have c0 := hm0 w (Kept.refl _ _)
 have hlen := fun w' : World => fun (h : MapAt w' isStr r (rawT L)) => map_len (P := Tryz.prog) h Tryz.underlying90 3
 have HM0 := Zhd hm0; clear hm0
 have HM1 := Zhd hm1; clear hm1
 have hmt := s.mArr.m
 have hnl := s.mArr.n
 have hcf := s.mArr.c
 have hl0 := hlen w hL.map
 have hrl : (rawT L).length = L.length := by simp [rawT]
 have hmax := s.hmax
 have hroom0 : d.length + 4 ≤ s.max := by simp [encV1, be32] at hroom; omega
 have hLn : L.length ≤ 100000000 := by
  have : L.length ≤ (encTs L).length := by
   have : ∀ M : Tops, M.length ≤ (encTs M).length := by
    intro M
    induction M with
    | nil => simp [encTs]
    | cons y M ih =>
      simp only [encTs, List.flatMap_cons, List.length_append, encT, encStr_length, List.length_cons] at *
      omega
   exact this L
  simp [encV1] at hroom; omega
 have hcall := s.cArr (rawT L).length (s.drew hs) hroom0 (by omega)
 have hHS : ∀ w', Kept s.own w.drew w' → w'.cell? ⟨m, 0, none⟩ = some (.map (some r)) ∧ MapAt w' isStr r (rawT L) := fun w' k => ⟨HM0.out w' k.of_drew, hL.map.kept k.of_drew hro⟩
 have HHS := Zhd hHS; clear hHS
 have HCall := Zhd hcall; clear hcall
 have HRL := Zhd hrl; clear hrl
 go_enter Tryz.func407, Tryz.ntmps407
 go_wp2
 go_region_held3 (fun w' => w'.cell? ⟨m, 0, none⟩ = some (.map (some r)) ∧ MapAt w' isStr r (rawT L)) (first | exact HHS.out _ hk | exact ⟨c0, hL.map⟩)
  (first | (refine HCall.out.mono ?_; rintro e w1 ⟨rfl, hs1, hk⟩))
 clear hl0
 rw [HRL.out] at hs1
 have hk := hk.of_drew
 have c1 := HM0.out w1 hk
 have hmap1 := hL.map.kept hk hro
 have hsz1 := hk.size
 have hmt := s.mStr.m
 have hnl := s.mStr.n
 have hcf := s.mStr.c
 have hmt2 := s.mInts.m
 have hnl2 := s.mInts.n
 have hcf2 := s.mInts.c
 clear hlen
 go_wp2_with (refine wl_range rfl rfl rfl Tryz.underlying90 hmap1 ?_; intro w2 hit2 hmap2 hk2 hsz2)
 go_frame
 have hk02 := hk.trans hk2 (U := s.own) (fun _ h => h) (by simp)
 have hs2 := s.kept hs1 hk2 (by simp)
 clear hmap1 hs1
 have hito : w1.heap.size ∉ s.own := fun hh => by have := s.lt hs _ hh; omega
 have hitr : w1.heap.size ≠ r := by have := hL.map.lt; omega
 have hitm : w1.heap.size ≠ m := by have := lt_of_heap hm; omega
 have hitg : ∀ x ∈ L, ∀ g, x.2.1.ownBlock = some g → g < w.heap.size ∨ x.2.2 = [] := fun x hx g hg => by
  obtain ⟨⟨a, c, hv⟩, hsl, _⟩ := hL.parts x hx
  rw [hv] at hg hsl
  obtain ⟨_, ⟨_, h0, _⟩ | ⟨g', off, rfl, hc⟩⟩ := hsl.cases
  · exact .inr (List.eq_nil_of_length_eq_zero h0)
  · cases hg
    cases hxs : x.2.2 with
    | nil => exact .inr rfl
    | cons y ys => exact .inl (World.block_lt_of_cell? w _ (hc 0 (.int .i32 y) (by simp [i32s, hxs])))
 have HITG := Zhd hitg; clear hitg
 have HSZ := Zhd hsz; clear hsz
 have HPO := Zhd hpo; clear hpo
 generalize w1.heap.size = it at *
 go_loopw [6] (fun _ wr => ∃ D M : Tops, (D ++ M).Perm L ∧ IterAt wr it r (rawT L) (rawT M) ∧ s.St (d ++ be32 L.length ++ encTs D) wr ∧ Kept s.own w wr ∧ w2.heap.size ≤ wr.heap.size) (fun _ wr => leftOf wr it r)
 case atStart => exact ⟨[], L, by simp, hit2, by simpa [encTs] using hs2, hk02, Nat.le_refl _⟩
 case round =>
  obtain ⟨D, M, hperm, hit, hst, hkw, hszw⟩ := hrel
  cases M with
  | nil =>
    have hit0 : IterAt wr it r (rawT L) [] := hit
    clear hit
    have cg := HM1.out wr hkw
    have hst' : s.St (d ++ be32 ↑L.length ++ encTs D) wr.drew := s.drew hst
    have hroomx : (d ++ be32 ↑L.length ++ encTs D).length + 4 ≤ s.max := by
     have h1 := encTs_perm_length hperm
     simp only [List.append_nil] at h1
     simp only [List.length_append]
     simp only [encV1, List.length_append, be32, List.length_cons, List.length_nil] at hroom ⊢
     omega
    have hc := s.cI32 gen hst' hroomx hg
    have HC := Zhd hc; clear hc
    have HP := Zhd hperm; clear hperm
    have hmt' := s.mI32.m
    have hnl' := s.mI32.n
    have hcf' := s.mI32.c
    have hkg : ∀ w', Kept s.own wr.drew w' → w'.cell? ⟨m, 0 + 1, none⟩ = some (.int .i32 gen) := fun w' k => HM1.out w' (hkw.trans k.of_drew (fun _ h => h) (fun y hy _ => hy))
    have HKG := Zhd hkg; clear hkg
    go_wp2_with (refine wl_next0 rfl rfl rfl hit0 hitr ?_)
    go_region_held3 (fun w' => w'.cell? ⟨m, 0 + 1, none⟩ = some (.int .i32 gen)) (first | exact HKG.out _ hk | exact cg)
     (first | (refine HC.out.mono ?_; rintro e w3 ⟨rfl, hs3, hk⟩))
    go_wp2
    go_ret
    have hpm := HP.out
    rw [List.append_nil] at hpm
    refine ⟨rfl, D, hpm, ?_, hkw.trans hk.of_drew (fun _ h => h) (fun y hy _ => hy)⟩
    unfold encV1
    rw [hpm.length_eq]
    simpa [List.append_assoc] using hs3
  | cons x0 M0 =>
    have hne0 : rawT (x0 :: M0) ≠ [] := by simp [rawT]
    generalize x0 :: M0 = M at *
    have HP := Zhd hperm; clear hperm
    go_wp2_with (first | (refine wl_next1 rfl rfl rfl hit hitr hne0 ?_; intro k v l1 l2 w3 hsplit hit3 hent hk3 hsz3; obtain ⟨L1, x, L2, hM, hl1, hl2, hk, hv⟩ := rawT_split hsplit; clear hsplit) | (refine wl_entry rfl rfl rfl hent ?_) | fail)
    subst hM hl1 hl2 hk hv
    have hxL : x ∈ L := HP.out.mem_iff.1 (by simp)
    have hkw3 : Kept s.own w w3 := hkw.trans hk3 (fun _ h => h) (fun y hy hyw => by simp at hy; omega)
    have hst3 := s.kept hst hk3 (fun y hy => by simp; rintro rfl; exact hito hy)
    have hperm' : (D ++ [x] ++ (L1 ++ L2)).Perm L := by
     refine List.Perm.trans ?_ HP.out
     simp only [List.append_assoc]
     refine List.Perm.append_left D ?_
     rw [List.singleton_append]
     exact (List.perm_middle (a := x) (l₁ := L1) (l₂ := L2)).symm
    have HP' := Zhd hperm'; clear hperm'
    have hroomx : (d ++ be32 ↑L.length ++ encTs D).length + (encStr x.1).length + (encInts x.2.2).length + 4 ≤ s.max := by
     have h1 := encTs_perm_length HP'.out
     rw [show encTs (D ++ [x] ++ (L1 ++ L2)) = encTs D ++ encStr x.1 ++ encInts x.2.2 ++ encTs (L1 ++ L2) from by simp [encTs, encT]] at h1
     simp only [List.length_append] at h1 ⊢
     simp only [encV1, List.length_append, be32, List.length_cons, List.length_nil] at hroom ⊢
     omega
    have hc1 := s.cStr x.1 hst3 (by omega) (HSZ.out x hxL)
    have HC1 := Zhd hc1; clear hc1
    refine HC1.out.mono ?_
    rintro e w4 ⟨rfl, hst4, hk4⟩
    go_wp2_with fail
    have hkw4 : Kept s.own w w4 := hkw3.trans hk4 (fun _ h => h) (fun y hy _ => hy)
    have hsli := (hL.parts x hxL).kept hkw4 (HPO.out x hxL)
    have hc2 := s.cInts' x.2.1 x.2.2 hst4 (by rw [List.length_append]; omega) hsli (HPO.out x hxL)
    have HC2 := Zhd hc2; clear hc2
    refine HC2.out.mono ?_
    rintro e w5 ⟨rfl, hst5, hk5⟩
    have hkw5 : Kept s.own w w5 := hkw4.trans hk5 (fun _ h => h) (fun y hy _ => hy)
    have hit5 := (hit3.kept hk4 hito hro).kept hk5 hito hro
    have hsz5 : w2.heap.size ≤ w5.heap.size := by have := hk4.size; have := hk5.size; omega
    have hm1 := hit.leftOf
    have hm2 := hit5.leftOf
    have HM1' := Zhd hm1; clear hm1
    have HM2' := Zhd hm2; clear hm2
    go_wp2
    go_roundw
    case rel =>
     refine ⟨D ++ [x], L1 ++ L2, HP'.out, by simpa [rawT] using hit5, ?_, hkw5, hsz5⟩
     rw [encTs_snoc]
     simpa [List.append_assoc] using hst5
    case measure => rw [HM1'.out, HM2'.out]; simp [rawT]
end
section
open Go Go.Proofs Go.RowKit
def NoFlex (T : TypeId) : Prop := ∀ (a : Addr) (w : World), (Instr.typeAssert (.iface T (.pointer (some a))) 195 242 true).run Tryz.prog w = .ok (.tuple #[.nilIface, .bool false]) w
theorem flexEnc (pe : Value) (T : TypeId) (a : Addr) (hT : NoFlex T) (w : World) :
 Calls Tryz.prog 106 #[pe, .iface T (.pointer (some a))] w fun e w' => e = .returned pe ∧ w = w' := by
 have ht := hT a
 go_enter Tryz.func106, Tryz.ntmps106
 go_wp2
 go_ret
 exact ⟨rfl, rfl⟩
theorem info5' : (Tryz.prog.info? 5).map (fun i => (i.zero, i.size, i.bytes)) = some (some (.int .u8 0), 1, 1) := by kernel_rfl
theorem make_bytes (n : Nat) (hn : n ≤ 100000000) (w : World) : (Instr.makeSlice 28 (.int .i64 n) (.int .i64 n)).run Tryz.prog w = .ok (.slice (some ⟨w.heap.size, 0, none⟩) n n) (w.alloc (.cells (List.replicate n (.int .u8 0)).toArray 5)) := by
 obtain ⟨i, hi, h1, h2, h3⟩ : ∃ i, Tryz.prog.info? 5 = some i ∧ i.zero = some (.int .u8 0) ∧ i.size = 1 ∧ i.bytes = 1 := info_parts info5'
 have hr := run_make (P := Tryz.prog) w 28 5 i (.int .u8 0) Tryz.underlying28 hi h1 .i64 .i64 n n (by omega) (Int.le_refl _) (by rw [h3]; omega) (by omega)
 rw [hr, h2]
 have : madeCells (Value.int .u8 0).cells ((n : Int).toNat * 1) = (List.replicate n (.int .u8 0)).toArray := by
  apply Array.toList_inj.1
  have := toList_madeCells_one (.int .u8 0) n
  simpa [Value.cells] using this
 rw [this]; simp
theorem encode_any (T : TypeId) (f : FuncId) (ad : Addr) (hmeth : IsMeth T "pub-kestrel/pub/sarama.encode" f) (hT : NoFlex T) (w : World) (Bs : List Value → Prop) (len : Nat) (hlen : ∀ bs, Bs bs → bs.length = len) (hle : len ≤ 100000000)
 (henc : ∀ (s : Sink) (w' : World), Kept [] w w' → (∀ x ∈ s.own, w.heap.size ≤ x) → s.St [] w' → len ≤ s.max →
   Calls Tryz.prog f #[.pointer (some ad), .iface s.T (.pointer (some ⟨s.b, 0, none⟩))] w' fun e w'' => e = .returned .nilIface ∧ ∃ bs, Bs bs ∧ s.St bs w'' ∧ Kept s.own w' w'') :
 Calls Tryz.prog 80 #[.iface T (.pointer (some ad))] w fun e w' => ∃ rb bs, e = .returned (.tuple #[.slice (some ⟨rb, 0, none⟩) len len, .nilIface]) ∧ Bs bs ∧ Buf w' rb bs ∧ Kept [] w w' ∧ w.heap.size ≤ rb := by
 have hmt := hmeth.m
 have hnl := hmeth.n
 have hcf := hmeth.c
 have hmk := make_bytes len hle
 have HE := Zhd henc; clear henc
 have HL := Zhd hlen; clear hlen
 have HT := Zhd hT; clear hT
 have hp0 : Prep ((w.alloc (.cells #[.slice none 0 0, .int .i64 0] 198)).alloc (.cells #[.slice none 0 0, .int .i64 0, .slice none 0 0] 200)).drew w.heap.size 0 := by
  unfold Prep
  exact ha (heap_alloc_new w _)
 have HP0 := Zhd hp0; clear hp0
 go_enter Tryz.func80, Tryz.ntmps80
 go_wp2
 go_region_held3 (fun w' => True) (first | exact trivial)
  (first | (go_at_call 106; refine (flexEnc _ _ _ HT.out _).mono ?_; rintro e w1 ⟨rfl, rfl⟩) | (refine (HE.out (prepSink w.heap.size) _ (((Kept.refl [] w).alloc _).alloc _).drew (by simp [prepSink]) HP0.out hle).mono ?_; rintro e w1 ⟨rfl, bs, hbs, hst1, hk1⟩))
 all_goals
  have hk1 := hk1.of_drew
  have hp1 : Prep w1 w.heap.size len := by have := HL.out bs hbs; rw [← this]; exact hst1
  have hr1 : w1.heap[w.heap.size + 1]? = some (.cells #[.slice none 0 0, .int .i64 0, .slice none 0 0] 200 (0, 0)) := by
   refine hk1.heap ?_ (by simp [prepSink])
   have := heap_alloc_new (w.alloc (.cells #[.slice none 0 0, .int .i64 0] 198)) (.cells #[.slice none 0 0, .int .i64 0, .slice none 0 0] 200)
   simpa using this
  have hk01 : Kept [] w w1 := ((((Kept.refl [] w).alloc _).alloc _).trans hk1 (U := []) (by simp) (by simp [prepSink]))
  have hsz1 := hk1.size
  simp only [World.size_alloc] at hsz1
  have cl : w1.cell? ⟨w.heap.size, 1, none⟩ = some (.int .i64 len) := hp1.cell
  have cr : w1.cell? ⟨w.heap.size + 1, 0, none⟩ = some (.slice none 0 0) := by simp [World.cell?, hr1]
  have fr : w1.frozen? ⟨w.heap.size + 1, 0, none⟩ = false := by simp [World.frozen?, hr1]
  have HP1 := Zhd hp1; clear hp1
  have HR1 := Zhd hr1; clear hr1
  clear hst1
  have hlt1 : w.heap.size + 1 < w1.heap.size := by omega
  have hlt0 : w.heap.size < w1.heap.size := by omega
  have hd1 : decide ((len : Int) < 0) = false := by simp
  have hd2 : decide ((104857600 : Int) < (len : Int)) = false := by simp; omega
  go_wp2
  have henc0 : Enc ((w1.setCell ⟨w.heap.size + 1, 0, none⟩ (.slice (some ⟨w1.heap.size, 0, none⟩) len len)).alloc (.cells (Array.replicate len (.int .u8 0)) 5)).drew (w.heap.size + 1) w1.heap.size len [] := by
   refine ⟨?_, ⟨List.replicate len (.int .u8 0), ?_, by simp, fun v hv => ⟨0, (List.mem_replicate.1 hv).2⟩⟩, by omega⟩
   · refine ha ?_
     have := HR1.out
     simp [World.setCell, Array.getElem?_modify, this]
   · have h := heap_alloc_new (w1.setCell ⟨w.heap.size + 1, 0, none⟩ (.slice (some ⟨w1.heap.size, 0, none⟩) len len)) (.cells (Array.replicate len (.int .u8 0)) 5)
     rw [World.size_setCell] at h
     have e : ([] ++ List.replicate len (Value.int .u8 0)).toArray = Array.replicate len (Value.int .u8 0) := by simp
     unfold Buf; rw [e]; exact h
  have HE0 := Zhd henc0; clear henc0
  have hkk : Kept [] w ((w1.setCell ⟨w.heap.size + 1, 0, none⟩ (.slice (some ⟨w1.heap.size, 0, none⟩) len len)).alloc (.cells (Array.replicate len (.int .u8 0)) 5)).drew :=
   ((hk01.setCell _ (by simp)).alloc _).drew
  have HKK := Zhd hkk; clear hkk
  go_region_held3 (fun w' => True) (first | exact trivial)
   (first | (go_at_call 106; refine (flexEnc _ _ _ HT.out _).mono ?_; rintro e w2 ⟨rfl, rfl⟩) | (refine (HE.out (realSink (w.heap.size + 1) w1.heap.size len hle) _ HKK.out (by simp [realSink]; omega) HE0.out (Nat.le_refl _)).mono ?_; rintro e w2 ⟨rfl, bs2, hbs2, hst2, hk2⟩))
  all_goals
   have hst2' : Enc w2 (w.heap.size + 1) w1.heap.size len bs2 := hst2
   have c2 := hst2'.c0
   have hl2 := HL.out _ hbs2
   have HST := Zhd hst2'; clear hst2' hst2
   have HL2 := Zhd hl2; clear hl2
   go_wp2
   go_ret2
   refine ⟨w1.heap.size, bs2, rfl, hbs2, ?_, HKK.out.trans hk2 (by simp) (by simp [realSink]; omega), by omega⟩
   obtain ⟨rest, h1, h2, _⟩ := HST.out.buf
   have : rest = [] := by
    apply List.eq_nil_of_length_eq_zero
    have := HL2.out
    simp at h2; omega
   subst this
   simpa using h1
end
section
open Go Go.Proofs Go.RowKit
theorem infoI32 : (Tryz.prog.info? 21).map (fun i => (i.zero, i.size, i.bytes)) = some (some (.int .i32 0), 1, 4) := by kernel_rfl
theorem elI32 : Elem Tryz.prog 31 21 1 4 (.int .i32 0) := ⟨Tryz.underlying31, info_parts infoI32, rfl, by omega⟩
theorem own_new {w : World} (E sz : Nat) : (w.alloc (.cells #[] E)).ownsRow 0 E sz (.slice (some ⟨w.heap.size, 0, none⟩) 0 0) 0 [] :=
 World.ownsRow_made w #[] 0 (Nat.zero_le _) (by simp [maxLen]) (by simp)
theorem own_cap {w : World} {E sz n : Nat} {v : Value} {cs : List Value} (h : w.ownsRow 0 E sz v n cs) : ∃ a c, v = .slice a n c ∧ n ≤ c := by
 rcases h.2 with ⟨rfl, rfl⟩ | ⟨g, cap, cur, rfl, _, _, h1, _⟩
 · exact ⟨_, _, rfl, Nat.le_refl _⟩
 · exact ⟨_, _, rfl, h1⟩
theorem clone_i32 (v : Value) (xs : List Int) (w : World) (hv : SlInts w v xs) (hn : xs.length ≤ 4000000000) :
 Calls Tryz.prog 62 #[v] w fun e w' => ∃ v', e = .returned v' ∧ SlInts w' v' xs ∧ Kept [] w w' ∧ (∀ g, v'.ownBlock = some g → w.heap.size ≤ g ∧ g < w'.heap.size) ∧ (∃ a c, v' = .slice a xs.length c ∧ xs.length ≤ c) := by
 obtain ⟨⟨a, c, rfl⟩, hsl, hx⟩ := hv
 obtain ⟨_, hcase⟩ := hsl.cases
 have hnil := fun w => Lib.run_eql_slice_nil (P := Tryz.prog) w 31 21 a xs.length c 0 0 Tryz.underlying31
 clear hcase
 cases a with
 | none =>
   have hxs : xs = [] := by
    rcases hsl.2.2 with ⟨a', c', h1, h2⟩ | ⟨g', off', c', h1, _⟩
    · exact List.eq_nil_of_length_eq_zero h2
    · cases h1
   subst hxs
   clear hsl
   simp only [List.length_nil] at hnil ⊢
   go_enter Tryz.func62, Tryz.ntmps62
   go_wp2
   go_ret
   exact ⟨_, rfl, ⟨⟨none, 0, rfl⟩, SlAt.nil _ _, by simp⟩, Kept.refl _ _, by simp [Value.ownBlock], by simp⟩
 | some a =>
   have hsrc := (hsl.alloc (.cells #[] 21)).src Tryz.underlying31
   have HS := Zhd hsrc; clear hsrc
   have HX := Zhd hx; clear hx
   clear hsl
   go_enter Tryz.func62, Tryz.ntmps62
   go_wp2_with (refine wl_app (v := .slice (some ⟨w.heap.size, 0, none⟩) 0 0) rfl rfl elI32 rfl rfl (own_new 21 1) HS.out (by omega) (by omega) ?_; intro v' w1 hown hk hd)
   go_ret
   have hk' : Kept [] w w1 := ((Kept.refl [] w).alloc _).trans hk (by simp) (by simp [Value.ownBlock])
   rw [List.nil_append, Nat.zero_add] at hown
   have hsl' := own_sl hown (by intro u hu; obtain ⟨x, _, rfl⟩ := List.mem_map.1 hu; rfl)
   refine ⟨v', rfl, ⟨?_, hsl', HX.out⟩, hk', ?_, own_cap hown⟩
   · rcases hsl'.2.2 with ⟨a', c', h1, h2⟩ | ⟨g', off', c', h1, _⟩
     · rw [h1, h2]; exact ⟨_, _, rfl⟩
     · rw [h1]; exact ⟨_, _, rfl⟩
   · intro g' hg'
     rcases hd with ⟨h1, h2⟩ | ⟨h1, h2⟩
     · rw [h1] at hg'; simp [Value.ownBlock] at hg'; simp only [World.size_alloc] at h2; omega
     · rw [h1] at hg'; simp only [Option.some.injEq, World.size_alloc] at hg' h2; omega
structure Shr where
 mem : ByteArray
 top : ByteArray
 val : Value
 parts : List Int
def shrCells (x : Shr) : List Value := [.string x.mem, .string x.top, x.val]
structure ShrsAt (w : World) (v : Value) (L : List Shr) : Prop where
 form : ∃ a c, v = .slice a L.length c
 cells : SlAt w 3 v L.length (L.flatMap shrCells)
 parts : ∀ x ∈ L, SlInts w x.val x.parts
theorem ShrsAt.kept {w w' : World} {v : Value} {L : List Shr} {S : List Nat} (h : ShrsAt w v L) (k : Kept S w w') (h1 : ∀ g, v.ownBlock = some g → g ∉ S) (h2 : ∀ x ∈ L, ∀ g, x.val.ownBlock = some g → g ∉ S) : ShrsAt w' v L :=
 ⟨h.form, h.cells.kept k h1, fun x hx => (h.parts x hx).kept k (h2 x hx)⟩
theorem shr_get {L : List Shr} {k : Nat} {x : Shr} (h : L[k]? = some x) : (L.flatMap shrCells)[k * 3]? = some (.string x.mem) ∧ (L.flatMap shrCells)[k * 3 + 1]? = some (.string x.top) ∧ (L.flatMap shrCells)[k * 3 + 2]? = some x.val := by
 induction L generalizing k with
 | nil => simp at h
 | cons y L ih =>
   cases k with
   | zero => simp at h; subst h; simp [shrCells]
   | succ k =>
     simp at h
     have := ih h
     have e : (k + 1) * 3 = 3 + k * 3 := by omega
     simp only [List.flatMap_cons, e, Nat.add_assoc]
     have hl : (shrCells y).length = 3 := rfl
     refine ⟨?_, ?_, ?_⟩
     · rw [List.getElem?_append_right (by omega), hl]; simpa using this.1
     · rw [List.getElem?_append_right (by omega), hl]; simpa using this.2.1
     · rw [List.getElem?_append_right (by omega), hl]; simpa using this.2.2
def CapOk (x : ByteArray × Value × List Int) : Prop := ∃ a c, x.2.1 = .slice a x.2.2.length c ∧ x.2.2.length ≤ c
def topOf (x : Shr) : ByteArray × List Int := (x.top, x.parts)
def tops2 (D : Tops) : List (ByteArray × List Int) := D.map fun x => (x.1, x.2.2)
theorem topicMap_any (v : Value) (L : List Shr) (w : World) (hv : ShrsAt w v L) (hn : L.length ≤ 1000000) (hnd : (L.map (·.top)).Nodup) (hsz : ∀ x ∈ L, x.parts.length ≤ 1000000) :
 Calls Tryz.prog 47 #[v] w fun e w' => ∃ D : Tops, e = .returned (.map (some w.heap.size)) ∧ tops2 D = L.map topOf ∧ TopsAt w' w.heap.size D ∧ Kept [] w w' ∧ (∀ x ∈ D, ∀ g, x.2.1.ownBlock = some g → w.heap.size < g ∧ g < w'.heap.size) ∧ (∀ x ∈ D, CapOk x) := by
 obtain ⟨⟨a, c, rfl⟩, hcells, hparts⟩ := hv
 obtain ⟨_, hcase⟩ := hcells.cases
 have hmm := @run_makeMap Tryz.prog
 generalize hLn : L.length = n at *
 rcases hcase with ⟨_, h0, hcs⟩ | ⟨g, off, rfl, hcell⟩
 · have hL0 : L = [] := List.eq_nil_of_length_eq_zero (by omega)
   subst hL0
   subst h0
   have h0 : TopsAt (w.alloc (.map #[] 0)) w.heap.size [] := ⟨MapAt.new w isStr, by simp⟩
   clear hLn hcs
   go_enter Tryz.func47, Tryz.ntmps47
   go_wp2
   go_loopw [9] (fun i wr => i = .int .i64 0 ∧ wr = w.alloc (.map #[] 0)) (fun i _ => 0)
   case atStart => exact ⟨rfl, rfl⟩
   case round =>
    obtain ⟨rfl, rfl⟩ := hrel
    go_wp2
    go_ret
    exact ⟨[], rfl, by simp [tops2], h0, (Kept.refl _ _).alloc _, by simp, by simp⟩
 · have HLN := Zhd hLn; clear hLn
   have HC := Zhd hcell; clear hcell
   have HP := Zhd hparts; clear hparts
   have HSZ := Zhd hsz; clear hsz
   clear hcells
   have h0 : TopsAt (w.alloc (.map #[] 0)) w.heap.size [] := ⟨MapAt.new w isStr, by simp⟩
   go_enter Tryz.func47, Tryz.ntmps47
   go_wp2
   go_loopw [9] (fun i wr => ∃ k : Nat, ∃ D : Tops, k ≤ n ∧ i = .int .i64 k ∧ tops2 D = (L.take k).map topOf ∧ TopsAt wr w.heap.size D ∧ Kept [] w wr ∧ (∀ x ∈ D, ∀ g, x.2.1.ownBlock = some g → w.heap.size < g ∧ g < wr.heap.size) ∧ w.heap.size < wr.heap.size ∧ (∀ x ∈ D, CapOk x)) (fun i _ => n - (intOf i).toNat)
   case atStart => exact ⟨0, [], Nat.zero_le _, rfl, by simp [tops2], h0, (Kept.refl _ _).alloc _, by simp, by simp, by simp⟩
   case round =>
    obtain ⟨k, D, hk, rfl, hD, hT, hkw, hfr, hlt, hcap⟩ := hrel
    by_cases hlt : k < n
    · obtain ⟨x, hkx⟩ : ∃ x, L[k]? = some x := ⟨_, List.getElem?_eq_getElem (by have := HLN.out; omega)⟩
      obtain ⟨g1, g2, g3⟩ := shr_get hkx
      have hxL : x ∈ L := List.mem_of_getElem? hkx
      have c1 := hkw.cell (p := ⟨g, off + k * 3, none⟩) (HC.out _ _ g1) (by simp)
      have c2 := hkw.cell (p := ⟨g, off + (k * 3 + 1), none⟩) (HC.out _ _ g2) (by simp)
      have c3 := hkw.cell (p := ⟨g, off + (k * 3 + 2), none⟩) (HC.out _ _ g3) (by simp)
      rw [← Nat.add_assoc] at c2 c3
      have hsl := (HP.out x hxL).kept hkw (by simp)
      obtain ⟨pa, pc, hval⟩ := hsl.1
      rw [hval] at c3 hsl
      have hcl := clone_i32 _ _ (((wr.alloc (.cells #[.string x.mem, .string x.top, .slice pa x.parts.length pc] 33))).drew) (hsl.kept (((Kept.refl [] wr).alloc _).drew) (by simp)) (by have := HSZ.out x hxL; omega)
      have HCL := Zhd hcl; clear hcl hval
      have HSL := Zhd hsl; clear hsl
      have hT0 := hT.kept (((Kept.refl [] wr).alloc (.cells #[.string x.mem, .string x.top, .slice pa x.parts.length pc] 33)).drew) (by simp) (by simp)
      have HT := Zhd hT0; clear hT0
      have hS : ∀ w', Kept [] ((wr.alloc (.cells #[.string x.mem, .string x.top, .slice pa x.parts.length pc] 33))).drew w' → w'.cell? ⟨wr.heap.size, 1, none⟩ = some (.string x.top) ∧ w'.cell? ⟨wr.heap.size, 2, none⟩ = some (.slice pa x.parts.length pc) := fun w' k =>
       ⟨k.cell (p := ⟨wr.heap.size, 1, none⟩) (by simp) (by simp), k.cell (p := ⟨wr.heap.size, 2, none⟩) (by simp) (by simp)⟩
      have HS := Zhd hS; clear hS
      have HK := Zhd hkx; clear hkx g1 g2 g3
      have HD := Zhd hD; clear hD
      go_wp2
      go_region_held3 (fun w' => w'.cell? ⟨wr.heap.size, 1, none⟩ = some (.string x.top) ∧ w'.cell? ⟨wr.heap.size, 2, none⟩ = some (.slice pa x.parts.length pc))
       (first | exact HS.out _ (Kept.refl _ _) | exact HS.out _ hk1 | (refine ⟨hk2.cell (HS.out _ hk1).1 (by simp; omega), hk2.cell (HS.out _ hk1).2 (by simp; omega)⟩))
       (first | (go_at_call 62; refine HCL.out.mono ?_; rintro e w1 ⟨v1, rfl, hsl1, hk1, hg1, hcp1⟩) | (refine up_update (fun _ _ => rfl) (keyT_str Tryz.underlying9) Tryz.underlying90 ((HT.out.kept hk1 (by simp) (by simp)).map) ⟨_, rfl⟩ ?_; intro w2 hm2 hk2 hs2))
      have hsz1 := hk1.size
      simp only [World.size_drew, World.size_alloc] at hsz1
      have hk1' : Kept [] wr w1 := ((Kept.refl [] wr).alloc _).trans hk1.of_drew (by simp) (by simp)
      have hk12 : Kept [w.heap.size] wr w2 := hk1'.trans hk2 (by simp) (by simp)
      have hD' : tops2 (D ++ [(x.top, v1, x.parts)]) = (L.take (k + 1)).map topOf := by
       obtain ⟨hk', hx'⟩ := List.getElem?_eq_some_iff.1 HK.out
       rw [List.take_succ_eq_append_getElem hk', hx', List.map_append, ← HD.out]
       simp [tops2, topOf]
      have hmiss : ∀ u, (Value.string x.top, u) ∉ rawT D := by
       intro u hu
       unfold rawT at hu
       obtain ⟨y, hy, hye⟩ := List.mem_map.1 hu
       have hyt : y.1 = x.top := by simpa using (Prod.mk.inj hye).1
       have hmem : x.top ∈ (L.take k).map (·.top) := by
        have : (y.1, y.2.2) ∈ (L.take k).map topOf := by rw [← HD.out]; exact List.mem_map_of_mem (f := fun x : ByteArray × Value × List Int => (x.1, x.2.2)) hy
        obtain ⟨z, hz, hze⟩ := List.mem_map.1 this
        exact List.mem_map.2 ⟨z, hz, by rw [← hyt]; exact (Prod.mk.inj hze).1⟩
       obtain ⟨hk', hx'⟩ := List.getElem?_eq_some_iff.1 HK.out
       have hsplit : L.map (·.top) = (L.take k).map (·.top) ++ x.top :: (L.drop (k + 1)).map (·.top) := by
        conv => lhs; rw [← List.take_append_drop k L, List.drop_eq_getElem_cons hk', hx']
        simp
       rw [hsplit] at hnd
       exact (List.nodup_append.1 hnd).2.2 _ hmem _ (by simp) rfl
      have hm2' : MapAt w2 isStr w.heap.size (rawT (D ++ [(x.top, v1, x.parts)])) := by
       rw [putE_miss hmiss] at hm2
       simpa [rawT] using hm2
      have hfr' : ∀ y ∈ D ++ [(x.top, v1, x.parts)], ∀ g, y.2.1.ownBlock = some g → w.heap.size < g ∧ g < w2.heap.size := by
       intro y hy g hg
       rcases Zap.1 hy with hy | hy
       · have := hfr y hy g hg; omega
       · simp only [Zmc, Znn, or_false] at hy
         subst hy
         have := hg1 g hg
         simp only [World.size_drew, World.size_alloc] at this
         omega
      have hT2 : TopsAt w2 w.heap.size (D ++ [(x.top, v1, x.parts)]) := by
       refine ⟨hm2', fun y hy => ?_⟩
       rcases Zap.1 hy with hy | hy
       · exact (hT.parts y hy).kept hk12 (fun g hg => by have := hfr y hy g hg; simp; omega)
       · simp only [Zmc, Znn, or_false] at hy
         subst hy
         exact hsl1.kept hk2 (fun g hg => by have := hg1 g hg; simp only [World.size_drew, World.size_alloc] at this; simp; omega)
      have hcap' : ∀ y ∈ D ++ [(x.top, v1, x.parts)], CapOk y := by
       intro y hy
       rcases Zap.1 hy with hy | hy
       · exact hcap y hy
       · simp only [Zmc, Znn, or_false] at hy
         subst hy
         exact hcp1
      have hkw2 : Kept [] w w2 := hkw.trans hk12 (by simp) (by simp)
      have hlt2 : w.heap.size < w2.heap.size := by omega
      go_wp2
      go_roundw
      case rel => exact ⟨k + 1, _, by omega, by go_num, hD', hT2, hkw2, hfr', hlt2, hcap'⟩
      case measure => simp [intOf]; omega
    · go_wp2
      go_ret
      rw [List.take_of_length_le (by have := HLN.out; omega)] at hD
      exact ⟨D, rfl, hD, hT, hkw, hfr, hcap⟩
end
section
open Go Go.Proofs Go.RowKit
theorem elU8 : Elem Tryz.prog 28 5 1 1 (.int .u8 0) := ⟨Tryz.underlying28, info_parts info5', rfl, by omega⟩
end
section
open Go Go.Proofs Go.RowKit
def HasBody (f : FuncId) : Prop := ∀ (args : Array Value) (w : World), (callFunc f args).run Tryz.prog w = .ok (.enter f args) w
theorem catch_idle (p : Addr) (w : World) (x : Value) (hc : w.cell? p = some x) (hz : w.frozen? p = false) :
 CallsD Tryz.prog 72 #[.pointer (some p)] .returning w fun e u' w' => e = .returned (.tuple #[]) ∧ u' = .returning ∧ w' = w.setCell p (.bool true) := by
 refine callsD_of_wpS Tryz.func72 rfl fun c₀ cs hu => ?_
 apply wpS_region
 simp [wpOpsS, go_sem, recoverD, hu, Tryz.ntmps72, Exit.thenS, hc, hz, bodyPostS, results, Tryz.results72]
 cases c₀
 simp_all
theorem safe_any (f : FuncId) (cap : Array Value) (w : World) (R : World → Prop) (S : List Nat) (hf : HasBody f) (hS : ∀ x ∈ S, x < w.heap.size)
 (h : Calls Tryz.prog f cap (w.alloc (.cells #[.bool false] 4)) fun e w' => e = .returned (.tuple #[]) ∧ R w' ∧ Kept S (w.alloc (.cells #[.bool false] 4)) w') :
 Calls Tryz.prog 43 #[.func (.func f) #[] cap] w fun e w' => e = .returned (.bool true) ∧ ∃ w1, R w1 ∧ Kept S w w1 ∧ Kept [w.heap.size] w1 w' := by
 have HH := Zhd h; clear h
 unfold HasBody at hf
 go_enter_defers Tryz.func43, Tryz.ntmps43
 go_wp2_with fail
 refine HH.out.mono ?_
 rintro e w1 ⟨rfl, hR, hk⟩
 have hne : w.heap.size ∉ S := fun hx => Nat.lt_irrefl _ (hS _ hx)
 have hc : w1.cell? ⟨w.heap.size, 0, none⟩ = some (.bool false) :=
  hk.cell (p := ⟨w.heap.size, 0, none⟩) (by simp [go_sem]) hne
 have hz : w1.frozen? ⟨w.heap.size, 0, none⟩ = false :=
  hk.frz (p := ⟨w.heap.size, 0, none⟩) (by simp [go_sem]) (by simp [go_sem]) hne
 have hlt : w.heap.size < w1.heap.size := by have := hk.size; simp [go_sem] at this; omega
 go_wp2_with fail
 refine leaves_cons (f := 72) (args := #[.pointer (some ⟨w.heap.size, 0, none⟩)]) (by simp) (by simp [go_sem]) ?_
 refine (catch_idle ⟨w.heap.size, 0, none⟩ _ (.bool true) ?_ ?_).mono ?_
 · simp [go_sem, hc]
 · simp [go_sem, hz]
 rintro e u' w'' ⟨rfl, rfl, rfl⟩
 have h1 : Kept S w w1 := ((Kept.refl S w).alloc _).trans hk (fun x hx => hx) (fun x hx _ => hx)
 have h2 : Kept [w.heap.size] w1 ((w1.setCell ⟨w.heap.size, 0, none⟩ (.bool true)).setCell ⟨w.heap.size, 0, none⟩ (.bool true)) :=
  ((Kept.refl _ _).setCell _ (by simp)).setCell _ (by simp)
 simp [Leaves, settle, results, Tryz.results43, go_sem, hc]
 exact ⟨w1, hR, h1, h2⟩
end
end Go.Proofs.YticcnlpfmekagaaGreat
