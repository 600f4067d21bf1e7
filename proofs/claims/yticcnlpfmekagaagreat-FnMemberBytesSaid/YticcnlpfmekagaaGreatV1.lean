import Derived.Test.YticcnlpfmekagaaGreatSink
namespace Go.Proofs.YticcnlpfmekagaaGreat
open Go Go.Proofs Go.RowKit
set_option linter.unusedVariables false
set_option linter.unusedSimpArgs false

/-! ## Maps of topics -/

/-- a topic, the slice of its partitions, and these -/
abbrev Tops := List (ByteArray × Value × List Int)
def rawT (L : Tops) : List (Value × Value) := L.map fun x => (.string x.1, x.2.1)
def SlInts (w : World) (v : Value) (xs : List Int) : Prop := (∃ a c, v = .slice a xs.length c) ∧ SlAt w 1 v xs.length (i32s xs) ∧ ∀ x ∈ xs, isI32 x
structure TopsAt (w : World) (r : Nat) (L : Tops) : Prop where
  map : MapAt w isStr r (rawT L)
  parts : ∀ x ∈ L, SlInts w x.2.1 x.2.2
theorem SlInts.kept {w w' : World} {v : Value} {xs : List Int} {S : List Nat} (h : SlInts w v xs) (k : Kept S w w') (hs : ∀ g, v.ownBlock = some g → g ∉ S) : SlInts w' v xs :=
  ⟨h.1, h.2.1.kept k hs, h.2.2⟩
theorem TopsAt.kept {w w' : World} {r : Nat} {L : Tops} {S : List Nat} (h : TopsAt w r L) (k : Kept S w w') (hr : r ∉ S) (hs : ∀ x ∈ L, ∀ g, x.2.1.ownBlock = some g → g ∉ S) : TopsAt w' r L :=
  ⟨h.map.kept k hr, fun x hx => (h.parts x hx).kept k (hs x hx)⟩

theorem rawT_split {L : Tops} {l1 l2 : List (Value × Value)} {k v : Value} (h : rawT L = l1 ++ (k, v) :: l2) :
    ∃ L1 x L2, L = L1 ++ x :: L2 ∧ l1 = rawT L1 ∧ l2 = rawT L2 ∧ k = .string x.1 ∧ v = x.2.1 := by
  unfold rawT at *
  obtain ⟨L1, M, e1, e2, e3⟩ := List.map_eq_append_iff.1 h
  obtain ⟨x, L2, e4, e5, e6⟩ := List.map_eq_cons_iff.1 e3
  obtain ⟨h1, h2⟩ := Prod.mk.inj e5
  exact ⟨L1, x, L2, by rw [e1, e4], e2.symm, e6.symm, h1.symm, h2.symm⟩

def encT (x : ByteArray × Value × List Int) : List Value := encStr x.1 ++ encInts x.2.2
def encTs (L : Tops) : List Value := L.flatMap encT

theorem encTs_snoc (L : Tops) (x : ByteArray × Value × List Int) : encTs (L ++ [x]) = encTs L ++ encStr x.1 ++ encInts x.2.2 := by simp [encTs, encT]
theorem encTs_perm_length {L M : Tops} (h : L.Perm M) : (encTs L).length = (encTs M).length := by
  unfold encTs; exact (h.flatMap_right encT).length_eq
theorem encTs_mem_length {L : Tops} {x : ByteArray × Value × List Int} (h : x ∈ L) : (encT x).length ≤ (encTs L).length := by
  induction L with
  | nil => cases h
  | cons y L ih =>
    simp only [encTs, List.flatMap_cons, List.length_append] at *
    rcases List.mem_cons.1 h with rfl | h
    · omega
    · have := ih h; omega

def encV1 (L : Tops) (gen : Int) : List Value := be32 L.length ++ encTs L ++ be32 (gen % 4294967296)

theorem Sink.cInts' (s : Sink) {d : List Value} {w : World} (v : Value) (xs : List Int) (h : s.St d w) (hm : d.length + (encInts xs).length ≤ s.max) (hv : SlInts w v xs) (ho : ∀ g, v.ownBlock = some g → g ∉ s.own) :
    Calls Tryz.prog s.fInts #[.pointer (some ⟨s.b, 0, none⟩), v] w fun e w' => e = .returned .nilIface ∧ s.St (d ++ encInts xs) w' ∧ Kept s.own w w' := by
  obtain ⟨⟨a, c, rfl⟩, h1, h2⟩ := hv
  exact s.cInts a c xs h hm h1 h2 ho

set_option maxRecDepth 100000 in
set_option maxHeartbeats 1000000 in
theorem v1_encode (s : Sink) (m r : Nat) (tp : Value) (gen : Int) (L : Tops) (w : World) (d : List Value) (hs : s.St d w)
    (hm : w.heap[m]? = some (.cells #[.map (some r), .int .i32 gen, tp] 377 (0, 0))) (hL : TopsAt w r L) (hg : isI32 gen)
    (hroom : d.length + (encV1 L gen).length ≤ s.max) (hsz : ∀ x ∈ L, x.1.size ≤ 32767)
    (hmo : m ∉ s.own) (hro : r ∉ s.own) (hpo : ∀ x ∈ L, ∀ g, x.2.1.ownBlock = some g → g ∉ s.own) :
    Calls Tryz.prog 407 #[.pointer (some ⟨m, 0, none⟩), .iface s.T (.pointer (some ⟨s.b, 0, none⟩))] w fun e w' =>
      e = .returned .nilIface ∧ ∃ L', L'.Perm L ∧ s.St (d ++ encV1 L' gen) w' ∧ Kept s.own w w' := by
  have hm0 := fun (w' : World) (k : Kept s.own w w') => (show w'.cell? ⟨m, 0, none⟩ = some (.map (some r)) by have := k.heap hm hmo; simp [World.cell?, this])
  have hm1 := fun (w' : World) (k : Kept s.own w w') => (show w'.cell? ⟨m, 0 + 1, none⟩ = some (.int .i32 gen) by have := k.heap hm hmo; simp [World.cell?, this])
  have c0 := hm0 w (Kept.refl _ _)
  have hlen := fun w' : World => fun (h : MapAt w' isStr r (rawT L)) => map_len (P := Tryz.prog) h Tryz.underlying90 3
  have HM0 := Lib.hid hm0; clear hm0
  have HM1 := Lib.hid hm1; clear hm1
  have hmt := s.mArr.m
  have hnl := s.mArr.n
  have hcf := s.mArr.c
  have hl0 := hlen w hL.map
  have hrl : (rawT L).length = L.length := by simp [rawT]
  have hmax := s.hmax
  have hroom0 : d.length + 4 ≤ s.max := by simp [encV1, be32] at hroom; omega
  have hLn : L.length ≤ 100000000 := by
    have : L.length ≤ (encTs L).length := by
      have : ∀ M : Tops, M.length ≤ (encTs M).length := by
        intro M
        induction M with
        | nil => simp [encTs]
        | cons y M ih =>
          simp only [encTs, List.flatMap_cons, List.length_append, encT, encStr_length, List.length_cons] at *
          omega
      exact this L
    simp [encV1] at hroom; omega
  have hcall := s.cArr (rawT L).length (s.drew hs) hroom0 (by omega)
  have hHS : ∀ w', Kept s.own w.drew w' → w'.cell? ⟨m, 0, none⟩ = some (.map (some r)) ∧ MapAt w' isStr r (rawT L) := fun w' k => ⟨HM0.out w' k.of_drew, hL.map.kept k.of_drew hro⟩
  have HHS := Lib.hid hHS; clear hHS
  have HCall := Lib.hid hcall; clear hcall
  have HRL := Lib.hid hrl; clear hrl
  go_enter Tryz.func407, Tryz.ntmps407
  go_wp2
  go_region_held3 (fun w' => w'.cell? ⟨m, 0, none⟩ = some (.map (some r)) ∧ MapAt w' isStr r (rawT L)) (first | exact HHS.out _ hk | exact ⟨c0, hL.map⟩)
    (first | (refine HCall.out.mono ?_; rintro e w1 ⟨rfl, hs1, hk⟩))
  clear hl0
  rw [HRL.out] at hs1
  have hk := hk.of_drew
  have c1 := HM0.out w1 hk
  have hmap1 := hL.map.kept hk hro
  have hsz1 := hk.size
  have hmt := s.mStr.m
  have hnl := s.mStr.n
  have hcf := s.mStr.c
  have hmt2 := s.mInts.m
  have hnl2 := s.mInts.n
  have hcf2 := s.mInts.c
  clear hlen
  go_wp2_with (refine wl_range rfl rfl rfl Tryz.underlying90 hmap1 ?_; intro w2 hit2 hmap2 hk2 hsz2)
  go_frame
  have hk02 := hk.trans hk2 (U := s.own) (fun _ h => h) (by simp)
  have hs2 := s.kept hs1 hk2 (by simp)
  clear hmap1 hs1
  have hito : w1.heap.size ∉ s.own := fun hh => by have := s.lt hs _ hh; omega
  have hitr : w1.heap.size ≠ r := by have := hL.map.lt; omega
  have hitm : w1.heap.size ≠ m := by have := lt_of_heap hm; omega
  have hitg : ∀ x ∈ L, ∀ g, x.2.1.ownBlock = some g → g < w.heap.size ∨ x.2.2 = [] := fun x hx g hg => by
    obtain ⟨⟨a, c, hv⟩, hsl, _⟩ := hL.parts x hx
    rw [hv] at hg hsl
    obtain ⟨_, ⟨_, h0, _⟩ | ⟨g', off, rfl, hc⟩⟩ := hsl.cases
    · exact .inr (List.eq_nil_of_length_eq_zero h0)
    · cases hg
      cases hxs : x.2.2 with
      | nil => exact .inr rfl
      | cons y ys => exact .inl (World.block_lt_of_cell? w _ (hc 0 (.int .i32 y) (by simp [i32s, hxs])))
  have HITG := Lib.hid hitg; clear hitg
  have HSZ := Lib.hid hsz; clear hsz
  have HPO := Lib.hid hpo; clear hpo
  generalize w1.heap.size = it at *
  go_loopw [6] (fun _ wr => ∃ D M : Tops, (D ++ M).Perm L ∧ IterAt wr it r (rawT L) (rawT M) ∧ s.St (d ++ be32 L.length ++ encTs D) wr ∧ Kept s.own w wr ∧ w2.heap.size ≤ wr.heap.size) (fun _ wr => leftOf wr it r)
  case atStart => exact ⟨[], L, by simp, hit2, by simpa [encTs] using hs2, hk02, Nat.le_refl _⟩
  case round =>
    obtain ⟨D, M, hperm, hit, hst, hkw, hszw⟩ := hrel
    cases M with
    | nil =>
      have hit0 : IterAt wr it r (rawT L) [] := hit
      clear hit
      have cg := HM1.out wr hkw
      have hst' : s.St (d ++ be32 ↑L.length ++ encTs D) wr.drew := s.drew hst
      have hroomx : (d ++ be32 ↑L.length ++ encTs D).length + 4 ≤ s.max := by
        have h1 := encTs_perm_length hperm
        simp only [List.append_nil] at h1
        simp only [List.length_append]
        simp only [encV1, List.length_append, be32, List.length_cons, List.length_nil] at hroom ⊢
        omega
      have hc := s.cI32 gen hst' hroomx hg
      have HC := Lib.hid hc; clear hc
      have HP := Lib.hid hperm; clear hperm
      have hmt' := s.mI32.m
      have hnl' := s.mI32.n
      have hcf' := s.mI32.c
      have hkg : ∀ w', Kept s.own wr.drew w' → w'.cell? ⟨m, 0 + 1, none⟩ = some (.int .i32 gen) := fun w' k => HM1.out w' (hkw.trans k.of_drew (fun _ h => h) (fun y hy _ => hy))
      have HKG := Lib.hid hkg; clear hkg
      go_wp2_with (refine wl_next0 rfl rfl rfl hit0 hitr ?_)
      go_region_held3 (fun w' => w'.cell? ⟨m, 0 + 1, none⟩ = some (.int .i32 gen)) (first | exact HKG.out _ hk | exact cg)
        (first | (refine HC.out.mono ?_; rintro e w3 ⟨rfl, hs3, hk⟩))
      go_wp2
      go_ret
      have hpm := HP.out
      rw [List.append_nil] at hpm
      refine ⟨rfl, D, hpm, ?_, hkw.trans hk.of_drew (fun _ h => h) (fun y hy _ => hy)⟩
      unfold encV1
      rw [hpm.length_eq]
      simpa [List.append_assoc] using hs3
    | cons x0 M0 =>
      have hne0 : rawT (x0 :: M0) ≠ [] := by simp [rawT]
      generalize x0 :: M0 = M at *
      have HP := Lib.hid hperm; clear hperm
      go_wp2_with (first | (refine wl_next1 rfl rfl rfl hit hitr hne0 ?_; intro k v l1 l2 w3 hsplit hit3 hent hk3 hsz3; obtain ⟨L1, x, L2, hM, hl1, hl2, hk, hv⟩ := rawT_split hsplit; clear hsplit) | (refine wl_entry rfl rfl rfl hent ?_) | fail)
      subst hM hl1 hl2 hk hv
      have hxL : x ∈ L := HP.out.mem_iff.1 (by simp)
      have hkw3 : Kept s.own w w3 := hkw.trans hk3 (fun _ h => h) (fun y hy hyw => by simp at hy; omega)
      have hst3 := s.kept hst hk3 (fun y hy => by simp; rintro rfl; exact hito hy)
      have hperm' : (D ++ [x] ++ (L1 ++ L2)).Perm L := by
        refine List.Perm.trans ?_ HP.out
        simp only [List.append_assoc]
        refine List.Perm.append_left D ?_
        rw [List.singleton_append]
        exact (List.perm_middle (a := x) (l₁ := L1) (l₂ := L2)).symm
      have HP' := Lib.hid hperm'; clear hperm'
      have hroomx : (d ++ be32 ↑L.length ++ encTs D).length + (encStr x.1).length + (encInts x.2.2).length + 4 ≤ s.max := by
        have h1 := encTs_perm_length HP'.out
        rw [show encTs (D ++ [x] ++ (L1 ++ L2)) = encTs D ++ encStr x.1 ++ encInts x.2.2 ++ encTs (L1 ++ L2) from by simp [encTs, encT]] at h1
        simp only [List.length_append] at h1 ⊢
        simp only [encV1, List.length_append, be32, List.length_cons, List.length_nil] at hroom ⊢
        omega
      have hc1 := s.cStr x.1 hst3 (by omega) (HSZ.out x hxL)
      have HC1 := Lib.hid hc1; clear hc1
      refine HC1.out.mono ?_
      rintro e w4 ⟨rfl, hst4, hk4⟩
      go_wp2_with fail
      have hkw4 : Kept s.own w w4 := hkw3.trans hk4 (fun _ h => h) (fun y hy _ => hy)
      have hsli := (hL.parts x hxL).kept hkw4 (HPO.out x hxL)
      have hc2 := s.cInts' x.2.1 x.2.2 hst4 (by rw [List.length_append]; omega) hsli (HPO.out x hxL)
      have HC2 := Lib.hid hc2; clear hc2
      refine HC2.out.mono ?_
      rintro e w5 ⟨rfl, hst5, hk5⟩
      have hkw5 : Kept s.own w w5 := hkw4.trans hk5 (fun _ h => h) (fun y hy _ => hy)
      have hit5 := (hit3.kept hk4 hito hro).kept hk5 hito hro
      have hsz5 : w2.heap.size ≤ w5.heap.size := by have := hk4.size; have := hk5.size; omega
      have hm1 := hit.leftOf
      have hm2 := hit5.leftOf
      have HM1' := Lib.hid hm1; clear hm1
      have HM2' := Lib.hid hm2; clear hm2
      go_wp2
      go_roundw
      case rel =>
        refine ⟨D ++ [x], L1 ++ L2, HP'.out, by simpa [rawT] using hit5, ?_, hkw5, hsz5⟩
        rw [encTs_snoc]
        simpa [List.append_assoc] using hst5
      case measure => rw [HM1'.out, HM2'.out]; simp [rawT]
end Go.Proofs.YticcnlpfmekagaaGreat
