/- Part 29 of 51 of the proof of the row: the texts Pop, DecV, Ud. -/
import Derived.Test.YticcnlpfmekagaaGreatRd21
import Derived.Test.YticcnlpfmekagaaGreatRd22
import Derived.Test.YticcnlpfmekagaaGreatRd28
namespace Go.Proofs.YticcnlpfmekagaaGreat
open Go Go.Proofs Go.RowKit Go.Lib
open Classical
set_option linter.unusedVariables false
set_option linter.unusedSimpArgs false

/-! ## populateTopicPartitions (411) -/

def Rs.tops (r : Nat) (T : Tops) : Res where
  foot := r :: T.flatMap (fun x => x.2.1.ownBlock.toList)
  holds := fun w => TopsAt w r T
  stable := fun w w' S k hs h => h.kept k (hs r (by simp)) (fun x hx g hg => hs g (by
    refine List.mem_cons_of_mem _ (List.mem_flatMap.2 ⟨x, hx, by simp [hg]⟩)))
theorem tops_foot (r : Nat) (T : Tops) : r ∈ (Rs.tops r T).foot := by simp [Rs.tops]
def tpsOf (x : ByteArray × List Int) : List TP := x.2.map fun n => (x.1, n)
theorem rawT_append (A B : Tops) : rawT (A ++ B) = rawT A ++ rawT B := by simp [rawT]
theorem rawT_nil {A : Tops} (h : rawT A = []) : A = [] := by simpa [rawT] using h
abbrev itTops (r : Nat) (T : Tops) (lf : List (Value × Value)) (it : Nat) : Res := Rs.it (Rs.tops r T) r (rawT T) lf it (tops_foot r T)
def topTps (T : Tops) : List TP := T.flatMap fun x => tpsOf (x.1, x.2.2)
theorem topTps_append (A B : Tops) : topTps (A ++ B) = topTps A ++ topTps B := by simp [topTps]
theorem topTps_perm {A B : Tops} (h : A.Perm B) : (topTps A).Perm (topTps B) := h.flatMap_right _

def PopInv (w : World) (r it : Nat) (T : Tops) (v : Value) (wr : World) : Prop :=
  ∃ (Dn Lf : Tops) (na : Nat) (ps : List TP), ps = topTps Dn ∧ ps.length = na ∧ (Dn ++ Lf).Perm T ∧ St [] w wr [Rs.row 384 2 v na (ps.flatMap encTp)] [itTops r T (rawT Lf) it]
def PopIn (w : World) (r it : Nat) (T : Tops) (R : List Res) (top : ByteArray) (xs : List Int) (xn : Nat) (ps : List TP) (v i : Value) (wr : World) : Prop :=
  ∃ (k na : Nat), i = .int .i64 k ∧ k ≤ xn ∧ (ps ++ tpsOf (top, xs.take k)).length = na ∧ St [] w wr [Rs.row 384 2 v na ((ps ++ tpsOf (top, xs.take k)).flatMap encTp)] R
theorem tpsOf_len (top : ByteArray) (xs : List Int) : (tpsOf (top, xs)).length = xs.length := by simp [tpsOf]
theorem tpsOf_snoc (ps : List TP) (top : ByteArray) (xs : List Int) (k : Nat) (n : Int) (h : xs[k]? = some n) : ps ++ tpsOf (top, xs.take k) ++ [(top, n)] = ps ++ tpsOf (top, xs.take (k + 1)) := by
  obtain ⟨h1, h2⟩ := List.getElem?_eq_some_iff.1 h
  rw [List.take_succ_eq_append_getElem h1, h2]
  simp [tpsOf]
def PopPost (w : World) (T : Tops) (e : Ending) (w' : World) : Prop :=
  ∃ (v : Value) (n : Nat) (ps : List TP), e = .returned v ∧ ps.length = n ∧ ps.Perm (topTps T) ∧ St [] w w' [Rs.row 384 2 v n (ps.flatMap encTp)] []

set_option maxRecDepth 100000 in
set_option maxHeartbeats 4000000 in
theorem populate_any (r : Nat) (T : Tops) (w : World) (how : Ow w [Rs.tops r T]) (hb : (topTps T).length ≤ 100000) : Calls Tryz.prog 411 #[.map (some r)] w (PopPost w T) := by
  have hst0 : St [] w w [] [Rs.tops r T] := St.start0 how
  have HB := Lib.hid hb; clear hb how
  go_enter Tryz.func411, Tryz.ntmps411
  go_wp2_with (first
    | (refine wl_mkslice 0 rfl rfl rfl rfl elTp hst0 (by omega) (by unfold maxLen; omega) ?_
       intro g w1 hst1 hg)
    | (refine wl_rngR 0 rfl rfl rfl Tryz.underlying90 hst1 rfl (tops_foot r T) (show TopsAt _ r T from hst1.r 0 rfl).map ?_
       intro it w2 hst2 hit)
    | fail)
  simp only [List.set_cons_zero] at hst2
  have hfit : w.heap.size ≤ it := by have := hst1.size; omega
  have HFIT := Lib.hid hfit; clear hfit hit hg hst1 hst0
  have h10 : PopInv w r it T (.slice (some ⟨g, 0, none⟩) 0 0) w2 := ⟨[], T, 0, [], rfl, rfl, .refl _, hst2⟩
  have H10 := Lib.hid h10; clear h10 hst2
  try go_frame
  go_loopw [3] (fun v wr => PopInv w r it T v wr) (fun _ wr => leftOf wr it r)
  case atStart => exact H10.out
  case round =>
    obtain ⟨Dn, Lf, na, ps, hps, hna, hperm, hst⟩ := hrel
    by_cases hlf : rawT Lf = []
    · have h0 := rawT_nil hlf
      subst h0
      have hit0 : IterAt wr it r (rawT T) [] := (hst.r 0 rfl).2.1
      have hst1 := hst.noR
      rw [List.append_nil] at hperm
      have HF := Lib.hid (And.intro hst1 (And.intro hna (show ps.Perm (topTps T) from by rw [hps]; exact topTps_perm hperm))); clear hst1 hna hperm hps hst
      go_wp2_with (first | (refine wl_nx0 rfl rfl rfl hit0 ?_) | fail)
      go_ret
      exact ⟨_, na, ps, rfl, HF.out.2.1, HF.out.2.2, HF.out.1⟩
    · obtain ⟨wB, rfl⟩ : ∃ wB, wB = wr := ⟨_, rfl⟩
      have HL := Lib.hid (And.intro hperm (And.intro hps hna)); clear hperm hna
      go_wp2_with (first
        | (refine wl_nx1R 0 (tops_foot r T) rfl rfl rfl hst rfl hlf HFIT.out ?_
           intro k v l1 l2 w3 hsp hst2 hent
           simp only [List.set_cons_zero] at hst2
           obtain ⟨L1, x, L2, rfl, rfl, rfl, rfl, rfl⟩ := rawT_split hsp
           obtain ⟨top, xv, xs⟩ := x
           have hxT : (top, xv, xs) ∈ T := HL.out.1.mem_iff.1 (by simp)
           obtain ⟨⟨xa, xc, hxv⟩, hxs, _⟩ := (show TopsAt w3 r T from (hst2.r 0 rfl).1).parts _ hxT
           simp only at hxv hxs
           subst hxv
           obtain ⟨xn, hxn⟩ : ∃ xn, xs.length = xn := ⟨_, rfl⟩
           rw [hxn] at hxs hent
           have HS := Lib.hid (And.intro hsp (And.intro hxT hxn)); clear hsp hxT hxs)
        | (refine wl_entry rfl rfl rfl hent ?_)
        | fail)
      have hlx : ps.length + xs.length ≤ 100000 := by
        have h1 := (topTps_perm HL.out.1).length_eq
        have h2 := HB.out
        simp only [topTps_append, List.length_append, HL.out.2.1] at h1 ⊢
        have h3 : (topTps ((top, Value.slice xa xs.length xc, xs) :: L2)).length = xs.length + (topTps L2).length := by simp [topTps, tpsOf]
        have h4 : (topTps (L1 ++ (top, Value.slice xa xs.length xc, xs) :: L2)).length = (topTps L1).length + (topTps ((top, Value.slice xa xs.length xc, xs) :: L2)).length := by simp [topTps]
        rw [topTps_append] at h4
        simp only [List.length_append] at h4
        omega
      have hxb : xn ≤ 100000 := by have := HS.out.2.2; omega
      have HLX := Lib.hid hlx; clear hlx hps
      have h20 : PopIn w r it T [itTops r T (rawT L1 ++ rawT L2) it] top xs xn ps u3 (.int .i64 0) w3 := ⟨0, na, rfl, Nat.zero_le _, by simpa [tpsOf] using HL.out.2.2, by simpa [tpsOf] using hst2⟩
      have H20 := Lib.hid h20; clear h20
      have hk0 := hst2
      have HK := Lib.hid hst2; clear hst2 hk0 hent
      go_loopw [3, 18] (fun v i wr => PopIn w r it T [itTops r T (rawT L1 ++ rawT L2) it] top xs xn ps v i wr) (fun _ i _ => xn - (intOf i).toNat)
      case atStart => exact H20.out
      case round =>
        obtain ⟨k, na2, rfl, hk, hna2, hst3⟩ := hrel
        clear H20
        by_cases hkn : k < xn
        · obtain ⟨n, hn⟩ : ∃ n, xs[k]? = some n := ⟨_, List.getElem?_eq_getElem (by rw [HS.out.2.2]; exact hkn)⟩
          have hpt := ((show TopsAt wr r T from (hst3.r 0 rfl).1).parts _ HS.out.2.1).2.1
          simp only [HS.out.2.2] at hpt
          obtain ⟨b, off, cap, hv, hcells⟩ : ∃ b off cap, Value.slice xa xn xc = .slice (some ⟨b, off, none⟩) xn cap ∧ ∀ j u, (i32s xs)[j]? = some u → wr.cell? ⟨b, off + j, none⟩ = some u := by
            rcases hpt.2.2 with ⟨_, _, _, h0⟩ | h
            · omega
            · exact h
          simp only [Value.slice.injEq] at hv
          obtain ⟨rfl, _, rfl⟩ := hv
          have c1 := hcells k (.int .i32 n) (by simp [i32s, hn])
          have hki : (k : Int) < (xn : Int) := by omega
          have hnb : na2 ≤ 100000 := by
            have h1 := HLX.out
            have h2 := HS.out.2.2
            rw [← hna2, List.length_append, tpsOf_len, List.length_take]; omega
          have hsn := tpsOf_snoc ps top xs k n hn
          have hen := enc_snoc (ps ++ tpsOf (top, xs.take k)) (top, n)
          simp only at hen
          have HN := Lib.hid (And.intro hsn hna2); clear hsn hna2 hn hpt hcells
          go_wp2_with (first
            | (refine wl_build1 (x := tpV (top, n)) rfl rfl rfl (build_tp (top, n) _) ?_)
            | (refine wl_push 0 rfl rfl elTp rfl rfl (hst3.alloc _) rfl ((new_tp _ (top, n)).src Tryz.underlying375) (by omega) (by omega) ?_
               intro v' w7 hst7
               simp only [List.set_cons_zero] at hst7
               rw [hen, HN.out.1] at hst7)
            | fail)
          exact ⟨⟨k + 1, na2 + 1, by go_num, by omega, by rw [← HN.out.1, List.length_append, HN.out.2]; rfl, hst7⟩, by simp [intOf]; omega⟩
        · obtain rfl : k = xn := by omega
          rw [List.take_of_length_le (by rw [HS.out.2.2]; exact Nat.le_refl _)] at hst3 hna2
          have e : rawT L1 ++ rawT L2 = rawT (L1 ++ L2) := by rw [rawT_append]
          rw [e] at hst3
          have hps2 : ps ++ tpsOf (top, xs) = topTps (Dn ++ [(top, .slice xa k xc, xs)]) := by rw [HL.out.2.1, topTps_append]; simp [topTps]
          have h1 : IterAt wr it r (rawT T) (rawT (L1 ++ L2)) := (hst3.r 0 rfl).2.1
          have h2 : IterAt wB it r (rawT T) _ := (hst.r 0 rfl).2.1
          have hle : leftOf wr it r < leftOf wB it r := by
            rw [h1.leftOf, h2.leftOf, HS.out.1, ← e]
            simp
          have hfin : PopInv w r it T u3 wr := ⟨Dn ++ [(top, .slice xa k xc, xs)], L1 ++ L2, na2, ps ++ tpsOf (top, xs), hps2, hna2, by
            refine List.Perm.trans ?_ HL.out.1
            rw [HS.out.2.2, List.append_assoc]
            exact List.Perm.append_left _ (by simpa using (List.perm_middle (l₁ := L1) (l₂ := L2) (a := ((top, .slice xa k xc, xs) : ByteArray × Value × List Int))).symm), hst3⟩
          have HFN := Lib.hid (And.intro hfin hle); clear hfin hle h1 h2 hst3 hna2
          go_wp2_with fail
          exact HFN.out
end Go.Proofs.YticcnlpfmekagaaGreat
namespace Go.Proofs.YticcnlpfmekagaaGreat
open Go Go.Proofs Go.RowKit
set_option linter.unusedVariables false
set_option linter.unusedSimpArgs false

/-! ## The decoder of sticky user data (406) -/

def v1Bytes (D : List (ByteArray × List Int)) (gen : Int) : List Value := be32 D.length ++ D.flatMap encTP ++ be32 (gen % 4294967296)
def V1At (w : World) (lo m : Nat) (D : List (ByteArray × List Int)) (gen : Int) : Prop :=
  ∃ (r : Nat) (v : Value) (N : Nat) (ps : List TP), w.heap[m]? = some (.cells #[.map (some r), .int .i32 gen, v] 377 (0, 0)) ∧ ps.length = N ∧ ps.Perm (D.flatMap tpsOf) ∧ w.ownsRow 0 384 2 v N (ps.flatMap encTp) ∧ (∀ y, v.ownBlock = some y → lo ≤ y ∧ y < w.heap.size)
theorem topTps_tops2 (T : Tops) : topTps T = (tops2 T).flatMap tpsOf := by simp [topTps, tops2, List.flatMap_map]

set_option maxRecDepth 100000 in
set_option maxHeartbeats 2000000 in
theorem v1_decode (b g off cap m : Nat) (gen : Int) (D : List (ByteArray × List Int)) (w : World) (hd : Dec w b g off cap (v1Bytes D gen) 0)
    (hm : w.heap[m]? = some (.cells #[.map none, .int .i32 0, .slice none 0 0] 377 (0, 0))) (hmb : m ≠ b) (hmg : m ≠ g) (hgen : isI32 gen) (hnd : (D.map (·.1)).Nodup) (hD : ∀ x ∈ D, TPOk x) (hDl : D.length ≤ 1000000) (htot : (D.flatMap tpsOf).length ≤ 100000) (hgw : g < w.heap.size) :
    Calls Tryz.prog 406 #[.pointer (some ⟨m, 0, none⟩), .iface 215 (.pointer (some ⟨b, 0, none⟩))] w fun e w' => e = .returned .nilIface ∧ V1At w' w.heap.size m D gen ∧ Dec w' b g off cap (v1Bytes D gen) (v1Bytes D gen).length ∧ Kept [b, m] w w' := by
  have hmt2 := rdArr.m
  have hnl2 := rdArr.n
  have hcf2 := rdArr.c
  have hmt3 := rdStr.m
  have hnl3 := rdStr.n
  have hcf3 := rdStr.c
  have hmt4 := rdInts.m
  have hnl4 := rdInts.n
  have hcf4 := rdInts.c
  have hmt5 := rdI32.m
  have hnl5 := rdI32.n
  have hcf5 := rdI32.c
  have hmk : ∀ w : World, (Instr.makeMap 90 (some (.int .i64 D.length))).run Tryz.prog w = .ok (.map (some w.heap.size)) (w.alloc (.map #[] 0)) := fun w => by simp [Instr.makeMap, go_sem]
  have e2 : v1Bytes D gen = [] ++ be32 D.length ++ (D.flatMap encTP ++ be32 (gen % 4294967296)) := by simp [v1Bytes]
  have e5 : v1Bytes D gen = be32 D.length ++ D.flatMap encTP ++ be32 (gen % 4294967296) ++ [] := by simp [v1Bytes]
  have hes : ∀ j x, D[j]? = some x → v1Bytes D gen = (be32 D.length ++ (D.take j).flatMap encTP) ++ encStr x.1 ++ (encInts x.2 ++ ((D.drop (j + 1)).flatMap encTP ++ be32 (gen % 4294967296))) ∧
      v1Bytes D gen = (be32 D.length ++ (D.take j).flatMap encTP ++ encStr x.1) ++ encInts x.2 ++ ((D.drop (j + 1)).flatMap encTP ++ be32 (gen % 4294967296)) := fun j x hj => by
    have h1 := (flat_split D j x hj).1
    constructor
    · unfold v1Bytes; rw [h1]; simp [encTP]
    · unfold v1Bytes; rw [h1]; simp [encTP]
  generalize hcs : v1Bytes D gen = cs at *
  have hlen : cs.length = (be32 (D.length : Int) ++ D.flatMap encTP ++ be32 (gen % 4294967296)).length := by rw [e5, List.append_nil]
  have h2 := at_arr (w := w) (b := b) (g := g) (off := off) (cap := cap) D.length (by rw [List.length_append]; have := encTPs_ge D; omega) (by omega) e2 hd
  rw [List.nil_append] at h2
  have H2 := Lib.hid h2; clear h2
  have h3 := fun (w1 : World) (j : Nat) (x : ByteArray × List Int) (hj : D[j]? = some x) (h : Dec w1 b g off cap cs (be32 (D.length : Int) ++ (D.take j).flatMap encTP).length) => at_str x.1 (hD x (List.mem_of_getElem? hj)).top (hes j x hj).1 h
  have H3 := Lib.hid h3; clear h3
  have h4 := fun (w1 : World) (j : Nat) (x : ByteArray × List Int) (hj : D[j]? = some x) (hgw : g < w1.heap.size) (h : Dec w1 b g off cap cs (be32 (D.length : Int) ++ (D.take j).flatMap encTP ++ encStr x.1).length) =>
    at_ints x.2 (hD x (List.mem_of_getElem? hj)).i32 (by have := (hD x (List.mem_of_getElem? hj)).len; omega) hgw (hes j x hj).2 h
  have H4 := Lib.hid h4; clear h4
  have h5 := fun (w1 : World) (h : Dec w1 b g off cap cs (be32 (D.length : Int) ++ D.flatMap encTP).length) => at_i32 gen hgen e5 h
  have H5 := Lib.hid h5; clear h5
  have HLEN := Lib.hid hlen; clear hlen
  have HND := Lib.hid (And.intro hnd htot); clear hnd htot
  clear e2 e5 hes hcs
  obtain ⟨hc0, hz0⟩ := cells_of hm
  have HM := Lib.hid hm; clear hm
  have hbw := hd.lt
  have hmw := lt_of_heap HM.out
  clear hd hD
  generalize hDn : D.length = n at *
  have HDN := Lib.hid hDn; clear hDn
  go_enter Tryz.func406, Tryz.ntmps406
  go_wp2_with (first
    | (go_at_call 335
       refine H2.out.mono ?_
       rintro e w2 ⟨rfl, hd2, hk2⟩
       have hm2 := hk2.heap HM.out (by simpa using hmb)
       have hkw2 : Kept [b, m] w w2 := hk2.mono (by simp)
       have hm2a : (w2.alloc (.map #[] 0)).heap[m]? = some (.cells #[.map none, .int .i32 0, .slice none 0 0] 377 (0, 0)) := ha hm2
       obtain ⟨hc2, hz2⟩ := cells_of hm2a
       have q1 := hc2 0 _ rfl
       have y1 := hz2 0
       have HD2 := Lib.hid (And.intro hd2 (And.intro hkw2 hm2)); clear hd2 hm2 hm2a hc2 hz2 hk2 hkw2)
    | fail)
  have hr2 := HD2.out.2.1.size
  have hmr : m ≠ w2.heap.size := by omega
  have hbr : b ≠ w2.heap.size := by omega
  have hgr : g ≠ w2.heap.size := by omega
  have hw3 : ∀ W : World, W = (w2.alloc (.map #[] 0)).setCell ⟨m, 0, none⟩ (.map (some w2.heap.size)) → Dec W b g off cap cs (be32 (n : Int)).length ∧ W.heap[m]? = some (.cells #[.map (some w2.heap.size), .int .i32 0, .slice none 0 0] 377 (0, 0)) ∧ TopsAt W w2.heap.size [] ∧ Kept [b, m] w W ∧ w2.heap.size < W.heap.size := by
    intro W e
    subst e
    have hka : Kept [m] w2 ((w2.alloc (.map #[] 0)).setCell ⟨m, 0, none⟩ (.map (some w2.heap.size))) := ((Kept.refl _ _).alloc _).setCell _ (by simp)
    refine ⟨HD2.out.1.kept hka (by simpa using hmb.symm) (by simpa using hmg.symm), ?_, ⟨(MapAt.new w2 isStr).setCell _ _ (by simpa using hmr.symm), by simp⟩, HD2.out.2.1.trans hka (fun _ h => h) (by simp), by simp⟩
    simpa using row_set (ha HD2.out.2.2 : (w2.alloc (.map #[] 0)).heap[m]? = _) 0 (.map (some w2.heap.size))
  have HW3 := Lib.hid (hw3 _ rfl); clear hw3
  generalize w2.heap.size = r at *
  go_loopw [6] (fun i wr => ∃ (j : Nat) (T : Tops), j ≤ n ∧ i = .int .i64 j ∧ Dec wr b g off cap cs (be32 (n : Int) ++ (D.take j).flatMap encTP).length ∧ wr.heap[m]? = some (.cells #[.map (some r), .int .i32 0, .slice none 0 0] 377 (0, 0)) ∧ TopsAt wr r T ∧ tops2 T = D.take j ∧
    (∀ x ∈ T, ∀ y, x.2.1.ownBlock = some y → w.heap.size ≤ y ∧ y < wr.heap.size ∧ y ≠ r) ∧ Kept [b, m] w wr ∧ r < wr.heap.size) (fun i _ => n - (intOf i).toNat)
  case atStart => exact ⟨0, [], Nat.zero_le _, rfl, by simpa using HW3.out.1, HW3.out.2.1, HW3.out.2.2.1, by simp [tops2], by simp, HW3.out.2.2.2.1, HW3.out.2.2.2.2⟩
  case round =>
    obtain ⟨j, T, hj, rfl, hd, hmr', hT, hTD, hfr, hkr, hrl⟩ := hrel
    by_cases hjn : j < n
    · obtain ⟨x, hx⟩ : ∃ x, D[j]? = some x := ⟨_, List.getElem?_eq_getElem (by have := HDN.out; omega)⟩
      have hcs := H3.out wr j x hx hd
      have HCS := Lib.hid hcs; clear hcs
      have hsl := (flat_split D j x hx).2
      have hmiss : ∀ u, (Value.string x.1, u) ∉ rawT T := by
        intro u hu
        unfold rawT at hu
        obtain ⟨y, hy, hye⟩ := List.mem_map.1 hu
        have hyt : y.1 = x.1 := by simpa using (Prod.mk.inj hye).1
        have hmem : (y.1, y.2.2) ∈ D.take j := by rw [← hTD]; exact List.mem_map_of_mem (f := fun x : ByteArray × Value × List Int => (x.1, x.2.2)) hy
        obtain ⟨hk', hx'⟩ := List.getElem?_eq_some_iff.1 hx
        have hsp : D.map (·.1) = (D.take j).map (·.1) ++ x.1 :: (D.drop (j + 1)).map (·.1) := by
          conv => lhs; rw [← List.take_append_drop j D, List.drop_eq_getElem_cons hk', hx']
          simp
        have hn := HND.out.1
        rw [hsp] at hn
        exact (List.nodup_append.1 hn).2.2 _ (List.mem_map.2 ⟨_, hmem, hyt⟩) _ (by simp) rfl
      have HI := Lib.hid (And.intro hx (And.intro hsl (And.intro hmiss (And.intro hT (And.intro hTD (And.intro hfr (And.intro hkr hmr'))))))); clear hx hsl hmiss hT hTD hfr hkr hmr' hd
      have hgw' : g < wr.heap.size := by omega
      go_upto_region 11 with (first
        | (go_at_call 342
           refine HCS.out.mono ?_
           rintro e w4 ⟨rfl, hd4, hk4⟩
           have hs4 := hk4.size
           have hm4 := hk4.heap HI.out.2.2.2.2.2.2.2 (by simpa using hmb)
           have hci := H4.out w4.drew j x HI.out.1 (by simp; omega) (hd4.kept (Kept.refl [] _).drew (by simp) (by simp))
           have hS : ∀ w', Kept [b, r] w4 w' → w'.cell? ⟨m, 0, none⟩ = some (.map (some r)) := fun w' kk => kk.cell ((cells_of hm4).1 0 _ rfl) (by simp; omega)
           have hT4 := HI.out.2.2.2.1.kept hk4 (by simpa using hbr.symm) (fun y hy q hq => by have := HI.out.2.2.2.2.2.1 y hy q hq; simp; omega)
           have HS := Lib.hid hS; clear hS
           have HCI := Lib.hid hci; clear hci
           have H44 := Lib.hid (And.intro hd4 (And.intro hk4 (And.intro hm4 hT4))); clear hd4 hk4 hm4 hT4)
        | fail)
      go_region_held3 (fun w' => w'.cell? ⟨m, 0, none⟩ = some (.map (some r)))
        (first | with_reducible exact HS.out _ (Kept.refl _ _).drew | with_reducible exact HS.out _ hk5' | with_reducible exact HS.out _ hk6' | fail)
        (first
          | (go_at_call 340
             refine HCI.out.mono ?_
             rintro e w5 ⟨R, ⟨rfl, hd5, hk5⟩, hsi5, hR5, hRl⟩
             have hk5' : Kept [b, r] w4 w5 := hk5.of_drew.mono (by simp)
             have hT5 := H44.out.2.2.2.kept hk5.of_drew (by simpa using hbr.symm) (fun y hy q hq => by have := HI.out.2.2.2.2.2.1 y hy q hq; simp; omega)
             have HT5 := Lib.hid (And.intro hT5 (And.intro hd5 (And.intro hk5.of_drew (And.intro hsi5 hR5)))); clear hT5 hd5 hk5 hsi5)
          | (refine up_update (fun _ _ => rfl) (keyT_str Tryz.underlying9) Tryz.underlying90 HT5.out.1.map ⟨_, rfl⟩ ?_
             intro w6 hm6 hk6 hs6
             have hk6' : Kept [b, r] w4 w6 := hk5'.trans hk6 (fun _ h => h) (by simp))
          | fail)
      have hend : Dec w6 b g off cap cs (be32 (n : Int) ++ (D.take (j + 1)).flatMap encTP).length ∧ w6.heap[m]? = some (.cells #[.map (some r), .int .i32 0, .slice none 0 0] 377 (0, 0)) ∧ TopsAt w6 r (T ++ [(x.1, .slice (some ⟨R, 0, none⟩) x.2.length x.2.length, x.2)]) ∧
          tops2 (T ++ [(x.1, .slice (some ⟨R, 0, none⟩) x.2.length x.2.length, x.2)]) = D.take (j + 1) ∧ (∀ z ∈ T ++ [(x.1, .slice (some ⟨R, 0, none⟩) x.2.length x.2.length, x.2)], ∀ y, z.2.1.ownBlock = some y → w.heap.size ≤ y ∧ y < w6.heap.size ∧ y ≠ r) ∧ Kept [b, m] w w6 ∧ r < w6.heap.size := by
        obtain ⟨hx, hsl, hmiss, hT, hTD, hfr, hkr, hmr'⟩ := HI.out
        obtain ⟨hd4, hk4, hm4, hT4⟩ := H44.out
        obtain ⟨hT5, hd5, hk5, hsi5, hR5⟩ := HT5.out
        have hs5 := hk5.size
        have hsr := hkr.size
        have hk46 : Kept [b, r] wr w6 := (hk4.mono (T := [b, r]) (by simp)).trans hk6' (fun _ h => h) (fun _ h _ => h)
        refine ⟨?_, ?_, ⟨?_, ?_⟩, ?_, ?_, ?_, by omega⟩
        · have := hd5.kept hk6 (by simpa using hbr) (by simpa using hgr)
          rw [hsl]
          simpa [encTP, List.append_assoc, Nat.add_assoc] using this
        · exact hk6'.heap hm4 (by simp; omega)
        · rw [putE_miss hmiss] at hm6
          simpa [rawT] using hm6
        · intro z hz
          rcases List.mem_append.1 hz with hz | hz
          · exact (hT5.parts z hz).kept hk6 (fun y hy => by have := hfr z hz y hy; simp; omega)
          · simp only [List.mem_cons, List.not_mem_nil, or_false] at hz
            subst hz
            exact hsi5.kept hk6 (fun y hy => by simp [Value.ownBlock] at hy; simp at hR5 ⊢; omega)
        · obtain ⟨h1, h2⟩ := List.getElem?_eq_some_iff.1 hx
          rw [List.take_succ_eq_append_getElem h1, h2, ← hTD]
          simp [tops2]
        · intro z hz y hy
          rcases List.mem_append.1 hz with hz | hz
          · have := hfr z hz y hy; exact ⟨this.1, by omega, this.2.2⟩
          · simp only [List.mem_cons, List.not_mem_nil, or_false] at hz
            subst hz
            simp [Value.ownBlock] at hy
            simp at hR5
            omega
        · exact hkr.trans hk46 (fun _ h => h) (fun y hy hl => by simp at hy; rcases hy with rfl | rfl; exact List.mem_cons_self ..; exfalso; omega)
      have HEND := Lib.hid hend; clear hend
      go_wp2
      go_roundw
      case rel => exact ⟨j + 1, _, by omega, by go_num, HEND.out⟩
      case measure => simp [intOf]; omega
    · obtain rfl : j = n := by omega
      rw [List.take_of_length_le (by have := HDN.out; omega)] at hd hTD
      have h5 := H5.out wr hd
      have H5' := Lib.hid h5; clear h5
      have HI := Lib.hid (And.intro hT (And.intro hTD (And.intro hfr (And.intro hkr hmr')))); clear hT hTD hfr hkr hmr' hd
      have hpl : ∀ w1, TopsAt w1 r T → r < w1.heap.size → (∀ x ∈ T, ∀ y, x.2.1.ownBlock = some y → y < w1.heap.size) → Calls Tryz.prog 411 #[.map (some r)] w1 (PopPost w1 T) := fun w1 h1 h2 h3 =>
        populate_any r T w1 (Ow.one h1 (fun y hy => by
          simp only [Rs.tops, List.mem_cons, List.mem_flatMap] at hy
          rcases hy with rfl | ⟨x, hx, hy⟩
          · exact h2
          · exact h3 x hx y (by simpa using hy))) (by rw [topTps_tops2, HI.out.2.1]; exact HND.out.2)
      have HPL := Lib.hid hpl; clear hpl
      go_wp2_with (first
        | (go_at_call 339
           refine H5'.out.mono ?_
           rintro e w4 ⟨rfl, hd4, hk4⟩
           have hm4 := hk4.heap HI.out.2.2.2.2 (by simpa using hmb)
           obtain ⟨hc4, hz4⟩ := cells_of hm4
           have q2 := hc4 1 _ rfl
           have y2 := hz4 1
           have hks : Kept [m] w4 (w4.setCell ⟨m, 1, none⟩ (.int .i32 gen)) := (Kept.refl _ _).setCell _ (by simp)
           have hms : (w4.setCell ⟨m, 1, none⟩ (.int .i32 gen)).heap[m]? = some (.cells #[.map (some r), .int .i32 gen, .slice none 0 0] 377 (0, 0)) := by simpa using row_set hm4 1 (.int .i32 gen)
           have hTs := (HI.out.1.kept hk4 (by simpa using hbr.symm) (fun y hy q hq => by have := HI.out.2.2.1 y hy q hq; simp; omega)).kept hks (by simp; omega) (fun y hy q hq => by have := HI.out.2.2.1 y hy q hq; simp; omega)
           have c0s := (cells_of hms).1 0 _ rfl
           have hs4 := hk4.size
           have HE := Lib.hid (And.intro hd4 (And.intro hk4 (And.intro hks (And.intro hms hTs)))); clear hd4 hk4 hm4 hc4 hz4 hks hms hTs)
        | (go_at_call 411
           refine (HPL.out _ HE.out.2.2.2.2 (by simp; omega) (fun x hx y hy => by have := HI.out.2.2.1 x hx y hy; simp; omega)).mono ?_
           rintro e w5 ⟨v, N, ps, rfl, hpn, hpp, hst5⟩
           have hm5 := hst5.kept.heap HE.out.2.2.2.1 (by simp)
           have q3 := (cells_of hm5).1 2 _ rfl
           have y3 := (cells_of hm5).2 2
           obtain ⟨va, vn, vc, rfl⟩ := own_form (hst5.m 0 rfl)
           have HV := Lib.hid (And.intro hpn (And.intro hpp (And.intro hst5 hm5))); clear hpn hpp hst5 hm5)
        | fail)
      go_ret
      obtain ⟨hd4, hk4, hks, hms, hTs⟩ := HE.out
      obtain ⟨hpn, hpp, hst5, hm5⟩ := HV.out
      obtain ⟨hT, hTD, hfr, hkr, hmr'⟩ := HI.out
      have hkm : Kept [m] w5 (w5.setCell ⟨m, 2, none⟩ (.slice va vn vc)) := (Kept.refl _ _).setCell _ (by simp)
      have hwr := hkr.size
      have hyf : ∀ y, (Value.slice va vn vc).ownBlock = some y → w4.heap.size ≤ y ∧ y < w5.heap.size := fun y hy => by
        have h1 := hst5.turn y (by simp [foots, Rs.row, hy])
        have h2 := hst5.lt 0 rfl y (by simp [Rs.row, hy])
        rcases h1 with h1 | h1
        · simp at h1
        · simp only [World.size_setCell] at h1; exact ⟨h1, h2⟩
      have hk45 : Kept [m] w4 w5 := hks.trans hst5.kept (fun _ h => h) (by simp)
      refine ⟨rfl, ⟨r, _, N, ps, by simpa using row_set hm5 2 (.slice va vn vc), hpn, hpp.trans (by rw [topTps_tops2, hTD]), own_kept (hst5.m 0 rfl) hkm (fun y hy => by have := hyf y hy; simp; omega), fun y hy => by have := hyf y hy; simp; omega⟩, ?_, ((hkr.trans hk4 (fun _ h => h) (by simp)).trans hk45 (fun _ h => h) (by simp)).trans hkm (fun _ h => h) (by simp)⟩
      have := (hd4.kept hk45 (by simpa using hmb.symm) (by simpa using hmg.symm)).kept hkm (by simpa using hmb.symm) (by simpa using hmg.symm)
      rw [HLEN.out]
      exact this
end Go.Proofs.YticcnlpfmekagaaGreat
namespace Go.Proofs.YticcnlpfmekagaaGreat
open Go Go.Proofs Go.RowKit
set_option linter.unusedVariables false
set_option linter.unusedSimpArgs false

/-! ## user data read: 260, 235 (not cooperative), and what is asked of it: 408, 409, 410 -/

/-- user data as it has been read, at block m -/
def UdAt (w : World) (lo m : Nat) (parts : List TP) (gen : Int) : Prop :=
  ∃ (mv v : Value) (N : Nat) (ps : List TP), w.heap[m]? = some (.cells #[mv, .int .i32 gen, v] 377 (0, 0)) ∧ ps.length = N ∧ ps.Perm parts ∧ w.ownsRow 0 384 2 v N (ps.flatMap encTp) ∧ (∀ y, v.ownBlock = some y → lo ≤ y ∧ y < w.heap.size)
theorem V1At.ud {w : World} {lo m : Nat} {D : List (ByteArray × List Int)} {gen : Int} (h : V1At w lo m D gen) : UdAt w lo m (D.flatMap tpsOf) gen := by
  obtain ⟨r, v, N, ps, h1, h2⟩ := h
  exact ⟨_, v, N, ps, h1, h2⟩
theorem v1Meth : IsMeth 374 "pub-kestrel/pub/sarama.decode" 406 := ⟨fun _ _ => by kernel_rfl, fun _ _ => by kernel_rfl, fun _ _ => by kernel_rfl⟩
theorem udParts : IsMeth 374 "pub-kestrel/pub/sarama.partitions" 410 := ⟨fun _ _ => by kernel_rfl, fun _ _ => by kernel_rfl, fun _ _ => by kernel_rfl⟩
theorem udHas : IsMeth 374 "pub-kestrel/pub/sarama.hasGeneration" 409 := ⟨fun _ _ => by kernel_rfl, fun _ _ => by kernel_rfl, fun _ _ => by kernel_rfl⟩
theorem udGen : IsMeth 374 "pub-kestrel/pub/sarama.generation" 408 := ⟨fun _ _ => by kernel_rfl, fun _ _ => by kernel_rfl, fun _ _ => by kernel_rfl⟩

theorem v1Bytes_u8 (D : List (ByteArray × List Int)) (gen : Int) (hD : ∀ x ∈ D, TPOk x) (hDl : D.length ≤ 1000000) : U8L (v1Bytes D gen) :=
  ((be32_u8 _ (by omega) (by omega)).app (U8L.flat fun x hx => (encStr_u8 _ (hD x hx).top).app (encInts_u8 _ (hD x hx).len))).app (be32_u8 _ (by omega) (by omega))

set_option maxRecDepth 100000 in
set_option maxHeartbeats 1000000 in
theorem deser_v1 (g off cap : Nat) (D : List (ByteArray × List Int)) (gen : Int) (w : World) (hsl : SlAt w 1 (.slice (some ⟨g, off, none⟩) (v1Bytes D gen).length cap) (v1Bytes D gen).length (v1Bytes D gen)) (hgw : g < w.heap.size) (hcap : (v1Bytes D gen).length ≤ cap) (hsm : (v1Bytes D gen).length ≤ 1000000000)
    (hgen : isI32 gen) (hnd : (D.map (·.1)).Nodup) (hD : ∀ x ∈ D, TPOk x) (hDl : D.length ≤ 1000000) (htot : (D.flatMap tpsOf).length ≤ 100000) :
    Calls Tryz.prog 260 #[.slice (some ⟨g, off, none⟩) (v1Bytes D gen).length cap] w fun e w' => e = .returned (.tuple #[.iface 374 (.pointer (some ⟨w.heap.size, 0, none⟩)), .nilIface]) ∧ UdAt w' w.heap.size w.heap.size (D.flatMap tpsOf) gen ∧ Kept [] w w' := by
  have hu8 := v1Bytes_u8 D gen hD hDl
  have hk0 : Kept [] w (w.alloc (.cells #[.map none, .int .i32 0, .slice none 0 0] 377)) := (Kept.refl _ _).alloc _
  have hm0 : (w.alloc (.cells #[.map none, .int .i32 0, .slice none 0 0] 377)).heap[w.heap.size]? = some (.cells #[.map none, .int .i32 0, .slice none 0 0] 377 (0, 0)) := heap_alloc_new w _
  have hdc := decode_any 374 406 v1Meth w.heap.size g off cap (v1Bytes D gen) (w.alloc (.cells #[.map none, .int .i32 0, .slice none 0 0] 377)) (fun w' => V1At w' w.heap.size w.heap.size D gen) (hsl.kept hk0 (by simp)) hu8 (by simp; omega) hcap hsm (by
    intro w1 hk1 hl1 hd1
    have hm1 := hk1.heap hm0 (by simp)
    have hs1 := hk1.size
    simp only [World.size_alloc] at hs1 hl1
    refine (v1_decode _ g off cap w.heap.size gen D w1 hd1 hm1 (by simp) (by omega) hgen hnd hD hDl htot (by omega)).mono ?_
    rintro e w' ⟨rfl, h1, h2, h3⟩
    obtain ⟨r, v, N, ps, q1, q2, q3, q4, q5⟩ := h1
    exact ⟨rfl, h2, ⟨r, v, N, ps, q1, q2, q3, q4, fun y hy => by have := q5 y hy; omega⟩, h3⟩)
  have HD := Lib.hid hdc; clear hdc
  clear hm0 hu8 hsl
  generalize (v1Bytes D gen).length = N at *
  go_enter Tryz.func260, Tryz.ntmps260
  go_wp2_with (first
    | (go_at_call 82
       refine HD.out.mono ?_
       rintro e w2 ⟨rfl, hpost, hk2⟩
       have HP := Lib.hid (And.intro hpost hk2); clear hpost hk2)
    | fail)
  go_ret2
  exact ⟨rfl, HP.out.1.ud, (hk0.trans HP.out.2 (by simp) (by simp))⟩

set_option maxRecDepth 100000 in
set_option maxHeartbeats 1000000 in
theorem decode_nil (T : TypeId) (a : Addr) (w : World) : Calls Tryz.prog 82 #[.slice none 0 0, .iface T (.pointer (some a))] w fun e w' => e = .returned .nilIface ∧ w' = w := by
  have hnil := fun w => Lib.run_eql_slice_nil (P := Tryz.prog) w 28 5 none 0 0 0 0 Tryz.underlying28
  go_enter Tryz.func82, Tryz.ntmps82
  go_wp2
  go_ret
  exact ⟨rfl, rfl⟩
set_option maxRecDepth 100000 in
set_option maxHeartbeats 1000000 in
theorem deser_nil (w : World) : Calls Tryz.prog 260 #[.slice none 0 0] w fun e w' => e = .returned (.tuple #[.iface 374 (.pointer (some ⟨w.heap.size, 0, none⟩)), .nilIface]) ∧ UdAt w' w.heap.size w.heap.size [] 0 ∧ Kept [] w w' := by
  have hk0 : Kept [] w (w.alloc (.cells #[.map none, .int .i32 0, .slice none 0 0] 377)) := (Kept.refl _ _).alloc _
  have hm0 : (w.alloc (.cells #[.map none, .int .i32 0, .slice none 0 0] 377)).heap[w.heap.size]? = some (.cells #[.map none, .int .i32 0, .slice none 0 0] 377 (0, 0)) := heap_alloc_new w _
  go_enter Tryz.func260, Tryz.ntmps260
  go_wp2_with (first
    | (go_at_call 82
       refine (decode_nil 374 _ _).mono ?_
       rintro e w2 ⟨rfl, rfl⟩)
    | fail)
  go_ret2
  exact ⟨rfl, ⟨_, .slice none 0 0, 0, [], hm0, rfl, .refl _, own_nil _ _, by simp [Value.ownBlock]⟩, hk0⟩

set_option maxRecDepth 100000 in
set_option maxHeartbeats 1000000 in
theorem ud_parts (m : Nat) (mv v : Value) (gen : Int) (w : World) (h : w.heap[m]? = some (.cells #[mv, .int .i32 gen, v] 377 (0, 0))) (hv : ∃ a n c, v = .slice a n c) :
    Calls Tryz.prog 410 #[.pointer (some ⟨m, 0, none⟩)] w fun e w' => e = .returned v ∧ w' = w := by
  obtain ⟨a, n, c, rfl⟩ := hv
  have c2 := (cells_of h).1 2 _ rfl
  go_enter Tryz.func410, Tryz.ntmps410
  go_wp2
  go_ret
  exact ⟨rfl, rfl⟩
set_option maxRecDepth 100000 in
set_option maxHeartbeats 1000000 in
theorem ud_has (a : Addr) (w : World) : Calls Tryz.prog 409 #[.pointer (some a)] w fun e w' => e = .returned (.bool true) ∧ w' = w := by
  go_enter Tryz.func409, Tryz.ntmps409
  go_wp2
  go_ret
  exact ⟨rfl, rfl⟩
set_option maxRecDepth 100000 in
set_option maxHeartbeats 1000000 in
theorem ud_gen (m : Nat) (mv v : Value) (gen : Int) (hgen : isI32 gen) (w : World) (h : w.heap[m]? = some (.cells #[mv, .int .i32 gen, v] 377 (0, 0))) :
    Calls Tryz.prog 408 #[.pointer (some ⟨m, 0, none⟩)] w fun e w' => e = .returned (.int .i64 gen) ∧ w' = w := by
  have c1 := (cells_of h).1 1 _ rfl
  have hw : wrap64 gen = gen := by unfold isI32 at hgen; unfold wrap64; omega
  go_enter Tryz.func408, Tryz.ntmps408
  go_wp2
  go_ret
  refine ⟨?_, rfl⟩
  show Ending.returned (Value.int IntKind.i64 (wrap64 gen)) = _
  rw [hw]
end Go.Proofs.YticcnlpfmekagaaGreat
