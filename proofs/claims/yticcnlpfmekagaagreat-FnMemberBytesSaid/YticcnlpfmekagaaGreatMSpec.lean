import Derived.Test.YticcnlpfmekagaaGreatSpec2
import Derived.Test.YticcnlpfmekagaaGreatMFits
namespace Go.Proofs.YticcnlpfmekagaaGreat
open Go Go.Proofs Go.RowKit
set_option linter.unusedVariables false
set_option linter.unusedSimpArgs false

/-! ## spec.MemberBytes -/

def ownB (ver : Int) (owned : List Shr) : List Value := if 1 ≤ ver then be32 owned.length ++ owned.flatMap shrBytes else []
def genB (ver gen : Int) : List Value := if 2 ≤ ver then be32 (gen % 4294967296) else []
def rackB (ver : Int) (has : Bool) (rack : ByteArray) : List Value := if 3 ≤ ver then (if has then encStr rack else [.int .u8 255, .int .u8 255]) else []
def memBytes (m : Mem) : List Value := be16 (m.ver % 65536) ++ be32 m.tops.length ++ m.tops.flatMap encStr ++ specData m.data ++ ownB m.ver m.owned ++ genB m.ver m.gen ++ rackB m.ver m.has m.rack

theorem encStrs_le (l : List ByteArray) (k : Nat) (h : ∀ x ∈ l, x.size ≤ 50) : ((l.take k).flatMap encStr).length ≤ 52 * k := by
  induction l generalizing k with
  | nil => simp
  | cons y l ih =>
    cases k with
    | zero => simp
    | succ k =>
      have := ih k (fun x hx => h x (by simp [hx]))
      have h1 := h y (by simp)
      rw [List.take_succ_cons, List.flatMap_cons, List.length_append, encStr_length]; omega
theorem specData_le (data : List Value) : (specData data).length ≤ data.length + 4 := by
  unfold specData
  split
  · simp [be32]
  · simp [be32] <;> omega

theorem ff2 (w' : World) : SlAt (w'.alloc (.cells #[.int .u8 255, .int .u8 255] 5)) 1 (.slice (some ⟨w'.heap.size, 0, none⟩) 2 2) 2 [.int .u8 255, .int .u8 255] := by
  refine ⟨rfl, by simp [Value.oneCell'], .inr ⟨_, 0, 2, rfl, fun j u hj => ?_⟩⟩
  rw [Nat.zero_add]
  exact (cells_of (heap_alloc_new w' _)).1 j u (by simpa using hj)

set_option maxRecDepth 100000 in
set_option maxHeartbeats 4000000 in
theorem specMember_any (m : Mem) (w : World) (hm : MemAt w m) (hf : MemFit m) (hgen : isI32 m.gen) :
    Calls Tryz.prog 29 #[.agg (memCells m).toArray] w fun e w' => ∃ v', e = .returned v' ∧ ∃ w0, Kept [] w w0 ∧ Acc w0 w' v' (memBytes m) := by
  obtain ⟨ta, tc, da, dc, oa, oc, e, ht, hd, ho⟩ := mcs_form hm
  rw [e]
  unfold mcs
  obtain ⟨⟨hv0, hv3⟩, ⟨ht1, ht2⟩, hd1, ⟨hr1, hr2⟩, hof⟩ := hf
  clear hm e hr2
  obtain ⟨id, ver, tv, tops, dv, data, ov, owned, gen, rack, has⟩ := m
  simp only [memBytes] at *
  have hk0 : ∀ o, Kept [] w (w.alloc o) := fun o => (Kept.refl _ _).alloc o
  have HK := Lib.hid hk0; clear hk0
  have HIN := Lib.hid (And.intro ht (And.intro hd (And.intro ho (And.intro ht2 hof)))); clear ht hd ho ht2 hof
  have hg1 : -2147483648 ≤ gen := hgen.1
  have hg2 : gen ≤ 2147483647 := hgen.2
  clear hgen
  generalize htn : tops.length = tn at *
  generalize hon : owned.length = on at *
  generalize hdn : data.length = dn at *
  have HTN := Lib.hid (And.intro htn (And.intro hon hdn)); clear htn hon hdn
  go_enter Tryz.func29, Tryz.ntmps29
  go_upto_region 1 with fail
  have hB := fun w' => box8 (w := w) (w' := w') (a0 := .string id) (a1 := .int .i16 ver) (a2 := .slice ta tn tc) (a3 := .slice da dn dc) (a4 := .slice oa on oc) (a5 := .int .i32 gen) (a6 := .string rack) (a7 := .bool has) (T := 30)
  have hkM := HK.out (.cells #[.string id, .int .i16 ver, .slice ta tn tc, .slice da dn dc, .slice oa on oc, .int .i32 gen, .string rack, .bool has] 30)
  generalize (w.alloc (.cells #[.string id, .int .i16 ver, .slice ta tn tc, .slice da dn dc, .slice oa on oc, .int .i32 gen, .string rack, .bool has] 30)) = M at *
  have HB := Lib.hid hB; clear hB
  obtain ⟨_, b0, b1, b2, b3, b4, b5, b6, b7⟩ := HB.out M (Kept.refl _ _)
  have h1 := putBig2_any M M (.slice none 0 0) [] (ver % 65536) (Acc.nil (Kept.refl _ _)) (by simp) (by omega) (by omega)
  rw [Int.emod_emod, List.nil_append] at h1
  have H1 := Lib.hid h1; clear h1
  have h2 := fun (w1 : World) (v1 : Value) (ha : Acc M w1 v1 (be16 (ver % 65536))) => putBig4_any M w1 v1 _ (tn : Int) ha (by simp [be16]) (by omega) (by omega)
  rw [Int.emod_eq_of_lt (a := (tn : Int)) (by omega) (by omega)] at h2
  have H2 := Lib.hid h2; clear h2
  have hw := wrap_u16_64 ver (by unfold isI16; omega)
  rw [wrap_u16] at hw
  have hw0 := wrap_u16 ver
  have hwt : IntKind.u64.wrap (tn : Int) = tn := by simp [IntKind.wrap, IntKind.bits, IntKind.signed]; omega
  go_wp2_with (first
    | (go_at_call 52; refine H1.out.mono ?_; rintro e w1 ⟨v1, rfl, ha1⟩; have HA1 := Lib.hid ha1; obtain ⟨_, c0, c1, c2, c3, c4, c5, c6, c7⟩ := HB.out w1 ha1.kept; clear ha1 H1)
    | (go_at_call 52; refine (H2.out _ _ HA1.out).mono ?_; rintro e w2 ⟨v2, rfl, ha2⟩; have HA2 := Lib.hid ha2; obtain ⟨_, d0, d1, d2, d3, d4, d5, d6, d7⟩ := HB.out w2 ha2.kept; clear ha2 H2)
    | fail)
  go_loopw [3, 4] (fun v i wr => ∃ k : Nat, k ≤ tn ∧ i = .int .i64 k ∧ Acc M wr v (be16 (ver % 65536) ++ be32 tn ++ (tops.take k).flatMap encStr)) (fun _ i _ => tn - (intOf i).toNat)
  case atStart => exact ⟨0, Nat.zero_le _, rfl, by simpa using HA2.out⟩
  case round =>
    obtain ⟨k, hk, rfl, ha⟩ := hrel
    obtain ⟨_, e0, e1, e2, e3, e4, e5, e6, e7⟩ := HB.out wr ha.kept
    have HA := Lib.hid ha; clear ha
    have hlk := encStrs_le tops k HIN.out.2.2.2.1
    have hxs : (be16 (ver % 65536) ++ be32 (tn : Int) ++ (tops.take k).flatMap encStr).length ≤ 1000 := by simp only [List.length_append, be16, be32, List.length_cons, List.length_nil]; omega
    by_cases hlt : k < tn
    · obtain ⟨x, hkx⟩ : ∃ x, tops[k]? = some x := ⟨_, List.getElem?_eq_getElem (by have := HTN.out.1; omega)⟩
      have hts := HIN.out.1.2
      rw [HTN.out.1] at hts
      obtain ⟨g, off, rfl, hcell⟩ := strs_at hts (by omega)
      have cx := (hkM.trans HA.out.kept (U := []) (by simp) (by simp)).cell (hcell k x hkx) (by simp)
      have hx50 := HIN.out.2.2.2.1 x (List.mem_of_getElem? hkx)
      have h53 := putText_any M wr _ _ x HA.out (by omega) (by omega)
      have H53 := Lib.hid h53; clear h53
      have HX := Lib.hid hkx
      clear hcell hkx hts
      go_wp2_with (first | (go_at_call 53; refine H53.out.mono ?_; rintro e w3 ⟨v3, rfl, ha3⟩; have HA3 := Lib.hid ha3; clear ha3) | fail)
      go_roundw
      case rel =>
        refine ⟨k + 1, by omega, by go_num, ?_⟩
        obtain ⟨hk', hx'⟩ := List.getElem?_eq_some_iff.1 HX.out
        rw [List.take_succ_eq_append_getElem hk', hx', List.flatMap_append]
        simpa [List.append_assoc] using HA3.out
      case measure => simp [intOf]; omega
    · have hall : (tops.take k) = tops := List.take_of_length_le (by have := HTN.out.1; omega)
      rw [hall] at hxs
      have ha := HA.out
      rw [hall] at ha
      have HAX := Lib.hid ha; clear ha hall HA
      generalize hxs0 : be16 (ver % 65536) ++ be32 (tn : Int) ++ tops.flatMap encStr = xs0 at *
      have HXS := Lib.hid hxs0; clear hxs0
      have h54 := putData_any M wr u3 xs0 da dc data HAX.out (by omega) (by have := HIN.out.2.1.kept hkM (by simp); rw [← HTN.out.2.2] at this; exact this) (by have := HTN.out.2.2; omega)
      rw [HTN.out.2.2] at h54
      have H54 := Lib.hid h54; clear h54
      have hsd := specData_le data
      have hl1 : (xs0 ++ specData data).length ≤ 1200 := by rw [List.length_append]; have := HTN.out.2.2; omega
      have h55 := fun (w1 : World) (v1 : Value) (ha : Acc M w1 v1 (xs0 ++ specData data)) => putShares_any M w1 v1 _ oa oc owned ha (by omega) (by have := HIN.out.2.2.1.kept hkM (by simp) (by simp); rw [← HTN.out.2.1] at this; exact this) HIN.out.2.2.2.2.2 (fun x hx => (HIN.out.2.2.2.2.1 x hx).2)
      rw [HTN.out.2.1] at h55
      have H55 := Lib.hid h55; clear h55
      have hso := shrsBytes_le owned (fun x hx => (HIN.out.2.2.2.2.1 x hx).2)
      have hol : owned.length ≤ 10 := HIN.out.2.2.2.2.2
      have hl2 : (xs0 ++ specData data ++ be32 (on : Int) ++ owned.flatMap shrBytes).length ≤ 4000 := by simp only [List.length_append, be32, List.length_cons, List.length_nil] at *; omega
      have h52 := fun (w1 : World) (v1 : Value) (ha : Acc M w1 v1 (xs0 ++ specData data ++ be32 (on : Int) ++ owned.flatMap shrBytes)) => putBig4_any M w1 v1 _ (gen % 4294967296) ha (by omega) (by omega) (by omega)
      rw [Int.emod_emod] at h52
      have H52 := Lib.hid h52; clear h52
      have hwg1 : IntKind.u32.wrap gen = gen % 4294967296 := wrap_u32 gen
      have hwg2 : IntKind.u64.wrap (gen % 4294967296) = gen % 4294967296 := by simp [IntKind.wrap, IntKind.bits, IntKind.signed]; omega
      have hl3 : (xs0 ++ specData data ++ be32 (on : Int) ++ owned.flatMap shrBytes ++ be32 (gen % 4294967296)).length ≤ 4100 := by rw [List.length_append]; have : (be32 (gen % 4294967296)).length = 4 := rfl; omega
      have h53 := fun (w1 : World) (v1 : Value) (ha : Acc M w1 v1 (xs0 ++ specData data ++ be32 (on : Int) ++ owned.flatMap shrBytes ++ be32 (gen % 4294967296))) => putText_any M w1 v1 _ rack ha (by omega) (by omega)
      have H53 := Lib.hid h53; clear h53
      clear hsd hl1 hso hol hl2 hxs hlk
      rcases (by omega : ver = 0 ∨ ver = 1 ∨ ver = 2 ∨ ver = 3) with rfl | rfl | rfl | rfl
      · go_wp2_with (first
          | (go_at_call 54; refine H54.out.mono ?_; rintro e w3 ⟨v3, rfl, ha3⟩; have HA3 := Lib.hid ha3; obtain ⟨_, f0, f1, f2, f3, f4, f5, f6, f7⟩ := HB.out w3 ha3.kept; clear ha3)
          | fail)
        go_ret
        exact ⟨_, rfl, M, hkM, by have := HA3.out; rw [← HXS.out] at this; simpa [ownB, genB, rackB, List.append_assoc] using this⟩
      · go_wp2_with (first
          | (go_at_call 54; refine H54.out.mono ?_; rintro e w3 ⟨v3, rfl, ha3⟩; have HA3 := Lib.hid ha3; obtain ⟨_, f0, f1, f2, f3, f4, f5, f6, f7⟩ := HB.out w3 ha3.kept; clear ha3)
          | (go_at_call 55; refine (H55.out _ _ HA3.out).mono ?_; rintro e w4 ⟨v4, rfl, ha4⟩; have HA4 := Lib.hid ha4; obtain ⟨_, g0, g1, g2, g3, g4, g5, g6, g7⟩ := HB.out w4 ha4.kept; clear ha4)
          | fail)
        go_ret
        exact ⟨_, rfl, M, hkM, by have := HA4.out; rw [← HXS.out] at this; simpa [ownB, genB, rackB, HTN.out.2.1, List.append_assoc] using this⟩
      · go_wp2_with (first
          | (go_at_call 54; refine H54.out.mono ?_; rintro e w3 ⟨v3, rfl, ha3⟩; have HA3 := Lib.hid ha3; obtain ⟨_, f0, f1, f2, f3, f4, f5, f6, f7⟩ := HB.out w3 ha3.kept; clear ha3)
          | (go_at_call 55; refine (H55.out _ _ HA3.out).mono ?_; rintro e w4 ⟨v4, rfl, ha4⟩; have HA4 := Lib.hid ha4; obtain ⟨_, g0, g1, g2, g3, g4, g5, g6, g7⟩ := HB.out w4 ha4.kept; clear ha4)
          | (go_at_call 52; refine (H52.out _ _ HA4.out).mono ?_; rintro e w5 ⟨v5, rfl, ha5⟩; have HA5 := Lib.hid ha5; obtain ⟨_, i0, i1, i2, i3, i4, i5, i6, i7⟩ := HB.out w5 ha5.kept; clear ha5)
          | fail)
        go_ret
        exact ⟨_, rfl, M, hkM, by have := HA5.out; rw [← HXS.out] at this; simpa [ownB, genB, rackB, HTN.out.2.1, List.append_assoc] using this⟩
      · cases has
        · go_wp2_with (first
            | (go_at_call 54; refine H54.out.mono ?_; rintro e w3 ⟨v3, rfl, ha3⟩; have HA3 := Lib.hid ha3; obtain ⟨_, f0, f1, f2, f3, f4, f5, f6, f7⟩ := HB.out w3 ha3.kept; clear ha3)
            | (go_at_call 55; refine (H55.out _ _ HA3.out).mono ?_; rintro e w4 ⟨v4, rfl, ha4⟩; have HA4 := Lib.hid ha4; obtain ⟨_, g0, g1, g2, g3, g4, g5, g6, g7⟩ := HB.out w4 ha4.kept; clear ha4)
            | (go_at_call 52; refine (H52.out _ _ HA4.out).mono ?_; rintro e w5 ⟨v5, rfl, ha5⟩; obtain ⟨_, i0, i1, i2, i3, i4, i5, i6, i7⟩ := HB.out w5 ha5.kept; have HA5 := Lib.hid ha5; clear ha5)
            | (refine wl_app (v := v5) rfl rfl elU8 rfl rfl (own_kept HA5.out.own ((Kept.refl [] w5).alloc _) (by simp)) ((ff2 w5).src Tryz.underlying28) (by omega) (by omega) ?_; intro v6 w6 ho6 hk6 hd6)
            | fail)
          go_ret
          refine ⟨v6, rfl, M, hkM, ?_⟩
          have := HA5.out.step ((Kept.refl [] w5).alloc _) ho6 hk6 hd6
          rw [← HXS.out] at this
          simpa [ownB, genB, rackB, HTN.out.2.1, List.append_assoc] using this
        · go_wp2_with (first
            | (go_at_call 54; refine H54.out.mono ?_; rintro e w3 ⟨v3, rfl, ha3⟩; have HA3 := Lib.hid ha3; obtain ⟨_, f0, f1, f2, f3, f4, f5, f6, f7⟩ := HB.out w3 ha3.kept; clear ha3)
            | (go_at_call 55; refine (H55.out _ _ HA3.out).mono ?_; rintro e w4 ⟨v4, rfl, ha4⟩; have HA4 := Lib.hid ha4; obtain ⟨_, g0, g1, g2, g3, g4, g5, g6, g7⟩ := HB.out w4 ha4.kept; clear ha4)
            | (go_at_call 52; refine (H52.out _ _ HA4.out).mono ?_; rintro e w5 ⟨v5, rfl, ha5⟩; have HA5 := Lib.hid ha5; obtain ⟨_, i0, i1, i2, i3, i4, i5, i6, i7⟩ := HB.out w5 ha5.kept; clear ha5)
            | (go_at_call 53; refine (H53.out _ _ HA5.out).mono ?_; rintro e w6 ⟨v6, rfl, ha6⟩; have HA6 := Lib.hid ha6; clear ha6)
            | fail)
          go_ret
          exact ⟨_, rfl, M, hkM, by have := HA6.out; rw [← HXS.out] at this; simpa [ownB, genB, rackB, HTN.out.2.1, List.append_assoc] using this⟩
end Go.Proofs.YticcnlpfmekagaaGreat
