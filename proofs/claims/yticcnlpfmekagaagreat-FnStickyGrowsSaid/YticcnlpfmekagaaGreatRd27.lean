/- Part 27 of 51 of the proof of the row: the texts Spec2. -/
import Derived.Test.YticcnlpfmekagaaGreatRd26
namespace Go.Proofs.YticcnlpfmekagaaGreat
open Go Go.Proofs Go.RowKit
set_option linter.unusedVariables false
set_option linter.unusedSimpArgs false

/-! ## the reference's bytes of shares -/

theorem shrBytes_length (x : Shr) : (shrBytes x).length = 6 + x.top.size + 4 * x.parts.length := by simp [shrBytes, encStr_length, encInts_length]; omega
theorem shrsBytes_le (L : List Shr) (hf : ∀ x ∈ L, x.top.size ≤ 50 ∧ x.parts.length ≤ 20) : (L.flatMap shrBytes).length ≤ 136 * L.length := by
  induction L with
  | nil => simp
  | cons y L ih =>
    have := ih (fun x hx => hf x (by simp [hx]))
    have h1 := hf y (by simp)
    rw [List.flatMap_cons, List.length_append, shrBytes_length, List.length_cons]; omega
theorem shrsBytes_take (L : List Shr) (k : Nat) (hf : ∀ x ∈ L, x.top.size ≤ 50 ∧ x.parts.length ≤ 20) : ((L.take k).flatMap shrBytes).length ≤ 136 * k := by
  have := shrsBytes_le (L.take k) (fun x hx => hf x (List.mem_of_mem_take hx))
  have h2 := List.length_take_le k L
  omega

set_option maxRecDepth 100000 in
set_option maxHeartbeats 1000000 in
theorem putShares_any (wB w : World) (v : Value) (xs : List Value) (a : Option Addr) (c : Nat) (L : List Shr) (h : Acc wB w v xs) (hn : xs.length ≤ 100000) (hv : ShrsAt wB (.slice a L.length c) L) (hl : L.length ≤ 10) (hf : ∀ x ∈ L, x.top.size ≤ 50 ∧ x.parts.length ≤ 20) :
    Calls Tryz.prog 55 #[v, .slice a L.length c] w fun e w' => ∃ v', e = .returned v' ∧ Acc wB w' v' (xs ++ be32 L.length ++ L.flatMap shrBytes) := by
  have hln := fun k => shrsBytes_take L k hf
  have HLN := Lib.hid hln; clear hln
  have h1 := putBig4_any wB w v xs L.length h (by omega) (by omega) (by omega)
  rw [Int.emod_eq_of_lt (by omega) (by omega)] at h1
  have H1 := Lib.hid h1; clear h1 h
  have HV := Lib.hid hv; clear hv
  have HF := Lib.hid hf; clear hf
  generalize hLn : L.length = n at *
  have HN := Lib.hid hLn; clear hLn
  have hw : IntKind.u64.wrap (n : Int) = n := by simp [IntKind.wrap, IntKind.bits, IntKind.signed]; omega
  go_enter Tryz.func55, Tryz.ntmps55
  go_wp2_with (first | (go_at_call 52; refine H1.out.mono ?_; rintro e w1 ⟨v1, rfl, ha1⟩; have HA1 := Lib.hid ha1; clear ha1) | fail)
  go_loopw [0, 5] (fun v i wr => ∃ k : Nat, k ≤ n ∧ i = .int .i64 k ∧ Acc wB wr v (xs ++ be32 n ++ (L.take k).flatMap shrBytes)) (fun _ i _ => n - (intOf i).toNat)
  case atStart => exact ⟨0, Nat.zero_le _, rfl, by simpa using HA1.out⟩
  case round =>
    obtain ⟨k, hk, rfl, ha⟩ := hrel
    have HA := Lib.hid ha; clear ha
    by_cases hlt : k < n
    · obtain ⟨x, hkx⟩ : ∃ x, L[k]? = some x := ⟨_, List.getElem?_eq_getElem (by have := HN.out; omega)⟩
      obtain ⟨g1, g2, g3⟩ := shr_get hkx
      have hxL : x ∈ L := List.mem_of_getElem? hkx
      obtain ⟨hfx2, hfx3⟩ := HF.out x hxL
      have hvc := HV.out.cells
      rw [HN.out] at hvc
      obtain ⟨_, hcase⟩ := hvc.cases
      rcases hcase with ⟨_, h0, _⟩ | ⟨g, off, hva, hcell⟩
      · omega
      subst hva
      have hpt := HV.out.parts x hxL
      obtain ⟨⟨pa, pc, hval⟩, _⟩ := HV.out.parts x hxL
      rw [hval] at g3 hpt
      have HPT := Lib.hid hpt; clear hpt
      have hS : ∀ w', Kept [] wB w' → w'.cell? ⟨g, off + k * 3 + 1, none⟩ = some (.string x.top) ∧ w'.cell? ⟨g, off + k * 3 + 2, none⟩ = some (.slice pa x.parts.length pc) := fun w' k' =>
        ⟨by rw [Nat.add_assoc]; exact k'.cell (hcell _ _ g2) (by simp), by rw [Nat.add_assoc]; exact k'.cell (hcell _ _ g3) (by simp)⟩
      have HS := Lib.hid hS; clear hS
      have HKX := Lib.hid hkx; clear hkx
      clear hcell g1 g2 g3 hval hvc
      have hlk := HLN.out k
      have hxs : (xs ++ be32 (n : Int) ++ (L.take k).flatMap shrBytes).length ≤ 102000 := by simp only [List.length_append, be32, List.length_cons, List.length_nil]; omega
      have ht := putText_any wB wr.drew _ _ x.top (HA.out.later (Kept.refl [] _).drew) (by omega) (by omega)
      have HT := Lib.hid ht; clear ht
      have hb := fun (w1 : World) (v1 : Value) (ha1 : Acc wB w1 v1 (xs ++ be32 (n : Int) ++ (L.take k).flatMap shrBytes ++ encStr x.top)) => putBig4_any wB w1 v1 _ x.parts.length ha1 (by rw [List.length_append, encStr_length]; omega) (by omega) (by omega)
      rw [Int.emod_eq_of_lt (by omega) (by omega)] at hb
      have HB := Lib.hid hb; clear hb
      have hwp : IntKind.u64.wrap (x.parts.length : Int) = x.parts.length := by simp [IntKind.wrap, IntKind.bits, IntKind.signed]; omega
      go_wp2
      go_region_held3 (fun w' => w'.cell? ⟨g, off + k * 3 + 1, none⟩ = some (.string x.top) ∧ w'.cell? ⟨g, off + k * 3 + 2, none⟩ = some (.slice pa x.parts.length pc))
        (first | with_reducible exact HS.out _ HA.out.kept.drew | with_reducible exact HS.out _ HA1'.out.kept | with_reducible exact HS.out _ HA2'.out.kept | fail)
        (first
          | (go_at_call 53
             refine HT.out.mono ?_
             rintro e w1 ⟨v1, rfl, ha1⟩
             have HA1' := Lib.hid ha1; clear ha1)
          | (go_at_call 52
             refine (HB.out _ _ HA1'.out).mono ?_
             rintro e w2 ⟨v2, rfl, ha2⟩
             have HA2' := Lib.hid ha2; clear ha2)
          | fail)
      go_wp2
      go_loopw [0, 6] (fun v i wr => ∃ j : Nat, j ≤ x.parts.length ∧ i = .int .i64 j ∧ Acc wB wr v (xs ++ be32 n ++ (L.take k).flatMap shrBytes ++ encStr x.top ++ be32 x.parts.length ++ be32s (x.parts.take j))) (fun _ i _ => x.parts.length - (intOf i).toNat)
      case atStart => exact ⟨0, Nat.zero_le _, rfl, by simpa [be32s] using HA2'.out⟩
      case round =>
        obtain ⟨j, hj, rfl, har⟩ := hrel
        have HAR := Lib.hid har; clear har
        have cr2 := (HS.out _ HAR.out.kept).2
        by_cases hjl : j < x.parts.length
        · obtain ⟨y, hy⟩ : ∃ y, x.parts[j]? = some y := ⟨_, List.getElem?_eq_getElem hjl⟩
          obtain ⟨_, hps, hpb⟩ := HPT.out
          have hyb := hpb y (List.mem_of_getElem? hy)
          have hy1 : -2147483648 ≤ y := hyb.1
          have hy2 : y ≤ 2147483647 := hyb.2
          obtain ⟨_, hpc⟩ := hps.cases
          rcases hpc with ⟨_, h0, _⟩ | ⟨g2, off2, hpa, hcell2⟩
          · omega
          subst hpa
          have cy : wr.cell? ⟨g2, off2 + j, none⟩ = some (.int .i32 y) := HAR.out.kept.cell (hcell2 j _ (by simp [i32s, hy])) (by simp)
          have hlj : (be32s (x.parts.take j)).length = 4 * j := by rw [be32s_length, List.length_take]; omega
          have hby := putBig4_any wB wr _ _ (y % 4294967296) HAR.out (by rw [List.length_append, List.length_append, List.length_append, encStr_length, hlj]; have h4 : (be32 (x.parts.length : Int)).length = 4 := rfl; omega) (by omega) (by omega)
          rw [Int.emod_emod] at hby
          have HBY := Lib.hid hby; clear hby
          have HY := Lib.hid hy; clear hy
          have hw1 : IntKind.u32.wrap y = y % 4294967296 := wrap_u32 y
          have hw2 : IntKind.u64.wrap (y % 4294967296) = y % 4294967296 := by simp [IntKind.wrap, IntKind.bits, IntKind.signed]; omega
          have hj1 : (j : Int) + 1 ≤ 1000 := by omega
          clear hcell2 hps hpb hyb hlj
          go_wp2_with (first
            | (go_at_call 52
               refine HBY.out.mono ?_
               rintro e w8 ⟨v8, rfl, ha8⟩
               have HA8 := Lib.hid ha8; clear ha8)
            | fail)
          go_roundw
          case rel =>
            refine ⟨j + 1, by omega, by go_num, ?_⟩
            rw [be32s_take _ _ _ HY.out, ← List.append_assoc]
            exact HA8.out
          case measure => simp [intOf]; omega
        · have hjN : j = x.parts.length := by omega
          subst hjN
          have hE : Acc wB wr u0 (xs ++ be32 n ++ (L.take (k + 1)).flatMap shrBytes) := by
            have := HAR.out
            rw [List.take_length] at this
            obtain ⟨hk', hx'⟩ := List.getElem?_eq_some_iff.1 HKX.out
            rw [List.take_succ_eq_append_getElem hk', hx', List.flatMap_append]
            simpa [shrBytes, encInts, List.append_assoc] using this
          have HE := Lib.hid hE; clear hE
          go_wp2
          go_roundw
          case rel => exact ⟨k + 1, by omega, by go_num, HE.out⟩
          case measure => simp [intOf]; omega
    · go_wp2
      go_ret
      refine ⟨_, rfl, ?_⟩
      have := HA.out
      rwa [List.take_of_length_le (by have := HN.out; omega)] at this

/-- an assignment's bytes -/
def shsBytes (ver : Int) (L : List Shr) (data : List Value) : List Value := be16 (ver % 65536) ++ be32 L.length ++ L.flatMap shrBytes ++ specData data
def isI16 (x : Int) : Prop := -32768 ≤ x ∧ x ≤ 32767
theorem wrap_u16_64 (x : Int) (h : isI16 x) : IntKind.u64.wrap (IntKind.u16.wrap x) = x % 65536 := by
  rw [wrap_u16]; simp [IntKind.wrap, IntKind.bits, IntKind.signed]; omega

set_option maxRecDepth 100000 in
set_option maxHeartbeats 400000 in
theorem specShares_any (w : World) (ver : Int) (a : Option Addr) (c : Nat) (L : List Shr) (ad : Option Addr) (cd : Nat) (data : List Value) (hver : isI16 ver) (hv : ShrsAt w (.slice a L.length c) L) (hl : L.length ≤ 10) (hf : ∀ x ∈ L, x.top.size ≤ 50 ∧ x.parts.length ≤ 20)
    (hd : SlAt w 1 (.slice ad data.length cd) data.length data) (hdl : data.length ≤ 1000) :
    Calls Tryz.prog 33 #[.int .i16 ver, .slice a L.length c, .slice ad data.length cd] w fun e w' => ∃ v', e = .returned v' ∧ Acc w w' v' (shsBytes ver L data) := by
  have h1 := putBig2_any w w (.slice none 0 0) [] (ver % 65536) (Acc.nil (Kept.refl _ _)) (by simp) (by omega) (by omega)
  rw [Int.emod_emod, List.nil_append] at h1
  have H1 := Lib.hid h1; clear h1
  have h2 := fun (w1 : World) (v1 : Value) (ha : Acc w w1 v1 (be16 (ver % 65536))) => putShares_any w w1 v1 _ a c L ha (by simp [be16]) hv hl hf
  have H2 := Lib.hid h2; clear h2
  have hll := shrsBytes_le L hf
  have h3 := fun (w1 : World) (v1 : Value) (ha : Acc w w1 v1 (be16 (ver % 65536) ++ be32 L.length ++ L.flatMap shrBytes)) => putData_any w w1 v1 _ ad cd data ha (by simp only [List.length_append, be16, be32, List.length_cons, List.length_nil]; omega) hd (by omega)
  have H3 := Lib.hid h3; clear h3
  have hw := wrap_u16_64 ver hver
  rw [wrap_u16] at hw
  have hw0 := wrap_u16 ver
  clear hll hv hf hd
  go_enter Tryz.func33, Tryz.ntmps33
  go_wp2_with (first
    | (go_at_call 52; refine H1.out.mono ?_; rintro e w1 ⟨v1, rfl, ha1⟩; have HA1 := Lib.hid ha1; clear ha1)
    | (go_at_call 55; refine (H2.out _ _ HA1.out).mono ?_; rintro e w2 ⟨v2, rfl, ha2⟩; have HA2 := Lib.hid ha2; clear ha2)
    | (go_at_call 54; refine (H3.out _ _ HA2.out).mono ?_; rintro e w3 ⟨v3, rfl, ha3⟩; have HA3 := Lib.hid ha3; clear ha3)
    | fail)
  go_ret
  exact ⟨_, rfl, HA3.out⟩
end Go.Proofs.YticcnlpfmekagaaGreat
