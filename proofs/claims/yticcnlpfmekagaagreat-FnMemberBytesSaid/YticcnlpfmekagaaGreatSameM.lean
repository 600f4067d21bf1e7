import Derived.Test.YticcnlpfmekagaaGreatMFits
import Derived.Test.YticcnlpfmekagaaGreatSame
import Derived.Test.YticcnlpfmekagaaGreatLawData
namespace Go.Proofs.YticcnlpfmekagaaGreat
open Go Go.Proofs Go.RowKit
set_option linter.unusedVariables false
set_option linter.unusedSimpArgs false

/-! ## spec.SameMember -/

theorem conv_any2 {w : World} {a : Option Addr} {n c : Nat} {cs : List Value} (h : SlAt w 1 (.slice a n c) n cs) (hu : ∀ u ∈ cs, ∃ x, u = .int .u8 x) :
    (convert 28 9 (.slice a n c)).run Tryz.prog w = .ok (.string (strOfNums (cs.map numOf))) w := by
  by_cases hn : 1 ≤ n
  · exact conv_sl h hn hu
  · obtain rfl : n = 0 := by omega
    have hc : cs = [] := List.eq_nil_of_length_eq_zero (by have := h.1; omega)
    subst hc
    rw [run_convert_bytes_string w 28 9 5 a 0 c Tryz.underlying28 Tryz.underlying5 Tryz.underlying9]
    cases a with
    | none => rfl
    | some p =>
      rw [run_bytesToString w p 0 c [] (by rfl)]
      rfl

set_option maxRecDepth 100000 in
set_option maxHeartbeats 8000000 in
theorem sameMember_any (x m : Mem) (w : World) (hx : MemAt w x) (hm : MemAt w m) (h1 : x.ver = m.ver) (h2 : x.tops = m.tops) (h3 : x.data = m.data) (hv : 0 ≤ m.ver ∧ m.ver ≤ 3) (h4 : 1 ≤ m.ver → x.owned.map trip = m.owned.map trip) (h5 : 2 ≤ m.ver → x.gen = m.gen) (h6 : 3 ≤ m.ver → x.has = m.has ∧ x.rack = m.rack)
    (hu : ∀ u ∈ m.data, ∃ y, u = .int .u8 y) (ht : m.tops.length ≤ 1000) (hol : 1 ≤ m.ver → x.owned.length ≤ 1000000 ∧ ∀ y ∈ x.owned, y.parts.length ≤ 1000000) :
    Calls Tryz.prog 32 #[.agg (memCells x).toArray, .agg (memCells m).toArray] w fun e w' => e = .returned (.bool true) ∧ Kept [] w w' := by
  obtain ⟨ta, tc, da, dc, oa, oc, e, hxt, hxd, hxo⟩ := mcs_form hx
  obtain ⟨ta2, tc2, da2, dc2, oa2, oc2, e2, hmt, hmd, hmo⟩ := mcs_form hm
  rw [e, e2]
  unfold mcs
  clear e e2 hx hm
  obtain ⟨id, ver, tv, tops, dv, data, ov, owned, gen, rack, has⟩ := x
  obtain ⟨id2, ver2, tv2, tops2, dv2, data2, ov2, owned2, gen2, rack2, has2⟩ := m
  simp only at *
  subst h1 h2 h3
  have hcv : ∀ w', Kept [] w w' → (convert 28 9 (.slice da data.length dc)).run Tryz.prog w' = .ok (.string (strOfNums (data.map numOf))) w' ∧ (convert 28 9 (.slice da2 data.length dc2)).run Tryz.prog w' = .ok (.string (strOfNums (data.map numOf))) w' := fun w' k => ⟨conv_any2 (hxd.kept k (by simp)) hu, conv_any2 (hmd.kept k (by simp)) hu⟩
  have hsp : 1 ≤ ver → ∀ w', Kept [] w w' → Calls Tryz.prog 36 #[.slice oa owned.length oc, .slice oa2 owned2.length oc2] w' fun e w'' => e = .returned (.bool true) ∧ Kept [] w' w'' := fun hv1 w' k => samePlan_any _ _ _ _ w' (hxo.kept k (by simp) (by simp)) (hmo.kept k (by simp) (by simp)) (h4 hv1) (hol hv1).1 (hol hv1).2
  generalize strOfNums (data.map numOf) = str at hcv
  have HSP := Lib.hid hsp; clear hsp hxo hmo h4 hol
  have HT := Lib.hid (And.intro hxt hmt); clear hxt hmt
  have H56 := Lib.hid (And.intro h5 h6); clear h5 h6
  clear hu hxd hmd
  generalize htn : tops.length = tn at *
  generalize data.length = dn at *
  generalize owned.length = on at *
  generalize owned2.length = on2 at *
  have HTN := Lib.hid htn; clear htn
  obtain ⟨hv0, hv3⟩ := hv
  go_enter Tryz.func32, Tryz.ntmps32
  have hcM := hcv ((w.alloc (.cells #[.string id, .int .i16 ver, .slice ta tn tc, .slice da dn dc, .slice oa on oc, .int .i32 gen, .string rack, .bool has] 30)).alloc (.cells #[.string id2, .int .i16 ver, .slice ta2 tn tc2, .slice da2 dn dc2, .slice oa2 on2 oc2, .int .i32 gen2, .string rack2, .bool has2] 30)) (((Kept.refl _ _).alloc _).alloc _)
  clear hcv
  obtain ⟨q1, q2⟩ := hcM
  go_upto_region 3 with fail
  have hkM : Kept [] w ((w.alloc (.cells #[.string id, .int .i16 ver, .slice ta tn tc, .slice da dn dc, .slice oa on oc, .int .i32 gen, .string rack, .bool has] 30)).alloc (.cells #[.string id2, .int .i16 ver, .slice ta2 tn tc2, .slice da2 dn dc2, .slice oa2 on2 oc2, .int .i32 gen2, .string rack2, .bool has2] 30)) := ((Kept.refl _ _).alloc _).alloc _
  have hB1 := fun w' (k : Kept [] ((w.alloc (.cells #[.string id, .int .i16 ver, .slice ta tn tc, .slice da dn dc, .slice oa on oc, .int .i32 gen, .string rack, .bool has] 30)).alloc (.cells #[.string id2, .int .i16 ver, .slice ta2 tn tc2, .slice da2 dn dc2, .slice oa2 on2 oc2, .int .i32 gen2, .string rack2, .bool has2] 30)) w') => box8 (w := w) (w' := w') (((Kept.refl [] _).alloc _).trans k (U := []) (by simp) (by simp))
  have hB2 := fun w' (k : Kept [] ((w.alloc (.cells #[.string id, .int .i16 ver, .slice ta tn tc, .slice da dn dc, .slice oa on oc, .int .i32 gen, .string rack, .bool has] 30)).alloc (.cells #[.string id2, .int .i16 ver, .slice ta2 tn tc2, .slice da2 dn dc2, .slice oa2 on2 oc2, .int .i32 gen2, .string rack2, .bool has2] 30)) w') => box8 (w := w.alloc (.cells #[.string id, .int .i16 ver, .slice ta tn tc, .slice da dn dc, .slice oa on oc, .int .i32 gen, .string rack, .bool has] 30)) (w' := w') k
  simp only [World.size_alloc] at hB2
  generalize ((w.alloc (.cells #[.string id, .int .i16 ver, .slice ta tn tc, .slice da dn dc, .slice oa on oc, .int .i32 gen, .string rack, .bool has] 30)).alloc (.cells #[.string id2, .int .i16 ver, .slice ta2 tn tc2, .slice da2 dn dc2, .slice oa2 on2 oc2, .int .i32 gen2, .string rack2, .bool has2] 30)) = M at *
  have HB1 := Lib.hid hB1; clear hB1
  have HB2 := Lib.hid hB2; clear hB2
  clear q1 q2
  go_wp2_with fail
  go_loopw [5] (fun i wr => ∃ k : Nat, i = .int .i64 k ∧ k ≤ tn ∧ Kept [] M wr) (fun i _ => tn - (intOf i).toNat)
  case atStart => exact ⟨0, rfl, Nat.zero_le _, Kept.refl _ _⟩
  case round =>
    obtain ⟨k, rfl, hk, hkr⟩ := hrel
    obtain ⟨_, a0, a1, a2, a3, a4, a5, a6, a7⟩ := HB1.out wr hkr
    obtain ⟨_, b0, b1, b2, b3, b4, b5, b6, b7⟩ := HB2.out wr hkr
    by_cases hlt : k < tn
    · obtain ⟨x, hkx⟩ : ∃ x, tops[k]? = some x := ⟨_, List.getElem?_eq_getElem (by have := HTN.out; omega)⟩
      have hs1 := HT.out.1.2
      have hs2 := HT.out.2.2
      rw [HTN.out] at hs1 hs2
      obtain ⟨g, off, rfl, hcell⟩ := strs_at hs1 (by omega)
      obtain ⟨g2, off2, rfl, hcell2⟩ := strs_at hs2 (by omega)
      have hkw := hkM.trans hkr (U := []) (by simp) (by simp)
      have c1 := hkw.cell (hcell k x hkx) (by simp)
      have c2 := hkw.cell (hcell2 k x hkx) (by simp)
      clear hcell hcell2 hkx hs1 hs2
      have i0 : (0 : Int) ≤ (k : Int) := by omega
      have i1 : (k : Int) < (tn : Int) := by omega
      go_wp2_with fail
      go_quiet (fail)
      go_wp2_with fail
      go_roundw
      case rel => exact ⟨k + 1, by go_num, by omega, hkr.drewN _⟩
      case measure => simp [intOf]; omega
    · rcases (by omega : ver = 0 ∨ ver = 1 ∨ ver = 2 ∨ ver = 3) with rfl | rfl | rfl | rfl
      · go_wp2_with fail
        go_ret
        exact ⟨rfl, hkM.trans hkr (by simp) (by simp)⟩
      · have hs := HSP.out (by omega) wr (hkM.trans hkr (by simp) (by simp))
        have HS := Lib.hid hs; clear hs
        go_wp2_with (first
          | (go_at_call 36
             refine HS.out.mono ?_
             rintro e w5 ⟨rfl, hk5⟩
             obtain ⟨_, a0', a1', a2', a3', a4', a5', a6', a7'⟩ := HB1.out w5 (hkr.trans hk5 (by simp) (by simp))
             obtain ⟨_, b0', b1', b2', b3', b4', b5', b6', b7'⟩ := HB2.out w5 (hkr.trans hk5 (by simp) (by simp)))
          | fail)
        go_ret
        exact ⟨rfl, (hkM.trans hkr (U := []) (by simp) (by simp)).trans hk5 (by simp) (by simp)⟩
      · obtain rfl := H56.out.1 (by omega)
        have hs := HSP.out (by omega) wr (hkM.trans hkr (by simp) (by simp))
        have HS := Lib.hid hs; clear hs
        go_wp2_with (first
          | (go_at_call 36
             refine HS.out.mono ?_
             rintro e w5 ⟨rfl, hk5⟩
             obtain ⟨_, a0', a1', a2', a3', a4', a5', a6', a7'⟩ := HB1.out w5 (hkr.trans hk5 (by simp) (by simp))
             obtain ⟨_, b0', b1', b2', b3', b4', b5', b6', b7'⟩ := HB2.out w5 (hkr.trans hk5 (by simp) (by simp)))
          | fail)
        go_ret
        exact ⟨rfl, (hkM.trans hkr (U := []) (by simp) (by simp)).trans hk5 (by simp) (by simp)⟩
      · obtain rfl := H56.out.1 (by omega)
        obtain ⟨rfl, rfl⟩ := H56.out.2 (by omega)
        have hs := HSP.out (by omega) wr (hkM.trans hkr (by simp) (by simp))
        have HS := Lib.hid hs; clear hs
        go_wp2_with (first
          | (go_at_call 36
             refine HS.out.mono ?_
             rintro e w5 ⟨rfl, hk5⟩
             obtain ⟨_, a0', a1', a2', a3', a4', a5', a6', a7'⟩ := HB1.out w5 (hkr.trans hk5 (by simp) (by simp))
             obtain ⟨_, b0', b1', b2', b3', b4', b5', b6', b7'⟩ := HB2.out w5 (hkr.trans hk5 (by simp) (by simp)))
          | fail)
        all_goals
          go_ret
          exact ⟨rfl, (hkM.trans hkr (U := []) (by simp) (by simp)).trans hk5 (by simp) (by simp)⟩
end Go.Proofs.YticcnlpfmekagaaGreat
