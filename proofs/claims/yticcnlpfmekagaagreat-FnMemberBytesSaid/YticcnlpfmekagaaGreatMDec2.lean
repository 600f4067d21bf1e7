import Derived.Test.YticcnlpfmekagaaGreatDec5
import Derived.Test.YticcnlpfmekagaaGreatSink2
import Derived.Test.YticcnlpfmekagaaGreatGroup
import Derived.Test.YticcnlpfmekagaaGreatMEnc
namespace Go.Proofs.YticcnlpfmekagaaGreat
open Go Go.Proofs Go.RowKit
set_option linter.unusedVariables false
set_option linter.unusedSimpArgs false

/-! ## texts in a row, and a text that may be none -/

theorem strs_flat_ge (l : List ByteArray) : 2 * l.length ≤ (l.flatMap encStr).length := by
  induction l with
  | nil => simp
  | cons x l ih => rw [List.flatMap_cons, List.length_append, encStr_length, List.length_cons]; omega

set_option maxRecDepth 100000 in
set_option maxHeartbeats 2000000 in
theorem at_strs {b g off cap : Nat} {cs pre post : List Value} {w : World} (l : List ByteArray) (hsz : ∀ s ∈ l, s.size ≤ 32767) (hl : l.length ≤ 1000000) (hgw : g < w.heap.size) (e : cs = pre ++ encStrs l ++ post) (h : Dec w b g off cap cs pre.length) :
    Calls Tryz.prog 343 #[.pointer (some ⟨b, 0, none⟩)] w fun e w' => ∃ u, Gets b g off cap cs (pre ++ encStrs l).length u w e w' ∧ SlStrs w' u l ∧ (∀ y, u.ownBlock = some y → w.heap.size ≤ y ∧ y < w'.heap.size) := by
  have e1 : cs = pre ++ be32 l.length ++ (l.flatMap encStr ++ post) := by rw [e]; simp [encStrs]
  have e2 : (pre ++ encStrs l).length = (pre ++ be32 (l.length : Int) ++ l.flatMap encStr).length := by simp [encStrs]
  have hge := strs_flat_ge l
  have h1 := at_arr l.length (by rw [List.length_append]; omega) (by omega) e1 h
  rw [e2]
  have hes : ∀ j x, l[j]? = some x → cs = (pre ++ be32 l.length ++ (l.take j).flatMap encStr) ++ encStr x ++ ((l.drop (j + 1)).flatMap encStr ++ post) := fun j x hj => by
    obtain ⟨h1, h2⟩ := List.getElem?_eq_some_iff.1 hj
    have : l.flatMap encStr = (l.take j).flatMap encStr ++ encStr x ++ (l.drop (j + 1)).flatMap encStr := by
      conv => lhs; rw [← List.take_append_drop j l, List.drop_eq_getElem_cons h1, h2]
      simp
    rw [e1, this]; simp
  have h3 := fun (w1 : World) (j : Nat) (x : ByteArray) (hj : l[j]? = some x) (h : Dec w1 b g off cap cs (pre ++ be32 (l.length : Int) ++ (l.take j).flatMap encStr).length) => at_str x (hsz x (List.mem_of_getElem? hj)) (hes j x hj) h
  have hbw := h.lt
  have hmk := fun w => make_strs l.length (by omega) w
  have H1 := Lib.hid h1; clear h1
  have H3 := Lib.hid h3; clear h3
  clear e e1 e2 hes hge hsz h
  generalize hn : l.length = n at *
  have HN := Lib.hid hn; clear hn
  by_cases hn0 : n = 0
  · subst hn0
    have hl0 : l = [] := List.eq_nil_of_length_eq_zero HN.out
    have HL0 := Lib.hid hl0; clear hl0
    go_enter Tryz.func343, Tryz.ntmps343
    go_wp2_with (first | (go_at_call 335; refine H1.out.mono ?_; rintro e w1 ⟨rfl, hd1, hk1⟩; have HD := Lib.hid (And.intro hd1 hk1); clear hd1 hk1) | fail)
    go_ret2
    refine ⟨_, ⟨rfl, by have := HD.out.1; rw [HL0.out]; simpa using this, HD.out.2⟩, ?_, by simp [Value.ownBlock]⟩
    rw [HL0.out]
    exact ⟨⟨none, 0, rfl⟩, SlAt.nil _ _⟩
  · have hpos : (0 : Int) < (n : Int) := by omega
    have hle : ¬ ((n : Int) ≤ 0) := by omega
    go_enter Tryz.func343, Tryz.ntmps343
    go_upto_region 7 with (first | (go_at_call 335; refine H1.out.mono ?_; rintro e w1 ⟨rfl, hd1, hk1⟩; have HD := Lib.hid (And.intro hd1 hk1); clear hd1 hk1) | fail)
    have hs1 := HD.out.2.size
    have hrow0 : RowIs (w1.alloc (.cells (List.replicate n (.string ⟨#[]⟩)).toArray 9)) w1.heap.size 9 (fillTo (strs l) (.string ⟨#[]⟩) n 0) := by
      have := heap_alloc_new w1 (.cells (List.replicate n (.string ⟨#[]⟩)).toArray 9)
      unfold RowIs
      rw [this]
      simp [fillTo]
    have hstart : Dec (w1.alloc (.cells (List.replicate n (.string ⟨#[]⟩)).toArray 9)) b g off cap cs (pre ++ be32 (n : Int)).length ∧ RowIs (w1.alloc (.cells (List.replicate n (.string ⟨#[]⟩)).toArray 9)) w1.heap.size 9 (fillTo (strs l) (.string ⟨#[]⟩) n 0) ∧ Kept [b] w (w1.alloc (.cells (List.replicate n (.string ⟨#[]⟩)).toArray 9)) :=
      ⟨HD.out.1.kept ((Kept.refl [] _).alloc _) (by simp) (by simp), hrow0, HD.out.2.alloc _⟩
    have HST := Lib.hid hstart; clear hstart hrow0
    go_wp2_with fail
    generalize hR : w1.heap.size = R at *
    have HR := Lib.hid hR; clear hR
    have hRb : b ≠ R := by have := HR.out; omega
    have hRg : g ≠ R := by have := HR.out; omega
    have hRw : w.heap.size ≤ R := by have := HR.out; omega
    go_loopw [24] (fun i wr => ∃ j : Nat, i = .int .i64 j ∧ j ≤ n ∧ Dec wr b g off cap cs (pre ++ be32 (n : Int) ++ (l.take j).flatMap encStr).length ∧ RowIs wr R 9 (fillTo (strs l) (.string ⟨#[]⟩) n j) ∧ Kept [b] w wr) (fun i _ => n - (intOf i).toNat)
    case atStart => exact ⟨0, rfl, Nat.zero_le _, by simpa using HST.out.1, HST.out.2.1, HST.out.2.2⟩
    case round =>
      obtain ⟨j, rfl, hj, hd, hrow, hkr⟩ := hrel
      by_cases hjn : j < n
      · obtain ⟨x, hx⟩ : ∃ x, l[j]? = some x := ⟨_, List.getElem?_eq_getElem (by have := HN.out; omega)⟩
        have hcl := H3.out wr j x hx hd
        have hil : n = (strs l).length := by rw [strs, List.length_map]; exact HN.out.symm
        obtain ⟨hf1, hf2⟩ := fillTo_at (strs l) (.string ⟨#[]⟩) n j hjn hil
        have hnx := fillTo_next (strs l) (.string ⟨#[]⟩) n j (.string x) (by simp [strs, hx])
        have hrl := lt_of_heap hrow
        have HCL := Lib.hid hcl; clear hcl
        have HI := Lib.hid (And.intro hx (And.intro hrow (And.intro hf1 (And.intro hf2 (And.intro hnx hkr))))); clear hx hrow hf1 hf2 hnx hkr hil hd
        go_wp2_with (first
          | (go_at_call 342
             refine HCL.out.mono ?_
             rintro e w2 ⟨rfl, hd2, hk2⟩
             have hr2 := HI.out.2.1.kept hk2 (by simpa using hRb.symm)
             have cr := hr2.cell HI.out.2.2.1 HI.out.2.2.2.1.symm
             have zr := hr2.fz j
             have H2 := Lib.hid (And.intro hd2 (And.intro hk2 hr2)); clear hd2 hk2 hr2)
          | fail)
        obtain ⟨hd2, hk2, hr2⟩ := H2.out
        have hr3 := hr2.set HI.out.2.2.1 HI.out.2.2.2.1.symm (.string x)
        rw [← HI.out.2.2.2.2.1] at hr3
        have hk3 : Kept [R] w2 (w2.setCell ⟨R, j, none⟩ (.string x)) := (Kept.refl _ _).setCell _ (by simp)
        have hd3 := hd2.kept hk3 (by simpa using hRb) (by simpa using hRg)
        have hkf : Kept [b] w (w2.setCell ⟨R, j, none⟩ (.string x)) := (HI.out.2.2.2.2.2.trans hk2 (fun _ h => h) (fun _ h _ => h)).trans hk3 (fun _ h => h) (fun y hy hl => by simp at hy; omega)
        have HE := Lib.hid (And.intro hr3 (And.intro hd3 hkf)); clear hr3 hd3 hkf hk3 hd2 hk2 hr2
        go_wp2_with fail
        go_roundw
        case rel =>
          refine ⟨j + 1, by go_num, by omega, ?_, HE.out.1, HE.out.2.2⟩
          obtain ⟨h1, h2⟩ := List.getElem?_eq_some_iff.1 HI.out.1
          rw [List.take_succ_eq_append_getElem h1, h2, List.flatMap_append]
          simpa [List.append_assoc] using HE.out.2.1
        case measure => simp [intOf]; omega
      · have hjn' : j = n := by omega
        subst hjn'
        have hlt : l.take j = l := List.take_of_length_le (by have := HN.out; omega)
        rw [hlt] at hd
        have hrl := lt_of_heap hrow
        have hft : fillTo (strs l) (.string ⟨#[]⟩) j j = strs l := by unfold fillTo; rw [Nat.sub_self]; simp [strs, hlt, ← List.map_take]
        rw [hft] at hrow
        have HE := Lib.hid (And.intro hd (And.intro hrow hkr)); clear hd hrow hkr hft hlt
        go_wp2_with fail
        go_ret2
        refine ⟨.slice (some ⟨R, 0, none⟩) j j, ⟨rfl, HE.out.1, HE.out.2.2⟩, ⟨⟨some ⟨R, 0, none⟩, j, by rw [HN.out]⟩, ?_⟩, fun y hy => by simp only [Value.ownBlock, Option.some.injEq] at hy; omega⟩
        rw [HN.out]
        exact HE.out.2.1.sl (by simp [strs]; exact HN.out) (strs_one _)

/-- what a text that may be none is written as -/
theorem encNStr_some (s : ByteArray) : encNStr (some s) = encStr s := rfl

set_option maxRecDepth 100000 in
set_option maxHeartbeats 2000000 in
theorem at_nstr_some {b g off cap : Nat} {cs pre post : List Value} {w : World} (s : ByteArray) (hn2 : s.size ≤ 32767) (hgw : g < w.heap.size) (e : cs = pre ++ encStr s ++ post) (h : Dec w b g off cap cs pre.length) :
    Calls Tryz.prog 341 #[.pointer (some ⟨b, 0, none⟩)] w fun e w' => ∃ R, Gets b g off cap cs (pre ++ encStr s).length (.pointer (some ⟨R, 0, none⟩)) w e w' ∧ w.heap.size ≤ R ∧ w'.cell? ⟨R, 0, none⟩ = some (.string s) := by
  subst e
  rw [show (pre ++ encStr s).length = pre.length + 2 + s.size by rw [List.length_append, encStr_length]; omega]
  obtain ⟨k, hk⟩ : ∃ k, k = pre.length := ⟨_, rfl⟩
  rw [← hk] at h ⊢
  have e0 : pre ++ encStr s ++ post = pre ++ be16 s.size ++ (byteCells s ++ post) := by simp [encStr]
  rw [e0] at h ⊢
  have h1 := getStringLength_any b g off cap k s.size pre (byteCells s ++ post) w h hk (by rw [List.length_append, byteCells_length]; omega) hn2
  have H1 := Lib.hid h1; clear h1
  have hget : ∀ j u, (byteCells s)[j]? = some u → (pre ++ be16 s.size ++ (byteCells s ++ post))[k + 2 + j]? = some u := fun j u hj => by
    rw [List.getElem?_append_right (by simp [be16]; omega)]
    rw [show k + 2 + j - (pre ++ be16 (s.size : Int)).length = j by simp [be16]; omega]
    rw [List.getElem?_append_left (List.getElem?_eq_some_iff.1 hj).1]; exact hj
  have HGET := Lib.hid hget; clear hget
  have hlen : k + 2 + s.size ≤ (pre ++ be16 s.size ++ (byteCells s ++ post)).length := by simp [be16, byteCells_length]; omega
  have hcap := h.cap
  have hsm := h.small
  have hbg := h.ne
  have hbw := h.lt
  clear h e0
  generalize pre ++ be16 (s.size : Int) ++ (byteCells s ++ post) = cs at *
  have e3 : k + 2 + s.size - (k + 2) = s.size := by omega
  have hcv : ∀ (w' : World) (o : Nat), Dec w' b g off cap cs (k + 2) → (o = off + (k + 2) ∨ s.size = 0) → ∀ c, (convert 28 9 (.slice (some ⟨g, o, none⟩) (k + 2 + s.size - (k + 2)) c)).run Tryz.prog w' = .ok (.string s) w' := fun w' o hd ho c => by
    refine conv_str (by omega) (fun j u hj => ?_)
    rcases ho with rfl | h0
    · rw [Nat.add_assoc]; exact hd.cells _ _ (HGET.out j u hj)
    · have := (List.getElem?_eq_some_iff.1 hj).1
      rw [byteCells_length] at this; omega
  have HCV := Lib.hid hcv; clear hcv
  have e2 : ((k + 2 : Nat) : Int) + s.size = ((k + 2 + s.size : Nat) : Int) := by omega
  have E2 := Lib.hid e2; clear e2
  generalize hN : cs.length = N at *
  have HN := Lib.hid hN; clear hN
  generalize hsz : s.size = n at *
  have HSZ := Lib.hid hsz; clear hsz
  generalize hkk : k + 2 = k2 at *
  have HKK := Lib.hid hkk; clear hkk hk
  have i0 : (0 : Int) ≤ (k2 : Int) := by omega
  have i1 : (k2 : Int) ≤ (N : Int) := by omega
  have i2 : (k2 : Int) + n ≤ (cap : Int) := by omega
  have i3 : (k2 : Int) ≤ (k2 : Int) + n := by omega
  have i4 : (0 : Int) ≤ (k2 : Int) + n := by omega
  have nm : ¬ ((n : Int) = -1) := by omega
  have hws : IntKind.i64.wrap ((k2 : Int) + n) = (k2 : Int) + n := IntWalk.i64_in _ (by omega)
  have htn : ((k2 : Int) + n).toNat = k2 + n := by omega
  by_cases hck : cap = k2
  · have hn0 : n = 0 := by omega
    have hck' : k2 = cap := hck.symm
    clear hck
    subst hck'
    have HN0 := Lib.hid hn0; clear hn0
    go_enter Tryz.func341, Tryz.ntmps341
    go_wp2_with (first | (go_at_call 350; refine H1.out.mono ?_; rintro e w1 hg1; obtain ⟨rfl, hd, hk1⟩ := hg1; have c0 := hd.c0; have c1 := hd.c1; rw [HN.out] at c0; have HD := Lib.hid hd; clear hd) | fail)
    have hS : ∀ w', Kept [] w1 w' → w'.cell? ⟨b, 0, none⟩ = some (.slice (some ⟨g, off, none⟩) N k2) ∧ w'.cell? ⟨b, 0 + 1, none⟩ = some (.int .i64 k2) ∧ (convert 28 9 (.slice (some ⟨g, off, none⟩) n 0)).run Tryz.prog w' = .ok (.string s) w' := fun w' kk => by
      have hd' := HD.out.kept kk (by simp) (by simp)
      have h0 := hd'.c0
      rw [HN.out] at h0
      have h2 := HCV.out w' off hd' (.inr HN0.out) 0
      rw [e3] at h2
      exact ⟨h0, hd'.c1, h2⟩
    have HS := Lib.hid hS; clear hS
    go_region_held3 (fun w' => w'.cell? ⟨b, 0, none⟩ = some (.slice (some ⟨g, off, none⟩) N k2) ∧ w'.cell? ⟨b, 0 + 1, none⟩ = some (.int .i64 k2) ∧ (convert 28 9 (.slice (some ⟨g, off, none⟩) n 0)).run Tryz.prog w' = .ok (.string s) w')
      (first | with_reducible exact HS.out _ (Kept.refl _ _).drew | with_reducible exact HS.out _ ((Kept.refl _ _).alloc _).drew | fail)
      (fail)
    all_goals
      have hkw : Kept [b] w (w1.alloc (.cells #[.string s] 9)).drew := (hk1.alloc _).drew
      have hd2 : Dec (w1.alloc (.cells #[.string s] 9)).drew b g off k2 cs k2 := HD.out.kept ((Kept.refl [] w1).alloc _).drew (by simp) (by simp)
      have hrs : (w1.alloc (.cells #[.string s] 9)).drew.cell? ⟨w1.heap.size, 0, none⟩ = some (.string s) := (cells_of (heap_alloc_new w1 (.cells #[.string s] 9))).1 0 _ rfl
      have hsz1 := hk1.size
      have c1' := hd2.c1
      have z1' := hd2.fz (0 + 1)
      have HF := Lib.hid (And.intro hkw (And.intro hd2 hrs)); clear hkw hd2 hrs
      go_wp2
      go_ret2
      have hdf := HF.out.2.1.set (k2 + n) (by rw [HN.out]; omega)
      refine ⟨w1.heap.size, ⟨rfl, ?_, HF.out.1.setCell _ (by simp)⟩, by omega, YticcnlpfmekagaaGreat.cs (by simp; omega) HF.out.2.2⟩
      rw [← E2.out] at hdf
      exact hdf
  · go_enter Tryz.func341, Tryz.ntmps341
    go_wp2_with (first | (go_at_call 350; refine H1.out.mono ?_; rintro e w1 hg1; obtain ⟨rfl, hd, hk1⟩ := hg1; have c0 := hd.c0; have c1 := hd.c1; rw [HN.out] at c0; have HD := Lib.hid hd; clear hd) | fail)
    have hS : ∀ w', Kept [] w1 w' → w'.cell? ⟨b, 0, none⟩ = some (.slice (some ⟨g, off, none⟩) N cap) ∧ w'.cell? ⟨b, 0 + 1, none⟩ = some (.int .i64 k2) ∧ (convert 28 9 (.slice (some ⟨g, off + k2, none⟩) n (cap - k2))).run Tryz.prog w' = .ok (.string s) w' := fun w' kk => by
      have hd' := HD.out.kept kk (by simp) (by simp)
      have h0 := hd'.c0
      rw [HN.out] at h0
      have h2 := HCV.out w' _ hd' (.inl rfl) (cap - k2)
      rw [e3] at h2
      exact ⟨h0, hd'.c1, h2⟩
    have HS := Lib.hid hS; clear hS
    go_region_held3 (fun w' => w'.cell? ⟨b, 0, none⟩ = some (.slice (some ⟨g, off, none⟩) N cap) ∧ w'.cell? ⟨b, 0 + 1, none⟩ = some (.int .i64 k2) ∧ (convert 28 9 (.slice (some ⟨g, off + k2, none⟩) n (cap - k2))).run Tryz.prog w' = .ok (.string s) w')
      (first | with_reducible exact HS.out _ (Kept.refl _ _).drew | with_reducible exact HS.out _ ((Kept.refl _ _).alloc _).drew | fail)
      (fail)
    all_goals
      have hkw : Kept [b] w (w1.alloc (.cells #[.string s] 9)).drew := (hk1.alloc _).drew
      have hd2 : Dec (w1.alloc (.cells #[.string s] 9)).drew b g off cap cs k2 := HD.out.kept ((Kept.refl [] w1).alloc _).drew (by simp) (by simp)
      have hrs : (w1.alloc (.cells #[.string s] 9)).drew.cell? ⟨w1.heap.size, 0, none⟩ = some (.string s) := (cells_of (heap_alloc_new w1 (.cells #[.string s] 9))).1 0 _ rfl
      have hsz1 := hk1.size
      have c1' := hd2.c1
      have z1' := hd2.fz (0 + 1)
      have HF := Lib.hid (And.intro hkw (And.intro hd2 hrs)); clear hkw hd2 hrs
      go_wp2
      go_ret2
      have hdf := HF.out.2.1.set (k2 + n) (by rw [HN.out]; omega)
      refine ⟨w1.heap.size, ⟨rfl, ?_, HF.out.1.setCell _ (by simp)⟩, by omega, YticcnlpfmekagaaGreat.cs (by simp; omega) HF.out.2.2⟩
      rw [← E2.out] at hdf
      exact hdf

set_option maxRecDepth 100000 in
set_option maxHeartbeats 400000 in
theorem at_nstr_none {b g off cap : Nat} {cs pre post : List Value} {w : World} (e : cs = pre ++ be16 65535 ++ post) (h : Dec w b g off cap cs pre.length) :
    Calls Tryz.prog 341 #[.pointer (some ⟨b, 0, none⟩)] w (Gets b g off cap cs (pre ++ be16 65535).length (.pointer none) w) := by
  subst e
  have h1 := getStringLength_none b g off cap _ pre post w h rfl
  rw [show (pre ++ be16 65535).length = pre.length + 2 by simp [be16]]
  have H1 := Lib.hid h1; clear h1 h
  generalize pre ++ be16 65535 ++ post = cs at *
  generalize pre.length + 2 = k at *
  go_enter Tryz.func341, Tryz.ntmps341
  go_wp2_with (first | (go_at_call 350; refine H1.out.mono ?_; rintro e w1 ⟨rfl, hd, hk⟩; have HD := Lib.hid (And.intro hd hk); clear hd hk) | fail)
  go_ret2
  exact ⟨rfl, HD.out.1, HD.out.2⟩

/-! ## a subscription's decode -/

set_option maxRecDepth 100000 in
set_option maxHeartbeats 2000000 in
theorem own_decode {b g off cap m : Nat} {cs pre post : List Value} {w : World} (top : ByteArray) (parts : List Int) (h1 : top.size ≤ 32767) (h2 : ∀ x ∈ parts, isI32 x) (h3 : parts.length ≤ 1000000) (hgw : g < w.heap.size) (e : cs = pre ++ (encStr top ++ encInts parts) ++ post) (hd : Dec w b g off cap cs pre.length)
    (hm : w.heap[m]? = some (.cells #[.string ⟨#[]⟩, .slice none 0 0] 121 (0, 0))) (hmb : m ≠ b) (hmg : m ≠ g) :
    Calls Tryz.prog 157 #[.pointer (some ⟨m, 0, none⟩), .iface 215 (.pointer (some ⟨b, 0, none⟩))] w fun e w' => e = .returned .nilIface ∧ ∃ pv, Dec w' b g off cap cs (pre ++ (encStr top ++ encInts parts)).length ∧ OwAt w' (top, m, pv, parts) ∧
      (∀ y, pv.ownBlock = some y → w.heap.size ≤ y ∧ y < w'.heap.size) ∧ Kept [b, m] w w' := by
  have a1 := rdStr.m
  have a2 := rdStr.n
  have a3 := rdStr.c
  have a4 := rdInts.m
  have a5 := rdInts.n
  have a6 := rdInts.c
  have q1 := at_str top h1 (cs := cs) (pre := pre) (post := encInts parts ++ post) (by rw [e]; simp) hd
  have q2 := fun (w1 : World) (hg1 : g < w1.heap.size) (hd1 : Dec w1 b g off cap cs (pre ++ encStr top).length) => at_ints parts h2 (by omega) hg1 (cs := cs) (pre := pre ++ encStr top) (post := post) (by rw [e]; simp) hd1
  have el : (pre ++ (encStr top ++ encInts parts)).length = (pre ++ encStr top ++ encInts parts).length := by simp
  rw [el]
  have Q1 := Lib.hid q1; clear q1
  have Q2 := Lib.hid q2; clear q2
  have hbw := hd.lt
  have hml := lt_of_heap hm
  have HM := Lib.hid hm; clear hm
  clear e el hd h2
  generalize parts.length = pn at *
  go_enter Tryz.func157, Tryz.ntmps157
  go_wp2_with (first
    | (go_at_call 342
       refine Q1.out.mono ?_
       rintro e w1 ⟨rfl, hd1, hk1⟩
       have hm1 := hk1.heap HM.out (by simpa using hmb)
       have c0 := (cells_of hm1).1 0 _ rfl
       have z0 := (cells_of hm1).2 0
       have hm1s := row_set hm1 0 (.string top)
       have hks : Kept [b, m] w (w1.setCell ⟨m, 0, none⟩ (.string top)) := (hk1.mono (by simp)).setCell _ (by simp)
       have hds : Dec (w1.setCell ⟨m, 0, none⟩ (.string top)) b g off cap cs (pre ++ encStr top).length := hd1.kept ((Kept.refl [m] w1).setCell (p := ⟨m, 0, none⟩) _ (by simp)) (by simpa using hmb.symm) (by simpa using hmg.symm)
       have q := Q2.out _ (by have := hks.size; omega) hds
       have QQ := Lib.hid q; clear q
       have H1 := Lib.hid (And.intro hm1s hks); clear hm1 hm1s hks hds hd1 hk1)
    | (go_at_call 340
       refine QQ.out.mono ?_
       rintro e w2 ⟨R, ⟨rfl, hd2, hk2⟩, hsi2, hR2, hRl⟩
       have hm2 := hk2.heap H1.out.1 (by simpa using hmb)
       have c1 := (cells_of hm2).1 1 _ rfl
       have z1 := (cells_of hm2).2 1
       have H2 := Lib.hid (And.intro hd2 (And.intro hk2 (And.intro hsi2 hm2))); clear hd2 hk2 hsi2 hm2)
    | fail)
  go_ret
  have hs1 := H1.out.2.size
  simp only [World.size_setCell] at hs1 hR2
  have hk3 : Kept [m] w2 (w2.setCell ⟨m, 1, none⟩ (.slice (some ⟨R, 0, none⟩) pn pn)) := (Kept.refl _ _).setCell _ (by simp)
  refine ⟨rfl, .slice (some ⟨R, 0, none⟩) pn pn, H2.out.1.kept hk3 (by simpa using hmb.symm) (by simpa using hmg.symm), ⟨row_set H2.out.2.2.2 1 _, SlInts.kept H2.out.2.2.1 hk3 (fun y hy => by simp only [Value.ownBlock, Option.some.injEq] at hy; simp; omega)⟩,
    fun y hy => by simp only [Value.ownBlock, Option.some.injEq] at hy; simp; omega, (H1.out.2.trans H2.out.2.1 (fun _ h => h) (fun x hx _ => by simp at hx; simp [hx])).trans hk3 (fun _ h => h) (fun x hx _ => by simp at hx; simp [hx])⟩

def Rs.ows (L : List OwT) : Res :=
  ⟨footO L, fun w => ∀ x ∈ L, OwAt w x, fun w w' S k hs h x hx =>
    ⟨k.heap (h x hx).1 (hs _ (List.mem_flatMap.2 ⟨x, hx, by simp⟩)), (h x hx).2.kept k (fun g hg => hs g (List.mem_flatMap.2 ⟨x, hx, by simp [hg]⟩))⟩⟩

/-- the row of pointers, filled up to here -/
def ptrRow (OL : List OwT) (k : Nat) : Obj := .cells (ptrsO OL ++ List.replicate k (Value.pointer none)).toArray 119 (0, 0)

/-- one more of them has been read -/
theorem ows_snoc {B R k : Nat} {wr w2 : World} {OL : List OwT} {b : Nat} {top : ByteArray} {pv : Value} {parts : List Int} (h : Own B wr [Rs.ows OL, Rs.blk R (ptrRow OL (k + 1))]) (hB : B ≤ wr.heap.size) (hb : b < B)
    (k2 : Kept [b, wr.heap.size] ((wr.alloc (.cells #[.string ⟨#[]⟩, .slice none 0 0] 121)).setCell ⟨R, OL.length, none⟩ (.pointer (some ⟨wr.heap.size, 0, none⟩))) w2) (ho : OwAt w2 (top, wr.heap.size, pv, parts))
    (hpv : ∀ y, pv.ownBlock = some y → wr.heap.size + 1 ≤ y ∧ y < w2.heap.size) :
    Own B w2 [Rs.ows (OL ++ [(top, wr.heap.size, pv, parts)]), Rs.blk R (ptrRow (OL ++ [(top, wr.heap.size, pv, parts)]) k)] := by
  have hR := h.ok (Rs.blk R (ptrRow OL (k + 1))) (by simp)
  have hRl := lt_of_heap hR
  have a0 : Own B (wr.alloc (.cells #[.string ⟨#[]⟩, .slice none 0 0] 121)) [Rs.blk wr.heap.size (.cells #[.string ⟨#[]⟩, .slice none 0 0] 121 (0, 0)), Rs.ows OL, Rs.blk R (ptrRow OL (k + 1))] :=
    Own.add h ((Kept.refl [] wr).alloc _) (by simp) (heap_alloc_new wr _) (fun g hg => by simp only [Rs.blk, List.mem_cons, List.not_mem_nil, or_false] at hg; subst hg; simp) hB
  have hrow : ((wr.alloc (.cells #[.string ⟨#[]⟩, .slice none 0 0] 121)).setCell ⟨R, OL.length, none⟩ (.pointer (some ⟨wr.heap.size, 0, none⟩))).heap[R]? = some (ptrRow (OL ++ [(top, wr.heap.size, pv, parts)]) k) := by
    have h1 := row_set (ha (o := .cells #[.string ⟨#[]⟩, .slice none 0 0] 121) hR) OL.length (.pointer (some ⟨wr.heap.size, 0, none⟩))
    rw [h1]
    unfold ptrRow
    congr 2
    apply Array.toList_inj.1
    have hl : (ptrsO OL).length = OL.length := by simp [ptrsO]
    simp only [Array.toList_setIfInBounds, List.replicate_succ]
    rw [List.set_append_right _ _ (by omega), hl, Nat.sub_self]
    simp [ptrsO]
  have a1 : Own B ((wr.alloc (.cells #[.string ⟨#[]⟩, .slice none 0 0] 121)).setCell ⟨R, OL.length, none⟩ (.pointer (some ⟨wr.heap.size, 0, none⟩))) [Rs.blk wr.heap.size (.cells #[.string ⟨#[]⟩, .slice none 0 0] 121 (0, 0)), Rs.ows OL, Rs.blk R (ptrRow (OL ++ [(top, wr.heap.size, pv, parts)]) k)] :=
    Own.put (F1 := [_, _]) a0 (S := [R]) ((Kept.refl _ _).setCell _ (by simp)) (fun g hg => .inl (by simpa [Rs.blk] using hg)) hrow (fun g hg => .inl hg) (by simp; omega)
  have hs2 := k2.size
  simp only [World.size_setCell, World.size_alloc] at hs2
  have a2 : Own B w2 [Rs.ows [(top, wr.heap.size, pv, parts)], Rs.ows OL, Rs.blk R (ptrRow (OL ++ [(top, wr.heap.size, pv, parts)]) k)] := by
    refine Own.put (F1 := []) a1 k2 (fun g hg => ?_) (fun x hx => ?_) (fun g hg => ?_) (by simp; omega)
    · simp only [List.mem_cons, List.not_mem_nil, or_false] at hg
      rcases hg with rfl | rfl
      · exact .inr (.inl hb)
      · exact .inl (by simp [Rs.blk])
    · simp only [List.mem_cons, List.not_mem_nil, or_false] at hx
      subst hx; exact ho
    · simp only [Rs.ows, footO, List.flatMap_cons, List.flatMap_nil, List.append_nil, List.mem_cons, Option.mem_toList] at hg
      rcases hg with rfl | hg
      · exact .inl (by simp [Rs.blk])
      · right; have := hpv g hg; simp; omega
  refine a2.merge (fun h1 h2 x hx => ?_) (fun g hg => ?_)
  · rcases List.mem_append.1 hx with hx | hx
    · exact h2 x hx
    · exact h1 x hx
  · simp only [Rs.ows, footO, List.flatMap_append, List.mem_append] at hg ⊢
    exact hg.symm

theorem make_ows (n : Nat) (hn : n ≤ 100000000) (w : World) : (Instr.makeSlice 75 (.int .i64 n) (.int .i64 n)).run Tryz.prog w = .ok (.slice (some ⟨w.heap.size, 0, none⟩) n n) (w.alloc (.cells (List.replicate n (Value.pointer none)).toArray 119)) := by
  obtain ⟨i, hi, h1, h2, h3⟩ : ∃ i, Tryz.prog.info? 119 = some i ∧ i.zero = some (.pointer none) ∧ i.size = 1 ∧ i.bytes = 8 := info_parts infoOw
  have hr := run_make (P := Tryz.prog) w 75 119 i (.pointer none) Tryz.underlying75 hi h1 .i64 .i64 n n (by omega) (Int.le_refl _) (by rw [h3]; omega) (by omega)
  rw [hr, h2]
  have : madeCells (Value.pointer none).cells ((n : Int).toNat * 1) = (List.replicate n (Value.pointer none)).toArray := by
    apply Array.toList_inj.1
    have := toList_madeCells_one (.pointer none) n
    simpa [Value.cells] using this
  rw [this]; simp

theorem dec_store {w wi : World} {b g off cap m p : Nat} {cs : List Value} {c : Array Value} (hd : Dec wi b g off cap cs p) (hm : wi.heap[m]? = some (.cells c 78 (0, 0))) (hk : Kept [b, m] w wi) (hmb : m ≠ b) (hmg : m ≠ g) (j : Nat) (v : Value) :
    Dec (wi.setCell ⟨m, j, none⟩ v) b g off cap cs p ∧ (wi.setCell ⟨m, j, none⟩ v).heap[m]? = some (.cells (c.setIfInBounds j v) 78 (0, 0)) ∧ Kept [b, m] w (wi.setCell ⟨m, j, none⟩ v) ∧ Kept [m] wi (wi.setCell ⟨m, j, none⟩ v) := by
  have h1 : Kept [m] wi (wi.setCell ⟨m, j, none⟩ v) := (Kept.refl [m] wi).setCell (p := ⟨m, j, none⟩) _ (by simp)
  exact ⟨hd.kept h1 (by simpa using hmb.symm) (by simpa using hmg.symm), row_set hm j v, hk.trans h1 (fun _ h => h) (fun x hx _ => by simp at hx; simp [hx]), h1⟩

theorem shrs_ge (L : List Shr) : L.length ≤ (L.flatMap shrBytes).length := by
  induction L with
  | nil => simp
  | cons y L ih => rw [List.flatMap_cons, List.length_append, shrBytes_length, List.length_cons]; omega
theorem shrs_split (L : List Shr) (j : Nat) (x : Shr) (hj : L[j]? = some x) : L.flatMap shrBytes = (L.take j).flatMap shrBytes ++ shrBytes x ++ (L.drop (j + 1)).flatMap shrBytes ∧ (L.take (j + 1)).flatMap shrBytes = (L.take j).flatMap shrBytes ++ shrBytes x := by
  obtain ⟨h1, h2⟩ := List.getElem?_eq_some_iff.1 hj
  constructor
  · conv => lhs; rw [← List.take_append_drop j L, List.drop_eq_getElem_cons h1, h2]
    simp
  · rw [List.take_succ_eq_append_getElem h1, h2, List.flatMap_append]; simp
/-- metadata as they have been read, at block m -/
structure MemDec (w : World) (lo m g : Nat) (mm : Mem) : Prop where
  ex : ∃ tv dv ov rk OL, w.heap[m]? = some (.cells #[.int .i16 mm.ver, tv, dv, ov, .int .i32 (if 2 ≤ mm.ver then mm.gen else 0), rk] 78 (0, 0)) ∧ SlStrs w tv mm.tops ∧ BytesV w dv mm.data ∧ (∀ y, dv.ownBlock = some y → y = g) ∧
    ow2 OL = (if 1 ≤ mm.ver then mm.owned.map owOf else []) ∧ (∃ a c, ov = .slice a OL.length c) ∧ SlAt w 1 ov OL.length (ptrsO OL) ∧ (∀ x ∈ OL, OwAt w x) ∧ PStr w rk (if 3 ≤ mm.ver then (if mm.has then some mm.rack else none) else none) ∧
    (∀ y ∈ tv.ownBlock.toList ++ ov.ownBlock.toList ++ footO OL, lo ≤ y) ∧ (∀ a, rk = .pointer (some a) → lo ≤ a.block)

set_option maxRecDepth 100000 in
set_option maxHeartbeats 8000000 in
theorem mem_decode (b g off cap m : Nat) (mm : Mem) (w : World) (hd : Dec w b g off cap (memBytes mm) 0) (hm : w.heap[m]? = some (.cells #[.int .i16 0, .slice none 0 0, .slice none 0 0, .slice none 0 0, .int .i32 0, .pointer none] 78 (0, 0))) (hmb : m ≠ b) (hmg : m ≠ g) (hgw : g < w.heap.size)
    (hf : MemFit mm) (hgen : isI32 mm.gen) (hpi : ∀ x ∈ mm.owned, ∀ y ∈ x.parts, isI32 y) :
    Calls Tryz.prog 154 #[.pointer (some ⟨m, 0, none⟩), .iface 215 (.pointer (some ⟨b, 0, none⟩))] w fun e w' => e = .returned .nilIface ∧ Dec w' b g off cap (memBytes mm) (memBytes mm).length ∧ MemDec w' w.heap.size m g mm ∧ Kept [b, m] w w' := by
  obtain ⟨id, ver, tv0, tops, dv0, data, ov0, owned, gen, rack, has⟩ := mm
  obtain ⟨⟨hv0, hv3⟩, ⟨ht1, ht2⟩, hd1, ⟨hr1, hr2⟩, hof⟩ := hf
  simp only at *
  have a1 := rdI16.m
  have a2 := rdI16.n
  have a3 := rdI16.c
  have b1 := rdStrs.m
  have b2 := rdStrs.n
  have b3 := rdStrs.c
  have c1 := rdBytes.m
  have c2 := rdBytes.n
  have c3 := rdBytes.c
  generalize hcs : memBytes ⟨id, ver, tv0, tops, dv0, data, ov0, owned, gen, rack, has⟩ = cs at *
  have e1 : cs = [] ++ be16 (ver % 65536) ++ (encStrs tops ++ specData data ++ ownB ver owned ++ genB ver gen ++ rackB ver has rack) := by rw [← hcs]; simp [memBytes, encStrs]
  have e2 : cs = ([] ++ be16 (ver % 65536)) ++ encStrs tops ++ (specData data ++ ownB ver owned ++ genB ver gen ++ rackB ver has rack) := by rw [e1]; simp
  have e3 : cs = ([] ++ be16 (ver % 65536) ++ encStrs tops) ++ specData data ++ (ownB ver owned ++ genB ver gen ++ rackB ver has rack) := by rw [e1]; simp
  have h1 := at_i16 ver (by unfold isI16; omega) e1 hd
  have h2 := fun (w1 : World) (hg : g < w1.heap.size) (h : Dec w1 b g off cap cs ([] ++ be16 (ver % 65536)).length) => at_strs tops (fun s hs => by have := ht2 s hs; omega) (by omega) hg e2 h
  have h3 := fun (w1 : World) (h : Dec w1 b g off cap cs ([] ++ be16 (ver % 65536) ++ encStrs tops).length) => at_bytes data (by omega) e3 h
  have H1 := Lib.hid h1; clear h1
  have H2 := Lib.hid h2; clear h2
  have H3 := Lib.hid h3; clear h3
  have HE0 := Lib.hid (And.intro e1 (And.intro hcs (And.intro hof hpi))); clear e1 e2 e3 hcs hof hpi
  have HG := Lib.hid hgen; clear hgen
  have hbw := hd.lt
  have hml := lt_of_heap hm
  have HM := Lib.hid hm; clear hm
  clear hd ht2 hr2
  go_enter Tryz.func154, Tryz.ntmps154
  go_upto_region 7 with (first
    | (go_at_call 338
       refine H1.out.mono ?_
       rintro e w1 ⟨rfl, hd1, hk1⟩
       have hm1 := hk1.heap HM.out (by simpa using hmb)
       have c0 := (cells_of hm1).1 0 _ rfl
       have z0 := (cells_of hm1).2 0
       obtain ⟨s1, s2, s3, s4⟩ := dec_store hd1 hm1 (hk1.mono (by simp)) hmb hmg 0 (.int .i16 ver)
       have q := H2.out _ (by have := s3.size; omega) s1
       have QS := Lib.hid q; clear q
       have HS1 := Lib.hid (And.intro s2 s3); clear s1 s2 s3 s4 hm1 hk1 hd1)
    | (go_at_call 343
       refine QS.out.mono ?_
       rintro e w2 ⟨tv, ⟨rfl, hd2, hk2⟩, htv, hft⟩
       obtain ⟨⟨ta, tc, rfl⟩, _⟩ := htv
       have hm2 := hk2.heap HS1.out.1 (by simpa using hmb)
       have c1 := (cells_of hm2).1 1 _ rfl
       have z1 := (cells_of hm2).2 1
       obtain ⟨s1, s2, s3, s4⟩ := dec_store hd2 hm2 (HS1.out.2.trans hk2 (fun _ h => h) (fun x hx _ => by simp at hx; simp [hx])) hmb hmg 1 (.slice ta tops.length tc)
       have q := H3.out _ s1
       have QB := Lib.hid q; clear q
       have htv2 : SlStrs (w2.setCell ⟨m, 1, none⟩ (.slice ta tops.length tc)) (.slice ta tops.length tc) tops := SlStrs.kept ⟨⟨_, _, rfl⟩, ‹_›⟩ s4 (fun y hy => by have := hft y hy; have := HS1.out.2.size; simp at *; omega)
       have hft2 : ∀ y, (Value.slice ta tops.length tc).ownBlock = some y → w.heap.size ≤ y := fun y hy => by have := hft y hy; have := HS1.out.2.size; omega
       have HS2 := Lib.hid (And.intro s2 (And.intro s3 (And.intro htv2 hft2))); clear s1 s2 s3 s4 hm2 hk2 hd2 htv2 hft hft2)
    | (go_at_call 336
       refine QB.out.mono ?_
       rintro e w3 ⟨dv, ⟨rfl, hd3, hk3⟩, hdv, hfd⟩
       obtain ⟨hdv1, da, dc, rfl, hdn⟩ := hdv
       have hm3 := hk3.heap HS2.out.1 (by simpa using hmb)
       have c2 := (cells_of hm3).1 2 _ rfl
       have z2 := (cells_of hm3).2 2
       obtain ⟨s1, s2, s3, s4⟩ := dec_store hd3 hm3 (HS2.out.2.1.trans hk3 (fun _ h => h) (fun x hx _ => by simp at hx; simp [hx])) hmb hmg 2 (.slice da data.length dc)
       have htv3 := (HS2.out.2.2.1.kept hk3 (fun y hy => by have := HS2.out.2.2.2 y hy; simp; omega)).kept s4 (fun y hy => by have := HS2.out.2.2.2 y hy; simp; omega)
       have hdv3 : BytesV (w3.setCell ⟨m, 2, none⟩ (.slice da data.length dc)) (.slice da data.length dc) data := ⟨hdv1.kept s4 (fun y hy => by have := hfd y hy; simp; omega), da, dc, rfl, hdn⟩
       have hm4 : (w3.setCell ⟨m, 2, none⟩ (.slice da data.length dc)).heap[m]? = some (.cells #[.int .i16 ver, .slice ta tops.length tc, .slice da data.length dc, .slice none 0 0, .int .i32 0, .pointer none] 78 (0, 0)) := s2
       have HS3 := Lib.hid (And.intro s1 (And.intro hm4 (And.intro s3 (And.intro htv3 (And.intro hdv3 (And.intro hfd HS2.out.2.2.2)))))); clear s1 s2 s3 s4 hm3 hk3 hd3 htv3 hdv1 hdn hdv3 hm4 hfd)
    | fail)
  generalize (w3.setCell ⟨m, 2, none⟩ (.slice da data.length dc)) = W at *
  have x0 := (cells_of HS3.out.2.1).1 0 _ rfl
  have hWs := HS3.out.2.2.1.size
  clear a1 a2 a3 b1 b2 b3 c1 c2 c3 c0 z0 z1 z2 HS1 HS2 H1 H2 H3 QS QB
  generalize htn : tops.length = tn at *
  generalize hdn : data.length = dn at *
  have HTN := Lib.hid (And.intro htn hdn); clear htn hdn
  go_upto_if 43 with fail
  go_cut [] (fun wx => ∃ oa oc OL, Dec wx b g off cap cs ([] ++ be16 (ver % 65536) ++ encStrs tops ++ specData data ++ ownB ver owned).length ∧ wx.heap[m]? = some (.cells #[.int .i16 ver, .slice ta tn tc, .slice da dn dc, .slice oa OL.length oc, .int .i32 0, .pointer none] 78 (0, 0)) ∧
    SlAt wx 1 (.slice oa OL.length oc) OL.length (ptrsO OL) ∧ (∀ x ∈ OL, OwAt wx x) ∧ ow2 OL = (if 1 ≤ ver then owned.map owOf else []) ∧ (∀ y ∈ (Value.slice oa OL.length oc).ownBlock.toList ++ footO OL, W.heap.size ≤ y) ∧ Kept [b, m] W wx)
  case first =>
    by_cases hv1 : 1 ≤ ver
    · have hol : owned.length ≤ 10 := HE0.out.2.2.1.2
      have hob : ownB ver owned = be32 owned.length ++ owned.flatMap shrBytes := by unfold ownB; rw [if_pos hv1]
      have e4 : cs = ([] ++ be16 (ver % 65536) ++ encStrs tops ++ specData data) ++ be32 owned.length ++ (owned.flatMap shrBytes ++ genB ver gen ++ rackB ver has rack) := by rw [HE0.out.1, hob]; simp
      have h4 := at_arr owned.length (by have := shrs_ge owned; simp only [List.length_append]; omega) (by omega) e4 HS3.out.1
      have H4 := Lib.hid h4; clear h4
      have HOB := Lib.hid (And.intro hob e4); clear hob e4
      have d1 := rdArr.m
      have d2 := rdArr.n
      have d3 := rdArr.c
      generalize hon : owned.length = on at *
      have HON := Lib.hid hon; clear hon
      by_cases hn0 : on = 0
      · subst hn0
        have hl0 : owned = [] := List.eq_nil_of_length_eq_zero HON.out
        have HL0 := Lib.hid hl0; clear hl0
        go_wp2_with (first | (go_at_call 335; refine H4.out.mono ?_; rintro e w4 ⟨rfl, hd4, hk4⟩; have HD4 := Lib.hid (And.intro hd4 hk4); clear hd4 hk4) | fail)
        go_meet
        have hm4 := HD4.out.2.heap HS3.out.2.1 (by simpa using hmb)
        refine ⟨none, 0, [], ?_, hm4, SlAt.nil _ _, by simp, ?_, by simp [Value.ownBlock, footO], HD4.out.2.mono (by simp)⟩
        · rw [HOB.out.1, HL0.out]; simpa using HD4.out.1
        · rw [if_pos hv1, HL0.out]; rfl
      · have hpos : (0 : Int) < (on : Int) := by omega
        have hpb : decide (0 < on) = true := by simp; omega
        have hmk := fun w => make_ows on (by omega) w
        go_upto_region 14 with (first | (go_at_call 335; refine H4.out.mono ?_; rintro e w4 ⟨rfl, hd4, hk4⟩; have HD4 := Lib.hid (And.intro hd4 hk4); clear hd4 hk4) | fail)
        have hm4 := HD4.out.2.heap HS3.out.2.1 (by simpa using hmb)
        have hs4 := HD4.out.2.size
        have y3 : ∀ o, (w4.alloc o).cell? ⟨m, 3, none⟩ = some (.slice none 0 0) := fun o => ca ((cells_of hm4).1 3 _ rfl)
        have z3 : ∀ o, (w4.alloc o).frozen? ⟨m, 3, none⟩ = false := fun o => (cells_of (ha hm4)).2 3
        have HM4 := Lib.hid hm4; clear hm4
        have hmw : m ≠ w4.heap.size := by omega
        go_upto_region 15 with fail
        have hW5 : ∀ W5, W5 = (w4.alloc (.cells (Array.replicate on (Value.pointer none)) 119)).setCell ⟨m, 3, none⟩ (.slice (some ⟨w4.heap.size, 0, none⟩) on on) → Own w4.heap.size W5 [Rs.ows [], Rs.blk w4.heap.size (ptrRow [] on)] ∧ W5.heap[m]? = some (.cells #[.int .i16 ver, .slice ta tn tc, .slice da dn dc, .slice (some ⟨w4.heap.size, 0, none⟩) on on, .int .i32 0, .pointer none] 78 (0, 0)) ∧
            Dec W5 b g off cap cs ([] ++ be16 (ver % 65536) ++ encStrs tops ++ specData data ++ be32 (on : Int)).length ∧ Kept [b, m] W W5 ∧ W5.heap.size = w4.heap.size + 1 := by
          rintro W5 rfl
          have hk5 : Kept [m] w4 ((w4.alloc (.cells (Array.replicate on (Value.pointer none)) 119)).setCell ⟨m, 3, none⟩ (.slice (some ⟨w4.heap.size, 0, none⟩) on on)) := ((Kept.refl _ _).alloc _).setCell _ (by simp)
          have hrow : ((w4.alloc (.cells (Array.replicate on (Value.pointer none)) 119)).setCell ⟨m, 3, none⟩ (.slice (some ⟨w4.heap.size, 0, none⟩) on on)).heap[w4.heap.size]? = some (ptrRow [] on) := by
            have h := YticcnlpfmekagaaGreat.hs (a := ⟨m, 3, none⟩) (u := .slice (some ⟨w4.heap.size, 0, none⟩) on on) (by simpa using hmw.symm) (heap_alloc_new w4 (.cells (Array.replicate on (Value.pointer none)) 119))
            rw [h]
            simp [ptrRow, ptrsO]
          refine ⟨⟨fun T hT => ?_, fun T hT y hy => ?_, ?_⟩, row_set (ha HM4.out) 3 _, HD4.out.1.kept hk5 (by simpa using hmb.symm) (by simpa using hmg.symm), HD4.out.2.trans hk5 (fun x hx => by simp at hx; simp [hx]) (fun x hx _ => by simp at hx; simp [hx]), by simp⟩
          · simp only [List.mem_cons, List.not_mem_nil, or_false] at hT
            rcases hT with rfl | rfl
            · intro x hx; simp at hx
            · exact hrow
          · simp only [List.mem_cons, List.not_mem_nil, or_false] at hT
            rcases hT with rfl | rfl
            · simp [Rs.ows, footO] at hy
            · simp only [Rs.blk, List.mem_cons, List.not_mem_nil, or_false] at hy; subst hy; simp
          · simp [Rs.ows, footO]
        have HW5 := Lib.hid (hW5 _ rfl); clear hW5
        generalize ((w4.alloc (.cells (Array.replicate on (Value.pointer none)) 119)).setCell ⟨m, 3, none⟩ (.slice (some ⟨w4.heap.size, 0, none⟩) on on)) = W5 at *
        generalize hR : w4.heap.size = R at *
        have HR := Lib.hid hR; clear hR
        have hbR : b < R := by have := HR.out; omega
        have hgR : g < R := by have := HR.out; omega
        have hmR : m < R := by have := HR.out; omega
        have hWR : W.heap.size ≤ R := by have := HR.out; omega
        clear y3 z3 d1 d2 d3 hmw hs4 H4
        go_wp2_with fail
        go_loopw [63] (fun i wr => ∃ (j : Nat) (OL : List OwT), i = .int .i64 j ∧ j ≤ on ∧ OL.length = j ∧ ow2 OL = (owned.take j).map owOf ∧ Dec wr b g off cap cs ([] ++ be16 (ver % 65536) ++ encStrs tops ++ specData data ++ be32 (on : Int) ++ (owned.take j).flatMap shrBytes).length ∧
          Own R wr [Rs.ows OL, Rs.blk R (ptrRow OL (on - j))] ∧ Kept [b, R] W5 wr) (fun i _ => on - (intOf i).toNat)
        case atStart => exact ⟨0, [], rfl, Nat.zero_le _, rfl, rfl, by simpa using HW5.out.2.2.1, HW5.out.1, Kept.refl _ _⟩
        case round =>
          obtain ⟨j, OL, rfl, hj, hOLl, hOL, hd, hown, hkw⟩ := hrel
          have hmr := hkw.heap HW5.out.2.1 (by simp; omega)
          have m3 : wr.cell? ⟨m, 3, none⟩ = some (.slice (some ⟨R, 0, none⟩) on on) := (cells_of hmr).1 3 _ rfl
          have hwr := hkw.size
          have hw5 := HW5.out.2.2.2.2
          by_cases hjn : j < on
          · obtain ⟨x, hx⟩ : ∃ x, owned[j]? = some x := ⟨_, List.getElem?_eq_getElem (by have := HON.out; omega)⟩
            have hrow := hown.ok (Rs.blk R (ptrRow OL (on - j))) (by simp)
            have hrr : wr.heap[R]? = some (ptrRow OL (on - (j + 1) + 1)) := by rw [show on - (j + 1) + 1 = on - j by omega]; exact hrow
            have hrc : (wr.cell? ⟨R, j, none⟩ = some (.pointer none)) ∧ wr.frozen? ⟨R, j, none⟩ = false := by
              unfold ptrRow at hrr
              refine ⟨(cells_of hrr).1 j _ ?_, (cells_of hrr).2 j⟩
              have hl : (ptrsO OL).length = j := by simp [ptrsO, hOLl]
              rw [List.getElem?_toArray, List.getElem?_append_right (by omega), hl, Nat.sub_self]
              simp [List.replicate_succ]
            obtain ⟨rc, rz⟩ := hrc
            have rc' : ∀ o, (wr.alloc o).cell? ⟨R, j, none⟩ = some (.pointer none) := fun o => ca rc
            have rz' : ∀ o, (wr.alloc o).frozen? ⟨R, j, none⟩ = false := fun o => (cells_of (ha (show wr.heap[R]? = some (.cells (ptrsO OL ++ List.replicate (on - (j + 1) + 1) (Value.pointer none)).toArray 119 (0, 0)) from hrr))).2 j
            have m3' : ∀ o, (wr.alloc o).cell? ⟨m, 3, none⟩ = some (.slice (some ⟨R, 0, none⟩) on on) := fun o => ca m3
            have hX := Lib.hid (And.intro hx (And.intro hOLl (And.intro hOL (And.intro hd (And.intro hown hkw))))); clear hx hOLl hOL hd hown hkw hrow hrr hmr rc
            go_upto_region 19 with fail
            have hw6 : ∀ W6, W6 = (wr.alloc (.cells #[.string ⟨#[]⟩, .slice none 0 0] 121)).setCell ⟨R, j, none⟩ (.pointer (some ⟨wr.heap.size, 0, none⟩)) → W6.cell? ⟨m, 3, none⟩ = some (.slice (some ⟨R, 0, none⟩) on on) ∧ W6.cell? ⟨R, j, none⟩ = some (.pointer (some ⟨wr.heap.size, 0, none⟩)) ∧
                (Calls Tryz.prog 157 #[.pointer (some ⟨wr.heap.size, 0, none⟩), .iface 215 (.pointer (some ⟨b, 0, none⟩))] W6 fun e w' => e = .returned .nilIface ∧ ∃ pv, Dec w' b g off cap cs ([] ++ be16 (ver % 65536) ++ encStrs tops ++ specData data ++ be32 (on : Int) ++ (owned.take j).flatMap shrBytes ++ (encStr x.top ++ encInts x.parts)).length ∧ OwAt w' (x.top, wr.heap.size, pv, x.parts) ∧
                  (∀ y, pv.ownBlock = some y → W6.heap.size ≤ y ∧ y < w'.heap.size) ∧ Kept [b, wr.heap.size] W6 w') ∧ W6.heap.size = wr.heap.size + 1 := by
              rintro W6 rfl
              have hxm := List.mem_of_getElem? hX.out.1
              have hk6 : Kept [R] wr ((wr.alloc (.cells #[.string ⟨#[]⟩, .slice none 0 0] 121)).setCell ⟨R, j, none⟩ (.pointer (some ⟨wr.heap.size, 0, none⟩))) := ((Kept.refl _ _).alloc _).setCell _ (by simp)
              refine ⟨YticcnlpfmekagaaGreat.cs (by simpa using by omega) (m3' _), by simp [go_sem, rc'], ?_, by simp⟩
              refine own_decode x.top x.parts (by have := (HE0.out.2.2.1.1 x hxm).2.1; omega) (HE0.out.2.2.2 x hxm) (by have := (HE0.out.2.2.1.1 x hxm).2.2; omega) (by simp; omega) (post := (owned.drop (j + 1)).flatMap shrBytes ++ genB ver gen ++ rackB ver has rack) ?_ (hX.out.2.2.2.1.kept hk6 (by simp; omega) (by simp; omega)) (YticcnlpfmekagaaGreat.hs (by simpa using by omega) (heap_alloc_new wr _)) (by omega) (by omega)
              rw [HOB.out.2, (shrs_split owned j x hX.out.1).1]
              simp [shrBytes]
            have HW6 := Lib.hid (hw6 _ rfl); clear hw6
            generalize hW6 : (wr.alloc (.cells #[.string ⟨#[]⟩, .slice none 0 0] 121)).setCell ⟨R, j, none⟩ (.pointer (some ⟨wr.heap.size, 0, none⟩)) = W6 at *
            have HW6e := Lib.hid hW6; clear hW6
            obtain ⟨v3, vr, _⟩ := HW6.out
            clear m3 m3' rc' rz rz'
            go_wp2_with (first
              | (go_at_call 157
                 refine HW6.out.2.2.1.mono ?_
                 rintro e w7 ⟨rfl, pv, hd7, ho7, hf7, hk7⟩
                 have H7 := Lib.hid (And.intro hd7 (And.intro ho7 (And.intro hf7 hk7))); clear hd7 ho7 hf7 hk7)
              | fail)
            go_roundw
            case rel =>
              obtain ⟨hx, hOLl, hOL, hd, hown, hkw⟩ := hX.out
              obtain ⟨hd7, ho7, hf7, hk7⟩ := H7.out
              have hsz6 := HW6.out.2.2.2
              refine ⟨j + 1, OL ++ [(x.top, wr.heap.size, pv, x.parts)], by go_num, by omega, by simp [hOLl], ?_, ?_, ?_, ?_⟩
              · obtain ⟨hk', hx'⟩ := List.getElem?_eq_some_iff.1 hx
                rw [List.take_succ_eq_append_getElem hk', hx', List.map_append, ← hOL]
                simp [ow2, owOf]
              · rw [(shrs_split owned j x hx).2]
                simpa [shrBytes, List.append_assoc] using hd7
              · refine ows_snoc (k := on - (j + 1)) (by rw [show on - (j + 1) + 1 = on - j by omega]; exact hown) (by omega) hbR (by rw [hOLl, HW6e.out]; exact hk7) ho7 (fun y hy => by have := hf7 y hy; omega)
              · have hk6 : Kept [R] wr W6 := by rw [← HW6e.out]; exact ((Kept.refl _ _).alloc _).setCell _ (by simp)
                exact ((hkw.trans hk6 (U := [b, R]) (fun _ h => h) (by simp)).trans hk7 (fun _ h => h) (fun y hy hl => by simp at hy; rcases hy with rfl | rfl <;> simp; omega))
            case measure => simp [intOf]; omega
          · have hjn' : j = on := by omega
            subst hjn'
            rw [List.take_of_length_le (by have := HON.out; omega)] at hOL hd
            have hrow := hown.ok (Rs.blk R (ptrRow OL (j - j))) (by simp)
            have hows := hown.ok (Rs.ows OL) (by simp)
            have hlo := hown.lo (Rs.ows OL) (by simp)
            have HE := Lib.hid (And.intro hOLl (And.intro hOL (And.intro hd (And.intro hkw (And.intro hmr (And.intro hrow (And.intro hows hlo))))))); clear hOLl hOL hd hown hkw hmr hrow hows hlo
            go_wp2_with fail
            go_meet
            obtain ⟨hOLl, hOL, hd, hkw, hmr, hrow, hows, hlo⟩ := HE.out
            have hri : RowIs wr R 119 (ptrsO OL) := by
              have : wr.heap[R]? = some (ptrRow OL (j - j)) := hrow
              unfold RowIs
              rw [this, ptrRow, Nat.sub_self]; simp
            have hsl := hri.sl (n := j) (by simp [ptrsO, hOLl]) (fun u hu => by obtain ⟨y, _, rfl⟩ := List.mem_map.1 hu; rfl)
            refine ⟨some ⟨R, 0, none⟩, j, OL, ?_, by rw [hOLl]; exact hmr, by rw [hOLl]; exact hsl, hows, by rw [hOL, if_pos hv1], ?_, HW5.out.2.2.2.1.trans hkw (fun _ h => h) (fun y hy hl => by simp at hy; rcases hy with rfl | rfl <;> simp; omega)⟩
            · rw [HOB.out.1]; simpa [List.append_assoc] using hd
            · intro y hy
              simp only [Value.ownBlock, Option.toList, List.cons_append, List.nil_append, List.mem_cons] at hy
              rcases hy with rfl | hy
              · exact hWR
              · have := hlo y hy; omega
    · have hob : ownB ver owned = [] := by unfold ownB; rw [if_neg hv1]
      have HE := Lib.hid (And.intro HS3.out.1 (And.intro HS3.out.2.1 hob)); clear hob
      go_wp2_with fail
      go_meet
      refine ⟨none, 0, [], ?_, HE.out.2.1, SlAt.nil _ _, by simp, ?_, by simp [Value.ownBlock, footO], Kept.refl _ _⟩
      · rw [HE.out.2.2, List.append_nil]; exact HE.out.1
      · rw [if_neg (by omega)]; rfl
  case rest =>
    obtain ⟨oa, oc, OL, hdx, hmx, hslx, howx, hOLx, hlox, hkx⟩ := hcut
    have x0c := (cells_of hmx).1 0 _ rfl
    have hfin : ∀ wf gv rk, Kept [b, m] W wf → wf.heap[m]? = some (.cells #[.int .i16 ver, .slice ta tn tc, .slice da dn dc, .slice oa OL.length oc, .int .i32 gv, rk] 78 (0, 0)) → (∀ x ∈ OL, OwAt wf x) → SlAt wf 1 (.slice oa OL.length oc) OL.length (ptrsO OL) → gv = (if 2 ≤ ver then gen else 0) → PStr wf rk (if 3 ≤ ver then (if has then some rack else none) else none) → (∀ a, rk = .pointer (some a) → w.heap.size ≤ a.block) →
        MemDec wf w.heap.size m g ⟨id, ver, tv0, tops, dv0, data, ov0, owned, gen, rack, has⟩ ∧ Kept [b, m] w wf := by
      intro wf gv rk hk hh ho hs hg hp hra
      obtain ⟨_, _, hkW, htv, hdv, hfd, hft⟩ := HS3.out
      have hWs2 := hkW.size
      refine ⟨⟨_, _, _, _, OL, by rw [← hg]; exact hh, ?_, ⟨?_, da, dc, by rw [HTN.out.2], ?_⟩, hfd, hOLx, ⟨_, _, rfl⟩, hs, ho, hp, fun y hy => ?_, hra⟩, hkW.trans hk (fun _ h => h) (fun _ h _ => h)⟩
      · exact htv.kept hk (fun y hy => by have := hft y hy; simp; omega)
      · have := hdv.1.kept hk (fun y hy => by have h1 := hfd y hy; have h2 := HS3.out.1.ne; simp; omega)
        exact this
      · obtain ⟨a', c', e', h'⟩ := hdv.2
        cases e'
        exact h'
      · simp only [List.mem_append] at hy hlox
        rcases hy with (hy | hy) | hy
        · exact hft y (by simpa using hy)
        · have := hlox y (.inl hy); omega
        · have := hlox y (.inr hy); omega
    have HFIN := Lib.hid hfin; clear hfin
    have hstay : ∀ wf, Kept [b, m] wc wf → (∀ x ∈ OL, OwAt wf x) ∧ SlAt wf 1 (.slice oa OL.length oc) OL.length (ptrsO OL) := by
      intro wf hk
      have hl : ∀ y ∈ (Value.slice oa OL.length oc).ownBlock.toList ++ footO OL, y ≠ b ∧ y ≠ m := fun y hy => by have := hlox y hy; omega
      refine ⟨(Rs.ows OL).stable wc wf [b, m] hk (fun y hy h => ?_) howx, hslx.kept hk (fun y hy h => ?_)⟩
      · have := hl y (by simp only [List.mem_append]; right; exact hy)
        simp at h; omega
      · have := hl y (by simp only [List.mem_append]; left; simp [hy])
        simp at h; omega
    have HSTAY := Lib.hid hstay; clear hstay
    have HX := Lib.hid (And.intro hdx (And.intro hmx (And.intro hslx (And.intro howx (And.intro hOLx (And.intro hlox hkx)))))); clear hdx hmx hslx howx hOLx hlox hkx x0
    rcases (by omega : ver < 2 ∨ ver = 2 ∨ ver = 3) with hv | rfl | rfl
    · go_wp2_with fail
      go_ret
      have e4 : cs = [] ++ be16 (ver % 65536) ++ encStrs tops ++ specData data ++ ownB ver owned := by rw [HE0.out.1]; unfold genB rackB; rw [if_neg (by omega), if_neg (by omega)]; simp
      have hdf := HX.out.1
      rw [← e4] at hdf
      exact ⟨rfl, hdf, HFIN.out wc 0 (.pointer none) HX.out.2.2.2.2.2.2 HX.out.2.1 HX.out.2.2.2.1 HX.out.2.2.1 (by rw [if_neg (by omega)]) (.inl ⟨rfl, by rw [if_neg (by omega)]⟩) (fun a h => by cases h)⟩
    · have e5 : cs = ([] ++ be16 (2 % 65536) ++ encStrs tops ++ specData data ++ ownB 2 owned) ++ be32 (gen % 4294967296) ++ rackB 2 has rack := by rw [HE0.out.1]; simp [genB]
      have h5 := at_i32 gen HG.out e5 HX.out.1
      have e6 : cs = [] ++ be16 (2 % 65536) ++ encStrs tops ++ specData data ++ ownB 2 owned ++ be32 (gen % 4294967296) := by rw [e5]; simp [rackB]
      have E6 := Lib.hid e6; clear e6
      have H5 := Lib.hid h5; clear h5 e5
      have d1 := rdI32.m
      have d2 := rdI32.n
      have d3 := rdI32.c
      go_wp2_with (first
        | (go_at_call 339
           refine H5.out.mono ?_
           rintro e w5 ⟨rfl, hd5, hk5⟩
           have hm5 := hk5.heap HX.out.2.1 (by simpa using hmb)
           have y4 := (cells_of hm5).1 4 _ rfl
           have z4 := (cells_of hm5).2 4
           obtain ⟨s1, s2, s3, s4⟩ := dec_store hd5 hm5 ((HX.out.2.2.2.2.2.2.trans hk5 (U := [b, m]) (fun _ h => h) (fun x hx _ => by simp at hx; simp [hx]))) hmb hmg 4 (.int .i32 gen)
           have x0' : (w5.setCell ⟨m, 4, none⟩ (.int .i32 gen)).cell? ⟨m, 0, none⟩ = some (.int .i16 2) := (cells_of s2).1 0 _ rfl
           have hm6 : (w5.setCell ⟨m, 4, none⟩ (.int .i32 gen)).heap[m]? = some (.cells #[.int .i16 2, .slice ta tn tc, .slice da dn dc, .slice oa OL.length oc, .int .i32 gen, .pointer none] 78 (0, 0)) := s2
           have HKC : Kept [b, m] wc (w5.setCell ⟨m, 4, none⟩ (.int .i32 gen)) := (hk5.mono (by simp)).setCell _ (by simp)
           have H6 := Lib.hid (And.intro s1 (And.intro hm6 s3)); clear s1 s2 s3 s4 hm5 hk5 hd5 hm6)
        | fail)
      go_ret
      have hk6 := H6.out.2.2
      have hkc : Kept [b, m] wc (w5.setCell ⟨m, 4, none⟩ (.int .i32 gen)) := HKC
      obtain ⟨q1, q2⟩ := HSTAY.out _ hkc
      have hdf := H6.out.1
      rw [← E6.out] at hdf
      exact ⟨rfl, hdf, HFIN.out _ gen (.pointer none) hk6 H6.out.2.1 q1 q2 (by rw [if_pos (by omega)]) (.inl ⟨rfl, by rw [if_neg (by omega)]⟩) (fun a h => by cases h)⟩
    · cases has
      · have e5 : cs = ([] ++ be16 (3 % 65536) ++ encStrs tops ++ specData data ++ ownB 3 owned) ++ be32 (gen % 4294967296) ++ rackB 3 false rack := by rw [HE0.out.1]; simp [genB]
        have e6 : cs = ([] ++ be16 (3 % 65536) ++ encStrs tops ++ specData data ++ ownB 3 owned ++ be32 (gen % 4294967296)) ++ be16 65535 ++ [] := by rw [e5]; simp [rackB, be16]
        have h5 := at_i32 gen HG.out e5 HX.out.1
        have H5 := Lib.hid h5; clear h5
        have q6 := fun (w1 : World) (_ : g < w1.heap.size) (h : Dec w1 b g off cap cs ([] ++ be16 (3 % 65536) ++ encStrs tops ++ specData data ++ ownB 3 owned ++ be32 (gen % 4294967296)).length) => at_nstr_none e6 h
        have Q6 := Lib.hid q6; clear q6 e5
        rw [List.append_nil] at e6
        have E6 := Lib.hid e6; clear e6
        have d1 := rdI32.m
        have d2 := rdI32.n
        have d3 := rdI32.c
        have f1 := rdNStr.m
        have f2 := rdNStr.n
        have f3 := rdNStr.c
        have hWc := HX.out.2.2.2.2.2.2.size
        go_wp2_with (first
          | (go_at_call 339
             refine H5.out.mono ?_
             rintro e w5 ⟨rfl, hd5, hk5⟩
             have hm5 := hk5.heap HX.out.2.1 (by simpa using hmb)
             have y4 := (cells_of hm5).1 4 _ rfl
             have z4 := (cells_of hm5).2 4
             obtain ⟨s1, s2, s3, s4⟩ := dec_store hd5 hm5 ((HX.out.2.2.2.2.2.2.trans hk5 (U := [b, m]) (fun _ h => h) (fun x hx _ => by simp at hx; simp [hx]))) hmb hmg 4 (.int .i32 gen)
             have x0' : (w5.setCell ⟨m, 4, none⟩ (.int .i32 gen)).cell? ⟨m, 0, none⟩ = some (.int .i16 3) := (cells_of s2).1 0 _ rfl
             have hm6 : (w5.setCell ⟨m, 4, none⟩ (.int .i32 gen)).heap[m]? = some (.cells #[.int .i16 3, .slice ta tn tc, .slice da dn dc, .slice oa OL.length oc, .int .i32 gen, .pointer none] 78 (0, 0)) := s2
             have HKC : Kept [b, m] wc (w5.setCell ⟨m, 4, none⟩ (.int .i32 gen)) := (hk5.mono (by simp)).setCell _ (by simp)
             have hq6 := Q6.out _ (by have := s3.size; omega) s1
             have HQ6 := Lib.hid hq6; clear hq6
             have H6 := Lib.hid (And.intro s1 (And.intro hm6 s3)); clear s1 s2 s3 s4 hm5 hk5 hd5 hm6)
          | (go_at_call 341
             refine HQ6.out.mono ?_
             rintro e w7 ⟨rfl, hd7, hk7⟩
             have hm7 := hk7.heap H6.out.2.1 (by simpa using hmb)
             have y5 := (cells_of hm7).1 5 _ rfl
             have z5 := (cells_of hm7).2 5
             obtain ⟨s1, s2, s3, s4⟩ := dec_store hd7 hm7 (H6.out.2.2.trans hk7 (U := [b, m]) (fun _ h => h) (fun x hx _ => by simp at hx; simp [hx])) hmb hmg 5 (.pointer none)
             have hm8 : (w7.setCell ⟨m, 5, none⟩ (.pointer none)).heap[m]? = some (.cells #[.int .i16 3, .slice ta tn tc, .slice da dn dc, .slice oa OL.length oc, .int .i32 gen, .pointer none] 78 (0, 0)) := s2
             have HKC2 : Kept [b, m] wc (w7.setCell ⟨m, 5, none⟩ (.pointer none)) := (HKC.trans hk7 (U := [b, m]) (fun _ h => h) (fun x hx _ => by simp at hx; simp [hx])).setCell _ (by simp)
             have H7 := Lib.hid (And.intro hm8 (And.intro s3 s1)); clear s1 s2 s3 hm7 hk7 hd7 hm8)
          | fail)
        go_ret
        obtain ⟨q1, q2⟩ := HSTAY.out _ HKC2
        have hdf := H7.out.2.2
        rw [← E6.out] at hdf
        exact ⟨rfl, hdf, HFIN.out _ gen (.pointer none) H7.out.2.1 H7.out.1 q1 q2 (by rw [if_pos (by omega)]) (.inl ⟨rfl, by simp⟩) (fun a h => by cases h)⟩
      · have e5 : cs = ([] ++ be16 (3 % 65536) ++ encStrs tops ++ specData data ++ ownB 3 owned) ++ be32 (gen % 4294967296) ++ rackB 3 true rack := by rw [HE0.out.1]; simp [genB]
        have e6 : cs = ([] ++ be16 (3 % 65536) ++ encStrs tops ++ specData data ++ ownB 3 owned ++ be32 (gen % 4294967296)) ++ encStr rack ++ [] := by rw [e5]; simp [rackB, be16]
        have h5 := at_i32 gen HG.out e5 HX.out.1
        have H5 := Lib.hid h5; clear h5
        have q6 := fun (w1 : World) (hg : g < w1.heap.size) (h : Dec w1 b g off cap cs ([] ++ be16 (3 % 65536) ++ encStrs tops ++ specData data ++ ownB 3 owned ++ be32 (gen % 4294967296)).length) => at_nstr_some rack (by omega) hg e6 h
        have Q6 := Lib.hid q6; clear q6 e5
        rw [List.append_nil] at e6
        have E6 := Lib.hid e6; clear e6
        have d1 := rdI32.m
        have d2 := rdI32.n
        have d3 := rdI32.c
        have f1 := rdNStr.m
        have f2 := rdNStr.n
        have f3 := rdNStr.c
        have hWc := HX.out.2.2.2.2.2.2.size
        go_wp2_with (first
          | (go_at_call 339
             refine H5.out.mono ?_
             rintro e w5 ⟨rfl, hd5, hk5⟩
             have hm5 := hk5.heap HX.out.2.1 (by simpa using hmb)
             have y4 := (cells_of hm5).1 4 _ rfl
             have z4 := (cells_of hm5).2 4
             obtain ⟨s1, s2, s3, s4⟩ := dec_store hd5 hm5 ((HX.out.2.2.2.2.2.2.trans hk5 (U := [b, m]) (fun _ h => h) (fun x hx _ => by simp at hx; simp [hx]))) hmb hmg 4 (.int .i32 gen)
             have x0' : (w5.setCell ⟨m, 4, none⟩ (.int .i32 gen)).cell? ⟨m, 0, none⟩ = some (.int .i16 3) := (cells_of s2).1 0 _ rfl
             have hm6 : (w5.setCell ⟨m, 4, none⟩ (.int .i32 gen)).heap[m]? = some (.cells #[.int .i16 3, .slice ta tn tc, .slice da dn dc, .slice oa OL.length oc, .int .i32 gen, .pointer none] 78 (0, 0)) := s2
             have HKC : Kept [b, m] wc (w5.setCell ⟨m, 4, none⟩ (.int .i32 gen)) := (hk5.mono (by simp)).setCell _ (by simp)
             have hq6 := Q6.out _ (by have := s3.size; omega) s1
             have HQ6 := Lib.hid hq6; clear hq6
             have H6 := Lib.hid (And.intro s1 (And.intro hm6 s3)); clear s1 s2 s3 s4 hm5 hk5 hd5 hm6)
          | (go_at_call 341
             refine HQ6.out.mono ?_
             rintro e w7 ⟨R, ⟨rfl, hd7, hk7⟩, hR7, hcR⟩
             have hm7 := hk7.heap H6.out.2.1 (by simpa using hmb)
             have y5 := (cells_of hm7).1 5 _ rfl
             have z5 := (cells_of hm7).2 5
             obtain ⟨s1, s2, s3, s4⟩ := dec_store hd7 hm7 (H6.out.2.2.trans hk7 (U := [b, m]) (fun _ h => h) (fun x hx _ => by simp at hx; simp [hx])) hmb hmg 5 (.pointer (some ⟨R, 0, none⟩))
             have hm8 : (w7.setCell ⟨m, 5, none⟩ (.pointer (some ⟨R, 0, none⟩))).heap[m]? = some (.cells #[.int .i16 3, .slice ta tn tc, .slice da dn dc, .slice oa OL.length oc, .int .i32 gen, .pointer (some ⟨R, 0, none⟩)] 78 (0, 0)) := s2
             have HKC2 : Kept [b, m] wc (w7.setCell ⟨m, 5, none⟩ (.pointer (some ⟨R, 0, none⟩))) := (HKC.trans hk7 (U := [b, m]) (fun _ h => h) (fun x hx _ => by simp at hx; simp [hx])).setCell _ (by simp)
             have H7 := Lib.hid (And.intro hm8 (And.intro s3 s1)); clear s1 s2 s3 hm7 hk7 hd7 hm8)
          | fail)
        go_ret
        obtain ⟨q1, q2⟩ := HSTAY.out _ HKC2
        have hdf := H7.out.2.2
        rw [← E6.out] at hdf
        have hsW := H6.out.2.2.size
        exact ⟨rfl, hdf, HFIN.out _ gen (.pointer (some ⟨R, 0, none⟩)) H7.out.2.1 H7.out.1 q1 q2 (by rw [if_pos (by omega)]) (.inr ⟨R, 0, rack, rfl, by simp, s4.cell hcR (by simp; omega)⟩) (fun a h => by cases h; simp only; have := H6.out.2.2.size; omega)⟩
end Go.Proofs.YticcnlpfmekagaaGreat
