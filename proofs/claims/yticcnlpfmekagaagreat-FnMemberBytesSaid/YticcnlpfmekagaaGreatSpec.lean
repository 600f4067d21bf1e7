import Derived.Test.YticcnlpfmekagaaGreatMemb
import Derived.Test.YticcnlpfmekagaaGreatFits
namespace Go.Proofs.YticcnlpfmekagaaGreat
open Go Go.Proofs Go.RowKit
set_option linter.unusedVariables false
set_option linter.unusedSimpArgs false

/-! ## the reference's bytes -/

/-- v holds xs, in memory that was made since wB -/
structure Acc (wB w : World) (v : Value) (xs : List Value) : Prop where
  own : w.ownsRow 0 5 1 v xs.length xs
  fr : Fresh wB v
  kept : Kept [] wB w
theorem Acc.nil {wB w : World} (h : Kept [] wB w) : Acc wB w (.slice none 0 0) [] := ⟨own_nil _ _, Fresh.nil _, h⟩
theorem own_n {w : World} {v : Value} {n : Nat} {xs : List Value} (h : w.ownsRow 0 5 1 v n xs) : n = xs.length := by have := h.1; omega
theorem Acc.form {wB w : World} {v : Value} {xs : List Value} (h : Acc wB w v xs) : ∃ a n c, v = .slice a n c := own_form h.own
theorem Acc.len {wB w : World} {a : Option Addr} {n c : Nat} {xs : List Value} (h : Acc wB w (.slice a n c) xs) : n = xs.length := by
  rcases h.own.2 with ⟨h1, h2⟩ | ⟨g, cap, cur, h1, _⟩
  · cases h1; exact h2.symm
  · cases h1; rfl
theorem Acc.later {wB w w' : World} {v : Value} {xs : List Value} (h : Acc wB w v xs) (k : Kept [] w w') : Acc wB w' v xs := ⟨own_kept h.own k (by simp), h.fr, h.kept.trans k (by simp) (by simp)⟩
theorem Acc.step {wB w w1 w2 : World} {v v' : Value} {xs ys : List Value} {m : Nat} (h : Acc wB w v xs) (hk : Kept [] w w1) (ho : w2.ownsRow 0 5 1 v' (xs.length + m) (xs ++ ys)) (hk1 : Kept v.ownBlock.toList w1 w2)
    (hd : (v'.ownBlock = v.ownBlock ∧ w2.heap.size = w1.heap.size) ∨ (v'.ownBlock = some w1.heap.size ∧ w2.heap.size = w1.heap.size + 1)) : Acc wB w2 v' (xs ++ ys) := by
  obtain ⟨h1, h2⟩ := app_step h.fr (h.kept.trans hk (U := []) (by simp) (by simp)) hk1 hd
  exact ⟨by rw [← own_n ho]; exact ho, h1, h2⟩

set_option maxRecDepth 100000 in
set_option maxHeartbeats 1000000 in
theorem putBig4_any (wB w : World) (v : Value) (xs : List Value) (x : Int) (h : Acc wB w v xs) (hn : xs.length ≤ 10000000) (h0 : 0 ≤ x) (h1 : x < 18446744073709551616) :
    Calls Tryz.prog 52 #[v, .int .u64 x, .int .i64 4] w fun e w' => ∃ v', e = .returned v' ∧ Acc wB w' v' (xs ++ be32 (x % 4294967296)) := by
  have HA := Lib.hid h
  have ho := h.own
  generalize hnn : xs.length = n at ho hn
  have HNN := Lib.hid hnn; clear hnn h
  have HO := Lib.hid ho; clear ho
  go_enter Tryz.func52, Tryz.ntmps52
  go_wp2
  refine wp_loop_rounds 5 ?_
  rw [rounds_succ]
  go_wp2_with (refine wl_app (v := v) rfl rfl elU8 rfl rfl (HO.out.alloc _) (src_one (heap_alloc_new w _) rfl Tryz.underlying28) (by omega) (by omega) ?_; intro v1 w1 ho1 hk1 hd1)
  rw [rounds_succ]
  go_wp2_with (refine wl_app (v := v1) rfl rfl elU8 rfl rfl (ho1.alloc _) (src_one (heap_alloc_new w1 _) rfl Tryz.underlying28) (by omega) (by omega) ?_; intro v2 w2 ho2 hk2 hd2)
  rw [rounds_succ]
  go_wp2_with (refine wl_app (v := v2) rfl rfl elU8 rfl rfl (ho2.alloc _) (src_one (heap_alloc_new w2 _) rfl Tryz.underlying28) (by omega) (by omega) ?_; intro v3 w3 ho3 hk3 hd3)
  rw [rounds_succ]
  go_wp2_with (refine wl_app (v := v3) rfl rfl elU8 rfl rfl (ho3.alloc _) (src_one (heap_alloc_new w3 _) rfl Tryz.underlying28) (by omega) (by omega) ?_; intro v4 w4 ho4 hk4 hd4)
  rw [rounds_succ]
  go_wp2
  go_ret
  obtain ⟨f1, k1⟩ := app_step HA.out.fr (HA.out.kept.alloc _) hk1 hd1
  obtain ⟨f2, k2⟩ := app_step f1 (k1.alloc _) hk2 hd2
  obtain ⟨f3, k3⟩ := app_step f2 (k2.alloc _) hk3 hd3
  obtain ⟨f4, k4⟩ := app_step f3 (k3.alloc _) hk4 hd4
  have e := be32_mod x
  have e4 : xs ++ be32 (x % 4294967296) = xs ++ [Value.int .u8 (x / 16777216 % 256)] ++ [.int .u8 (x / 65536 % 256)] ++ [.int .u8 (x / 256 % 256)] ++ [.int .u8 (x % 256)] := by rw [e]; simp
  rw [e4]
  exact ⟨v4, rfl, by rw [← own_n ho4]; exact ho4, f4, k4⟩

set_option maxRecDepth 100000 in
set_option maxHeartbeats 1000000 in
theorem putBig2_any (wB w : World) (v : Value) (xs : List Value) (x : Int) (h : Acc wB w v xs) (hn : xs.length ≤ 10000000) (h0 : 0 ≤ x) (h1 : x < 18446744073709551616) :
    Calls Tryz.prog 52 #[v, .int .u64 x, .int .i64 2] w fun e w' => ∃ v', e = .returned v' ∧ Acc wB w' v' (xs ++ be16 (x % 65536)) := by
  have HA := Lib.hid h
  have ho := h.own
  generalize hnn : xs.length = n at ho hn
  have HNN := Lib.hid hnn; clear hnn h
  have HO := Lib.hid ho; clear ho
  go_enter Tryz.func52, Tryz.ntmps52
  go_wp2
  refine wp_loop_rounds 3 ?_
  rw [rounds_succ]
  go_wp2_with (refine wl_app (v := v) rfl rfl elU8 rfl rfl (HO.out.alloc _) (src_one (heap_alloc_new w _) rfl Tryz.underlying28) (by omega) (by omega) ?_; intro v1 w1 ho1 hk1 hd1)
  rw [rounds_succ]
  go_wp2_with (refine wl_app (v := v1) rfl rfl elU8 rfl rfl (ho1.alloc _) (src_one (heap_alloc_new w1 _) rfl Tryz.underlying28) (by omega) (by omega) ?_; intro v2 w2 ho2 hk2 hd2)
  rw [rounds_succ]
  go_wp2
  go_ret
  obtain ⟨f1, k1⟩ := app_step HA.out.fr (HA.out.kept.alloc _) hk1 hd1
  obtain ⟨f2, k2⟩ := app_step f1 (k1.alloc _) hk2 hd2
  have e := be16_mod x
  have e4 : xs ++ be16 (x % 65536) = xs ++ [Value.int .u8 (x / 256 % 256)] ++ [.int .u8 (x % 256)] := by rw [e]; simp
  rw [e4]
  exact ⟨v2, rfl, by rw [← own_n ho2]; exact ho2, f2, k2⟩

set_option maxRecDepth 100000 in
set_option maxHeartbeats 400000 in
theorem putText_any (wB w : World) (v : Value) (xs : List Value) (s : ByteArray) (h : Acc wB w v xs) (hn : xs.length ≤ 1000000) (hs : s.size ≤ 32767) :
    Calls Tryz.prog 53 #[v, .string s] w fun e w' => ∃ v', e = .returned v' ∧ Acc wB w' v' (xs ++ encStr s) := by
  have h1 := putBig2_any wB w v xs s.size h (by omega) (by omega) (by omega)
  rw [Int.emod_eq_of_lt (by omega) (by omega)] at h1
  have H1 := Lib.hid h1; clear h1
  have hxl : (xs ++ be16 (s.size : Int)).length ≤ 1000002 := by simp [be16]; omega
  have hw : IntKind.u64.wrap (s.size : Int) = s.size := by simp [IntKind.wrap, IntKind.bits, IntKind.signed]; omega
  have e : xs ++ encStr s = xs ++ be16 (s.size : Int) ++ byteCells s := by simp [encStr]
  rw [e]
  clear e h
  generalize hys : xs ++ be16 (s.size : Int) = ys at *
  have HYS := Lib.hid hys; clear hys
  go_enter Tryz.func53, Tryz.ntmps53
  go_wp2_with (first
    | (go_at_call 52
       refine H1.out.mono ?_
       rintro e w1 ⟨v1, rfl, ha1⟩
       have HA1 := Lib.hid ha1; clear ha1)
    | (refine wl_app (v := v1) rfl rfl elU8 rfl rfl HA1.out.own (Src.ofString _ Tryz.underlying9 s) (by omega) (by omega) ?_
       intro v2 w2 ho2 hk2 hd2)
    | fail)
  go_ret
  exact ⟨v2, rfl, HA1.out.step (Kept.refl _ _) ho2 hk2 hd2⟩

/-- bytes behind their length, -1 for none -/
def specData (data : List Value) : List Value := if data = [] then be32 4294967295 else be32 data.length ++ data

set_option maxRecDepth 100000 in
set_option maxHeartbeats 400000 in
theorem putData_any (wB w : World) (v : Value) (xs : List Value) (a : Option Addr) (c : Nat) (data : List Value) (h : Acc wB w v xs) (hn : xs.length ≤ 1000000) (hd : SlAt wB 1 (.slice a data.length c) data.length data) (hl : data.length ≤ 1000000) :
    Calls Tryz.prog 54 #[v, .slice a data.length c] w fun e w' => ∃ v', e = .returned v' ∧ Acc wB w' v' (xs ++ specData data) := by
  by_cases h0 : data = []
  · subst h0
    have HA := Lib.hid h; clear h
    have hs4 : ∀ w' : World, SlAt (w'.alloc (.cells #[.int .u8 255, .int .u8 255, .int .u8 255, .int .u8 255] 5)) 1 (.slice (some ⟨w'.heap.size, 0, none⟩) 4 4) 4 [.int .u8 255, .int .u8 255, .int .u8 255, .int .u8 255] := fun w' => by
      refine ⟨rfl, by simp [Value.oneCell'], .inr ⟨_, 0, 4, rfl, fun j u hj => ?_⟩⟩
      rw [Nat.zero_add]
      exact (cells_of (heap_alloc_new w' _)).1 j u (by simpa using hj)
    have hsrc := (hs4 w).src Tryz.underlying28
    have HS := Lib.hid hsrc; clear hsrc hs4
    simp only [List.length_nil] at *
    generalize hnn : xs.length = n at *
    have HNN := Lib.hid hnn; clear hnn
    go_enter Tryz.func54, Tryz.ntmps54
    go_wp2_with (first
      | (refine wl_app (v := v) rfl rfl elU8 rfl rfl (own_kept HA.out.own ((Kept.refl [] w).alloc _) (by simp)) HS.out (by have := HNN.out; omega) (by have := HNN.out; omega) ?_
         intro v2 w2 ho2 hk2 hd2)
      | fail)
    go_ret
    refine ⟨v2, rfl, ?_⟩
    have := HA.out.step ((Kept.refl [] w).alloc _) ho2 hk2 hd2
    simpa [specData, be32] using this
  · have hlen : data.length ≠ 0 := fun e => h0 (List.eq_nil_of_length_eq_zero e)
    have hb : ¬ ((data.length : Int) = 0) := by omega
    have h1 := putBig4_any wB w v xs data.length h (by omega) (by omega) (by omega)
    rw [Int.emod_eq_of_lt (by omega) (by omega)] at h1
    have H1 := Lib.hid h1; clear h1
    have hxl : (xs ++ be32 (data.length : Int)).length ≤ 1000004 := by simp [be32]; omega
    have hw : IntKind.u64.wrap (data.length : Int) = data.length := by simp [IntKind.wrap, IntKind.bits, IntKind.signed]; omega
    have e : xs ++ specData data = xs ++ be32 (data.length : Int) ++ data := by simp [specData, h0]
    rw [e]
    have hsrc : ∀ w', Kept [] wB w' → Src Tryz.prog 1 28 (.slice a data.length c) data.length data w' := fun w' k => (hd.kept k (by simp)).src Tryz.underlying28
    have HSRC := Lib.hid hsrc; clear hsrc
    clear e h hd h0 hlen
    generalize hys : xs ++ be32 (data.length : Int) = ys at *
    have HYS := Lib.hid hys; clear hys
    generalize hnn : data.length = n at *
    have HNN := Lib.hid hnn; clear hnn
    go_enter Tryz.func54, Tryz.ntmps54
    go_wp2_with (first
      | (go_at_call 52
         refine H1.out.mono ?_
         rintro e w1 ⟨v1, rfl, ha1⟩
         have HA1 := Lib.hid ha1; clear ha1)
      | (refine wl_app (v := v1) rfl rfl elU8 rfl rfl HA1.out.own (HSRC.out _ HA1.out.kept) (by omega) (by omega) ?_
         intro v2 w2 ho2 hk2 hd2)
      | fail)
    go_ret
    exact ⟨v2, rfl, HA1.out.step (Kept.refl _ _) ho2 hk2 hd2⟩

def shrBytes (x : Shr) : List Value := encStr x.top ++ encInts x.parts
end Go.Proofs.YticcnlpfmekagaaGreat
