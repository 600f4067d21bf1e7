/- Part 37 of 51 of the proof of the row: the texts MFits, AppN, Meta2. -/
import Derived.Test.YticcnlpfmekagaaGreatRd11
import Derived.Test.YticcnlpfmekagaaGreatRd12
import Derived.Test.YticcnlpfmekagaaGreatRd04
import Derived.Deep.AppendSrc
import Derived.Test.YticcnlpfmekagaaGreatRd07
import Derived.Test.YticcnlpfmekagaaGreatRd22
import Derived.Deep.RegionLaw
namespace Go.Proofs.YticcnlpfmekagaaGreat
open Go Go.Proofs Go.RowKit
set_option linter.unusedVariables false
set_option linter.unusedSimpArgs false

/-! ## the guards on members -/

theorem strs_at {w : World} {a : Option Addr} {n c : Nat} {l : List ByteArray} (h : SlAt w 1 (.slice a n c) n (strs l)) (hn : 0 < n) : ∃ g off, a = some ⟨g, off, none⟩ ∧ ∀ (k : Nat) x, l[k]? = some x → w.cell? ⟨g, off + k, none⟩ = some (.string x) := by
  obtain ⟨_, hcase⟩ := h.cases
  rcases hcase with ⟨_, h0, _⟩ | ⟨g, off, hva, hcell⟩
  · omega
  · exact ⟨g, off, hva, fun k x hk => hcell k _ (by simp [strs, hk])⟩

set_option maxRecDepth 100000 in
set_option maxHeartbeats 1000000 in
theorem fits4 (v : Value) (l : List ByteArray) (w : World) (hv : SlStrs w v l) (hn : l.length ≤ maxLen) :
    Calls Tryz.prog 51 #[v] w fun e w' => AnyBool e ∧ Kept [] w w' := by
  obtain ⟨⟨a, c, rfl⟩, hsl⟩ := hv
  have HC := Lib.hid hsl; clear hsl
  have hmx : maxLen = 9223372036854775807 := rfl
  generalize hLn : l.length = n at *
  have HLN := Lib.hid hLn; clear hLn
  by_cases h1 : (2147483647 : Int) < n
  · go_enter Tryz.func51, Tryz.ntmps51
    go_wp2
    go_ret
    exact ⟨⟨_, rfl⟩, Kept.refl _ _⟩
  · go_enter Tryz.func51, Tryz.ntmps51
    go_wp2
    go_loopw [10] (fun i wr => ∃ k : Nat, k ≤ n ∧ i = .int .i64 k ∧ Kept [] w wr) (fun i _ => n - (intOf i).toNat)
    case atStart => exact ⟨0, Nat.zero_le _, rfl, Kept.refl _ _⟩
    case round =>
      obtain ⟨k, hk, rfl, hkw⟩ := hrel
      by_cases hlt : k < n
      · obtain ⟨x, hkx⟩ : ∃ x, l[k]? = some x := ⟨_, List.getElem?_eq_getElem (by have := HLN.out; omega)⟩
        obtain ⟨g, off, rfl, hcell⟩ := strs_at HC.out (by omega)
        have c1 := hkw.cell (hcell k x hkx) (by simp)
        clear hcell hkx
        by_cases h2 : (2147483647 : Int) < x.size
        · go_wp2
          go_ret
          exact ⟨⟨_, rfl⟩, hkw⟩
        · go_wp2
          go_roundw
          case rel => exact ⟨k + 1, by omega, by go_num, hkw⟩
          case measure => simp [intOf]; omega
      · go_wp2
        go_ret
        exact ⟨⟨_, rfl⟩, hkw⟩

/-- a member whose slices stand as slices, boxed at block b -/
def mcs (id : ByteArray) (ver : Int) (ta : Option Addr) (tn tc : Nat) (da : Option Addr) (dn dc : Nat) (oa : Option Addr) (on oc : Nat) (gen : Int) (rack : ByteArray) (has : Bool) : Array Value :=
  #[.string id, .int .i16 ver, .slice ta tn tc, .slice da dn dc, .slice oa on oc, .int .i32 gen, .string rack, .bool has]
theorem mcs_form {w : World} {m : Mem} (h : MemAt w m) : ∃ ta tc da dc oa oc, (memCells m).toArray = mcs m.id m.ver ta m.tops.length tc da m.data.length dc oa m.owned.length oc m.gen m.rack m.has ∧
    SlStrs w (.slice ta m.tops.length tc) m.tops ∧ SlAt w 1 (.slice da m.data.length dc) m.data.length m.data ∧ ShrsAt w (.slice oa m.owned.length oc) m.owned := by
  obtain ⟨⟨⟨ta, tc, h1⟩, h2⟩, ⟨⟨da, dc, h3⟩, h4⟩, h5⟩ := h
  obtain ⟨oa, oc, h6⟩ := h5.form
  rw [h1] at h2
  rw [h3] at h4
  rw [h6] at h5
  exact ⟨ta, tc, da, dc, oa, oc, by simp [memCells, mcs, h1, h3, h6], ⟨⟨_, _, rfl⟩, h2⟩, h4, h5⟩

theorem box8 {w w' : World} {a0 a1 a2 a3 a4 a5 a6 a7 : Value} {T : TypeId} (k : Kept [] (w.alloc (.cells #[a0, a1, a2, a3, a4, a5, a6, a7] T)) w') :
    w'.heap[w.heap.size]? = some (.cells #[a0, a1, a2, a3, a4, a5, a6, a7] T (0, 0)) ∧ w'.cell? ⟨w.heap.size, 0, none⟩ = some a0 ∧ w'.cell? ⟨w.heap.size, 1, none⟩ = some a1 ∧ w'.cell? ⟨w.heap.size, 2, none⟩ = some a2 ∧ w'.cell? ⟨w.heap.size, 3, none⟩ = some a3 ∧
    w'.cell? ⟨w.heap.size, 4, none⟩ = some a4 ∧ w'.cell? ⟨w.heap.size, 5, none⟩ = some a5 ∧ w'.cell? ⟨w.heap.size, 6, none⟩ = some a6 ∧ w'.cell? ⟨w.heap.size, 7, none⟩ = some a7 := by
  have h := k.heap (heap_alloc_new w (.cells #[a0, a1, a2, a3, a4, a5, a6, a7] T)) (by simp)
  obtain ⟨h1, _⟩ := cells_of h
  exact ⟨h, h1 0 _ rfl, h1 1 _ rfl, h1 2 _ rfl, h1 3 _ rfl, h1 4 _ rfl, h1 5 _ rfl, h1 6 _ rfl, h1 7 _ rfl⟩

set_option maxRecDepth 100000 in
set_option maxHeartbeats 1000000 in
theorem fits3 (m : Mem) (w : World) (hm : MemAt w m) (h1 : m.tops.length ≤ maxLen) (h2 : m.owned.length ≤ maxLen) :
    Calls Tryz.prog 27 #[.agg (memCells m).toArray] w fun e w' => AnyBool e ∧ Kept [] w w' := by
  obtain ⟨ta, tc, da, dc, oa, oc, e, ht, hd, ho⟩ := mcs_form hm
  rw [e]
  unfold mcs
  have h4 := fun w' (k : Kept [] w w') => fits4 _ _ w' (ht.kept k (by simp)) h1
  have h5 := fun w' (k : Kept [] w w') => fits5 _ _ w' (ho.kept k (by simp) (by simp)) h2
  have H4 := Lib.hid h4; clear h4
  have H5 := Lib.hid h5; clear h5
  clear ht hd ho hm e
  generalize m.tops.length = tn at *
  generalize m.owned.length = on at *
  generalize m.data.length = dn at *
  have hk0 : ∀ o, Kept [] w (w.alloc o) := fun o => (Kept.refl _ _).alloc o
  have HK := Lib.hid hk0; clear hk0
  go_enter Tryz.func27, Tryz.ntmps27
  go_wp2_with (first
    | (go_at_call 51; refine (H4.out _ (HK.out _)).mono ?_; rintro e w1 ⟨⟨b1, rfl⟩, hk1⟩; obtain ⟨_, _, _, _, c3, c4, _, c6, _⟩ := box8 hk1; cases b1)
    | (go_at_call 13; refine (H5.out _ ((HK.out _).trans hk1 (by simp) (by simp))).mono ?_; rintro e w2 ⟨⟨b2, rfl⟩, hk2⟩; obtain ⟨_, _, _, _, _, _, _, d6, _⟩ := box8 (hk1.trans hk2 (U := []) (by simp) (by simp)); cases b2)
    | fail)
  all_goals
    go_ret
    first
      | exact ⟨⟨_, rfl⟩, (((HK.out _).trans hk1 (U := []) (by simp) (by simp))).trans hk2 (by simp) (by simp)⟩
      | exact ⟨⟨_, rfl⟩, (HK.out _).trans hk1 (by simp) (by simp)⟩
      | exact ⟨⟨_, rfl⟩, HK.out _⟩

theorem ba_nil {s : ByteArray} (h : s.toList = []) : s = ⟨#[]⟩ := by
  rw [ByteArray.toList_eq] at h
  apply ByteArray.ext
  exact Array.toList_inj.1 h
/-- what memberFits asks -/
structure MemFit (m : Mem) : Prop where
  ver : 0 ≤ m.ver ∧ m.ver ≤ 3
  tops : m.tops.length ≤ 10 ∧ ∀ x ∈ m.tops, x.size ≤ 50
  data : m.data.length ≤ 100
  rack : m.rack.size ≤ 50 ∧ (m.has = true ∨ m.rack = ⟨#[]⟩)
  owned : SharesFit m.owned

set_option maxRecDepth 100000 in
set_option maxHeartbeats 4000000 in
theorem memberFits_any (m : Mem) (w : World) (hm : MemAt w m) (h1 : m.tops.length ≤ maxLen) (h2 : m.owned.length ≤ maxLen) (h3 : m.data.length ≤ maxLen) :
    Calls Tryz.prog 28 #[.agg (memCells m).toArray] w fun e w' => BoolSays e (MemFit m) ∧ Kept [] w w' := by
  obtain ⟨ta, tc, da, dc, oa, oc, e, ht, hd, ho⟩ := mcs_form hm
  rw [e]
  unfold mcs
  have h5 := fun w' (k : Kept [] w w') => sharesFit_any _ _ w' (ho.kept k (by simp) (by simp)) h2
  have H5 := Lib.hid h5; clear h5
  have HT := Lib.hid ht; clear ht
  have hmx : maxLen = 9223372036854775807 := rfl
  have hfit : ∀ p : MemFit m, _ := fun p => And.intro p.ver (And.intro p.tops (And.intro p.data (And.intro p.rack p.owned)))
  have HFIT := Lib.hid hfit; clear hfit
  have hfit2 := MemFit.mk (m := m)
  have HFIT2 := Lib.hid hfit2; clear hfit2
  clear hd ho hm e
  obtain ⟨id, ver, tv, tops, dv, data, ov, owned, gen, rack, has⟩ := m
  simp only at *
  generalize htn : tops.length = tn at *
  generalize owned.length = on at *
  generalize hdn : data.length = dn at *
  have HTN := Lib.hid (And.intro htn hdn); clear htn hdn
  have hk0 : ∀ o, Kept [] w (w.alloc o) := fun o => (Kept.refl _ _).alloc o
  have HK := Lib.hid hk0; clear hk0
  go_enter Tryz.func28, Tryz.ntmps28
  go_wp2_with fail
  have hB := box8 (Kept.refl [] (w.alloc (.cells #[.string id, .int .i16 ver, .slice ta tn tc, .slice da dn dc, .slice oa on oc, .int .i32 gen, .string rack, .bool has] 30)))
  have hkM := HK.out (.cells #[.string id, .int .i16 ver, .slice ta tn tc, .slice da dn dc, .slice oa on oc, .int .i32 gen, .string rack, .bool has] 30)
  generalize (w.alloc (.cells #[.string id, .int .i16 ver, .slice ta tn tc, .slice da dn dc, .slice oa on oc, .int .i32 gen, .string rack, .bool has] 30)) = M at *
  obtain ⟨_, c0, c1, c2, c3, c4, c5, c6, c7⟩ := hB
  go_loop [3] (fun i => ∃ k : Nat, k ≤ tn ∧ i = .int .i64 k ∧ ∀ x ∈ tops.take k, x.size ≤ 50) (fun i => tn - (intOf i).toNat)
  case atStart => exact ⟨0, Nat.zero_le _, rfl, by simp⟩
  case round =>
    obtain ⟨k, hk, rfl, hall⟩ := hrel
    have HA := Lib.hid hall; clear hall
    by_cases hlt : k < tn
    · obtain ⟨x, hkx⟩ : ∃ x, tops[k]? = some x := ⟨_, List.getElem?_eq_getElem (by have := HTN.out.1; omega)⟩
      have hts := HT.out.2
      rw [HTN.out.1] at hts
      obtain ⟨g, off, rfl, hcell⟩ := strs_at hts (by omega)
      clear hts
      have cx := hkM.cell (hcell k x hkx) (by simp)
      have hxm := List.mem_of_getElem? hkx
      have HX := Lib.hid (And.intro hkx hxm)
      clear hcell hkx hxm
      by_cases h4 : (50 : Int) < x.size
      · go_wp2
        go_ret
        exact ⟨.inr ⟨rfl, fun p => by have := (HFIT.out p).2.1.2 x HX.out.2; omega⟩, hkM⟩
      · go_wp2
        go_round
        case rel =>
          refine ⟨k + 1, by omega, by go_num, fun y hy => ?_⟩
          obtain ⟨hk', hx'⟩ := List.getElem?_eq_some_iff.1 HX.out.1
          rw [List.take_succ_eq_append_getElem hk', hx'] at hy
          rcases List.mem_append.1 hy with hy | hy
          · exact HA.out y hy
          · simp only [List.mem_cons, List.not_mem_nil, or_false] at hy
            subst hy; omega
        case measure => simp [intOf]; omega
    · have hall : ∀ x ∈ tops, x.size ≤ 50 := by
        have := HA.out
        rw [List.take_of_length_le (by have := HTN.out.1; omega)] at this
        exact this
      have HALL := Lib.hid hall; clear hall
      by_cases g1 : 0 ≤ ver
      · by_cases g2 : ver ≤ 3
        · by_cases g3 : (tn : Int) ≤ 10
          · by_cases g4 : (dn : Int) ≤ 100
            · by_cases g5 : (rack.size : Int) ≤ 50
              · have hmk : ∀ (_ : has = true ∨ rack = ⟨#[]⟩) (q : SharesFit owned), MemFit ⟨id, ver, tv, tops, dv, data, ov, owned, gen, rack, has⟩ := fun r q => HFIT2.out ⟨g1, g2⟩ ⟨by omega, HALL.out⟩ (by omega) ⟨by omega, r⟩ q
                have HMK := Lib.hid hmk; clear hmk
                cases has
                · by_cases g6 : rack = ⟨#[]⟩
                  · subst g6
                    go_wp2_with (first
                      | (go_at_call 20
                         refine (H5.out _ hkM).mono ?_
                         rintro e w1 ⟨⟨rfl, hfit⟩ | ⟨rfl, hfit⟩, hk1⟩)
                      | fail)
                    · go_ret
                      exact ⟨.inl ⟨rfl, HMK.out (.inr trivial) hfit⟩, hkM.trans hk1 (by simp) (by simp)⟩
                    · go_ret
                      exact ⟨.inr ⟨rfl, fun p => hfit (HFIT.out p).2.2.2.2⟩, hkM.trans hk1 (by simp) (by simp)⟩
                  · have hr : ¬ (rack.toList = []) := fun h => g6 (ba_nil h)
                    go_wp2_with fail
                    go_ret
                    exact ⟨.inr ⟨rfl, fun p => by
                      rcases (HFIT.out p).2.2.2.1.2 with h | h
                      · cases h
                      · exact g6 h⟩, hkM⟩
                · go_wp2_with (first
                    | (go_at_call 20
                       refine (H5.out _ hkM).mono ?_
                       rintro e w1 ⟨⟨rfl, hfit⟩ | ⟨rfl, hfit⟩, hk1⟩)
                    | fail)
                  · go_ret
                    exact ⟨.inl ⟨rfl, HMK.out (.inl trivial) hfit⟩, hkM.trans hk1 (by simp) (by simp)⟩
                  · go_ret
                    exact ⟨.inr ⟨rfl, fun p => hfit (HFIT.out p).2.2.2.2⟩, hkM.trans hk1 (by simp) (by simp)⟩
              · go_wp2_with fail
                go_ret
                exact ⟨.inr ⟨rfl, fun p => by have := (HFIT.out p).2.2.2.1.1; omega⟩, hkM⟩
            · go_wp2_with fail
              go_ret
              exact ⟨.inr ⟨rfl, fun p => by have := (HFIT.out p).2.2.1; have := HTN.out.2; omega⟩, hkM⟩
          · go_wp2_with fail
            go_ret
            exact ⟨.inr ⟨rfl, fun p => by have := (HFIT.out p).2.1.1; have := HTN.out.1; omega⟩, hkM⟩
        · go_wp2_with fail
          go_ret
          exact ⟨.inr ⟨rfl, fun p => by have := (HFIT.out p).1.2; omega⟩, hkM⟩
      · go_wp2_with fail
        go_ret
        exact ⟨.inr ⟨rfl, fun p => by have := (HFIT.out p).1.1; omega⟩, hkM⟩
end Go.Proofs.YticcnlpfmekagaaGreat
namespace Go.Proofs.YticcnlpfmekagaaGreat
open Go Go.Proofs Go.RowKit
set_option linter.unusedVariables false
set_option linter.unusedSimpArgs false

/-! ## append to nil, exactly -/
section
variable {P : Program} {w : World} {E sz bytes : Nat} {z : Value} {T : TypeId}
/-- what append to nil hands back -/
def AppN (w w' : World) (E sz m : Nat) (ys : List Value) (v' : Value) : Prop :=
  ∃ a c, v' = .slice a m c ∧ (m = 0 → a = none ∧ c = 0) ∧ (m ≠ 0 → a = some ⟨w.heap.size, 0, none⟩) ∧ m ≤ c ∧ w'.ownsRow 0 E sz v' m ys ∧ Kept [] w w'
theorem run_app_nil (el : Elem P T E sz bytes z) {tx : TypeId} {ty : TypeId} {x : Value} {m : Nat} {ys : List Value} (hsrc : Src P sz tx x m ys w)
    (hb : (4 * m + 1024) * bytes ≤ 281474976710656) (hm : m ≤ 281474976710656) :
    ∃ v' w', (Builtin.append_ #[T, tx] ty #[.slice none 0 0, x]).run P w = .ok v' w' ∧ AppN w w' E sz m ys v' := by
  obtain ⟨v', w', h1, h2, h3, h4⟩ := run_app (ty := ty) el (World.ownsRow_nil w 0 E sz) hsrc (by simpa using hb) (by simpa using hm)
  by_cases hm0 : m = 0
  · subst hm0
    have hn : ys = [] := List.eq_nil_of_length_eq_zero (by simpa using hsrc.newsLen)
    subst hn
    obtain ⟨ht, ⟨i, hi, hz, hsz, hby⟩, hzs, hpos⟩ := el
    subst hsz
    subst hby
    refine ⟨.slice none 0 0, w, ?_, none, 0, rfl, by simp, by simp, by simp, World.ownsRow_nil w 0 E i.size, Kept.refl _ _⟩
    rcases hsrc.kind with ⟨e', hk⟩ | hk <;>
      simp [Builtin.append_, run_underlying ht, run_underlying hk, sizeOf, typeInfo, hi, hsrc.len, hsrc.cells]
  · rw [Nat.zero_add, List.nil_append] at h2
    refine ⟨v', w', h1, ?_⟩
    rcases h2.2 with ⟨rfl, e2⟩ | ⟨g, cap, cur, rfl, _, hg, hnc, _⟩
    · omega
    · have hgg : g = w.heap.size := by
        rcases h4 with ⟨q1, _⟩ | ⟨q1, _⟩
        · simp [Value.ownBlock] at q1
        · simpa [Value.ownBlock] using q1
      subst hgg
      exact ⟨_, _, rfl, fun h => absurd h hm0, fun _ => rfl, hnc, h2, by simpa [Value.ownBlock] using h3⟩
variable {ops : Array Oper} {o : Oper} {a : Act} {rest : List Oper} {K : Act → World → Prop} {Q : Exit → Act → World → Prop} {G : Prop}
theorem wp_appN {s x : Operand} {tx : TypeId} (ho : o.op = .call { callee := .builtin .append, args := #[s, x], argTypes := #[T, tx] }) (el : Elem P T E sz bytes z)
    {xv : Value} {m : Nat} {ys : List Value} (hs : a.eval s = .slice none 0 0) (hx : a.eval x = xv) (hsrc : Src P sz tx xv m ys w)
    (hb : (4 * m + 1024) * bytes ≤ 281474976710656) (hm : m ≤ 281474976710656)
    (h : ∀ v' w', AppN w w' E sz m ys v' → K (a.put o.dst v') w') : Oper.wp P o a w K Q := by
  obtain ⟨v', w', hrun, h1⟩ := run_app_nil (ty := o.type) el hsrc hb hm
  refine wp_val (w' := w') (v := v') ?_ (h _ _ h1)
  simp [execOp, ho, resolve, invoke, builtin, hs, hx, hrun, Result.andThen]
theorem wl_appN {s x : Operand} {tx : TypeId} (hgd : o.guard = none) (ho : o.op = .call { callee := .builtin .append, args := #[s, x], argTypes := #[T, tx] }) (el : Elem P T E sz bytes z)
    {xv : Value} {m : Nat} {ys : List Value} (hs : a.eval s = .slice none 0 0) (hx : a.eval x = xv) (hsrc : Src P sz tx xv m ys w)
    (hb : (4 * m + 1024) * bytes ≤ 281474976710656) (hm : m ≤ 281474976710656)
    (h : ∀ v' w', AppN w w' E sz m ys v' → wpList P ops Q rest (a.put o.dst v') w') : wpList P ops Q (o :: rest) a w :=
  wl_of hgd fun _ hh => wp_appN ho el hs hx hsrc hb hm (fun v' w' h1 => hh _ _ (h v' w' h1))
theorem sl_appN {s x : Operand} {tx : TypeId} (hgd : o.guard = none) (ho : o.op = .call { callee := .builtin .append, args := #[s, x], argTypes := #[T, tx] }) (el : Elem P T E sz bytes z)
    {xv : Value} {m : Nat} {ys : List Value} (hs : a.eval s = .slice none 0 0) (hx : a.eval x = xv) (hsrc : Src P sz tx xv m ys w)
    (hb : (4 * m + 1024) * bytes ≤ 281474976710656) (hm : m ≤ 281474976710656)
    (h : ∀ v' w', AppN w w' E sz m ys v' → K (a.put o.dst v') w') : if Region.wanted o (yielded ops a.tmps) = true then Oper.wp P o a w K Q else G :=
  sl_of hgd (wp_appN ho el hs hx hsrc hb hm h)
end
end Go.Proofs.YticcnlpfmekagaaGreat
namespace Go.Proofs.YticcnlpfmekagaaGreat
open Go Go.Proofs Go.RowKit
set_option linter.unusedVariables false
set_option linter.unusedSimpArgs false

/-! ## a member's metadata, whole -/

theorem AppN.kept {w w' : World} {E sz m : Nat} {ys : List Value} {v : Value} (h : AppN w w' E sz m ys v) : Kept [] w w' := by
  obtain ⟨a, c, rfl, h2, h3, h4, h5, h6⟩ := h
  exact h6

theorem AppN.form {w w' : World} {E sz m : Nat} {ys : List Value} {v : Value} (h : AppN w w' E sz m ys v) : ∃ a c, v = .slice a m c := by
  obtain ⟨a, c, rfl, h2, h3, h4, h5, h6⟩ := h
  exact ⟨a, c, rfl⟩

/-- bytes whose slice is nil just where there are none -/
def DataAt (w : World) (v : Value) (data : List Value) : Prop := ∃ a c, v = .slice a data.length c ∧ SlAt w 1 v data.length data ∧ (data = [] ↔ a = none) ∧ (data = [] → c = 0) ∧ data.length ≤ c
theorem DataAt.kept {w w' : World} {v : Value} {data : List Value} {S : List Nat} (h : DataAt w v data) (k : Kept S w w') (hs : ∀ g, v.ownBlock = some g → g ∉ S) : DataAt w' v data := by
  obtain ⟨a, c, e, h1, h2⟩ := h
  exact ⟨a, c, e, h1.kept k hs, h2⟩

/-- an owned topic: name, the block of its struct, its partitions' slice, the partitions -/
abbrev OwT := ByteArray × Nat × Value × List Int
def OwAt (w : World) (x : OwT) : Prop := w.heap[x.2.1]? = some (.cells #[.string x.1, x.2.2.1] 121 (0, 0)) ∧ SlInts w x.2.2.1 x.2.2.2
def footO (L : List OwT) : List Nat := L.flatMap fun x => x.2.1 :: x.2.2.1.ownBlock.toList
def ptrsO (L : List OwT) : List Value := L.map fun x => .pointer (some ⟨x.2.1, 0, none⟩)
def Rs.stuff (tv : Value) (tops : List ByteArray) (dv : Value) (data : List Value) (L : List OwT) : Res :=
  ⟨tv.ownBlock.toList ++ dv.ownBlock.toList ++ footO L, fun w => SlStrs w tv tops ∧ DataAt w dv data ∧ ∀ x ∈ L, OwAt w x, fun w w' S k hs h =>
    ⟨h.1.kept k (fun g hg => hs g (by simp [hg])), h.2.1.kept k (fun g hg => hs g (by simp [hg])), fun x hx =>
      ⟨k.heap (h.2.2 x hx).1 (hs _ (by
          simp only [List.mem_append]; right
          exact List.mem_flatMap.2 ⟨x, hx, by simp⟩)),
        (h.2.2 x hx).2.kept k (fun g hg => hs g (by
          simp only [List.mem_append]; right
          exact List.mem_flatMap.2 ⟨x, hx, by simp [hg]⟩))⟩⟩⟩

theorem infoOw : (Tryz.prog.info? 119).map (fun i => (i.zero, i.size, i.bytes)) = some (some (.pointer none), 1, 8) := by kernel_rfl
theorem elOw : Elem Tryz.prog 75 119 1 8 (.pointer none) := ⟨Tryz.underlying75, info_parts infoOw, rfl, by omega⟩

def owOf (x : Shr) : ByteArray × List Int := (x.top, x.parts)
def ow2 (L : List OwT) : List (ByteArray × List Int) := L.map fun x => (x.1, x.2.2.2)

/-- metadata as an aggregate, all its memory at or behind block lo -/
def MetaF (w : World) (lo : Nat) (m : Mem) (u : Value) : Prop :=
  ∃ tv dv ov ra OL, u = .agg #[.int .i16 m.ver, tv, dv, ov, .int .i32 m.gen, .pointer ra] ∧ ow2 OL = m.owned.map owOf ∧
    Own lo w [Rs.stuff tv m.tops dv m.data OL, Rs.row 119 1 ov OL.length (ptrsO OL)] ∧ (m.has = false → ra = none) ∧ (m.has = true → ∃ b, ra = some ⟨b, 0, none⟩ ∧ lo ≤ b ∧ w.cell? ⟨b, 0, none⟩ = some (.string m.rack))

/-- one more owned topic -/
theorem stuff_snoc {B : Nat} {wr w1 w2 w3 w4 : World} {X : Nat} {o o' : Obj} {tv dv ov ov' pv : Value} {tops : List ByteArray} {data : List Value} {OL : List OwT} {top : ByteArray} {parts : List Int}
    (h : Own B wr [Rs.stuff tv tops dv data OL, Rs.row 119 1 ov OL.length (ptrsO OL), Rs.blk X o]) (hB : B ≤ wr.heap.size) (k1 : Kept [] wr w1) (hpv : SlInts w1 pv parts) (hfr : ∀ g, pv.ownBlock = some g → wr.heap.size ≤ g ∧ g < w1.heap.size)
    (e2 : w2 = (w1.alloc (.cells #[.string top, pv] 121)).alloc (.cells #[.pointer (some ⟨w1.heap.size, 0, none⟩)] 119))
    (hown : w3.ownsRow 0 119 1 ov' (OL.length + 1) (ptrsO OL ++ [.pointer (some ⟨w1.heap.size, 0, none⟩)])) (k3 : Kept ov.ownBlock.toList w2 w3) (hd : (ov'.ownBlock = ov.ownBlock ∧ w3.heap.size = w2.heap.size) ∨ (ov'.ownBlock = some w2.heap.size ∧ w3.heap.size = w2.heap.size + 1))
    (k4 : Kept [X] w3 w4) (hs4 : w4.heap.size = w3.heap.size) (hX : w4.heap[X]? = some o') :
    Own B w4 [Rs.stuff tv tops dv data (OL ++ [(top, w1.heap.size, pv, parts)]), Rs.row 119 1 ov' (OL ++ [(top, w1.heap.size, pv, parts)]).length (ptrsO (OL ++ [(top, w1.heap.size, pv, parts)])), Rs.blk X o'] := by
  have k2 : Kept [] w1 w2 := by subst e2; exact ((Kept.refl _ _).alloc _).alloc _
  have hb2 : w2.heap[w1.heap.size]? = some (.cells #[.string top, pv] 121 (0, 0)) := by subst e2; exact ha (heap_alloc_new w1 _)
  have hs2 : w2.heap.size = w1.heap.size + 2 := by subst e2; simp
  have s1 := k1.size
  clear e2
  have k12 : Kept [] wr w2 := k1.trans k2 (by simp) (by simp)
  have a1 : Own B w2 [Rs.stuff tv tops dv data (OL ++ [(top, w1.heap.size, pv, parts)]), Rs.row 119 1 ov OL.length (ptrsO OL), Rs.blk X o] := by
    refine Own.put (F1 := []) h k12 (by simp) ?_ ?_ hB
    · have h0 : (Rs.stuff tv tops dv data OL).holds w2 := (Rs.stuff tv tops dv data OL).stable _ _ _ k12 (by simp) (h.ok _ (by simp))
      refine ⟨h0.1, h0.2.1, fun x hx => ?_⟩
      rcases List.mem_append.1 hx with hx | hx
      · exact h0.2.2 x hx
      · simp only [List.mem_cons, List.not_mem_nil, or_false] at hx
        subst hx
        exact ⟨hb2, hpv.kept k2 (by simp)⟩
    · intro g hg
      simp only [Rs.stuff, footO, List.flatMap_append, List.flatMap_cons, List.flatMap_nil, List.append_nil, List.mem_append, List.mem_cons] at hg ⊢
      rcases hg with (hg | hg) | hg | hg | hg
      · exact .inl (.inl (.inl hg))
      · exact .inl (.inl (.inr hg))
      · exact .inl (.inr hg)
      · right; subst hg; omega
      · right; have := hfr g (by simpa using hg); omega
  have s3 := k3.size
  have a2 : Own B w3 [Rs.stuff tv tops dv data (OL ++ [(top, w1.heap.size, pv, parts)]), Rs.row 119 1 ov' (OL.length + 1) (ptrsO OL ++ [.pointer (some ⟨w1.heap.size, 0, none⟩)]), Rs.blk X o] := by
    refine Own.put (F1 := [_]) a1 k3 (fun g hg => .inl hg) hown ?_ (by omega)
    intro g hg
    simp only [Rs.row, Option.mem_toList] at hg ⊢
    rcases hd with ⟨h1, h2⟩ | ⟨h1, h2⟩
    · rw [h1] at hg; exact .inl hg
    · rw [h1] at hg; simp only [Option.some.injEq] at hg; right; omega
  have a3 : Own B w4 [Rs.stuff tv tops dv data (OL ++ [(top, w1.heap.size, pv, parts)]), Rs.row 119 1 ov' (OL.length + 1) (ptrsO OL ++ [.pointer (some ⟨w1.heap.size, 0, none⟩)]), Rs.blk X o'] :=
    Own.put (F1 := [_, _]) a2 k4 (fun g hg => .inl hg) hX (fun g hg => .inl hg) (by omega)
  simpa [ptrsO] using a3
end Go.Proofs.YticcnlpfmekagaaGreat
