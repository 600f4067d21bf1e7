/- Part 24 of 51 of the proof of the row: the texts Dec2. -/
import Derived.Test.YticcnlpfmekagaaGreatRd23
import Derived.IntWalk
namespace Go.Proofs.YticcnlpfmekagaaGreat
open Go Go.Proofs Go.RowKit
set_option linter.unusedVariables false
set_option linter.unusedSimpArgs false

/-! ## The decoder: texts and lists -/

theorem str_nums (s : ByteArray) : strOfNums (s.data.toList.map fun b => (b.toNat : Int)) = s := by
  obtain ⟨⟨l⟩⟩ := s
  simp [strOfNums, Function.comp_def]
theorem byteCells_eq (s : ByteArray) : byteCells s = (s.data.toList.map fun b => (b.toNat : Int)).map (Value.int .u8) := by
  simp [byteCells]

theorem conv_str {w : World} {g off n c : Nat} {s : ByteArray} (hn : n = s.size) (h : ∀ j u, (byteCells s)[j]? = some u → w.cell? ⟨g, off + j, none⟩ = some u) :
    (convert 28 9 (.slice (some ⟨g, off, none⟩) n c)).run Tryz.prog w = .ok (.string s) w := by
  have := run_convert_bytes_arg (P := Tryz.prog) w 28 5 Tryz.underlying28 Tryz.underlying5 g off n c (s.data.toList.map fun b => (b.toNat : Int)) (by rw [hn, List.length_map, Array.length_toList]; rfl) (fun i hi => ?_) 9 Tryz.underlying9
  · rwa [str_nums] at this
  · have hl : (s.data.toList.map fun b => (b.toNat : Int)).length = s.size := by rw [List.length_map, Array.length_toList]; rfl
    have hi' : i < (s.data.toList.map fun b => (b.toNat : Int)).length := by omega
    refine h i _ ?_
    rw [byteCells_eq, List.getElem?_map, List.getElem?_eq_getElem hi', List.getD_eq_getElem?_getD, List.getElem?_eq_getElem hi']
    rfl
theorem wp_conv {P : Program} {o : Oper} {a : Act} {w : World} {K : Act → World → Prop} {Q : Exit → Act → World → Prop} {S D : TypeId} {x : Operand} {xv v : Value} (hop : o.op = .convert S D x) (hx : a.eval x = xv) (hrun : (convert S D xv).run P w = .ok v w) (h : K (a.put o.dst v) w) : Oper.wp P o a w K Q := by
  refine wp_val (v := v) (w' := w) ?_ h
  simp only [execOp, hop, hx, Sem.run_bind, hrun, Result.andThen_ok]; rfl
theorem sl_conv {P : Program} {ops : Array Oper} {o : Oper} {a : Act} {w : World} {K : Act → World → Prop} {Q : Exit → Act → World → Prop} {E : Prop} {S D : TypeId} {x : Operand} {xv v : Value} (hgd : o.guard = none) (hop : o.op = .convert S D x) (hx : a.eval x = xv) (hrun : (convert S D xv).run P w = .ok v w) (h : K (a.put o.dst v) w) :
    if Region.wanted o (yielded ops a.tmps) = true then Oper.wp P o a w K Q else E :=
  sl_of hgd (wp_conv hop hx hrun h)

set_option maxRecDepth 100000 in
set_option maxHeartbeats 400000 in
theorem getString_any (b g off cap k : Nat) (s : ByteArray) (pre post : List Value) (w : World) (h : Dec w b g off cap (pre ++ encStr s ++ post) k) (hk : k = pre.length) (hn2 : s.size ≤ 32767) :
    Calls Tryz.prog 342 #[.pointer (some ⟨b, 0, none⟩)] w (Gets b g off cap (pre ++ encStr s ++ post) (k + 2 + s.size) (.string s) w) := by
  have e0 : pre ++ encStr s ++ post = pre ++ be16 s.size ++ (byteCells s ++ post) := by simp [encStr]
  rw [e0] at h ⊢
  have h1 := getStringLength_any b g off cap k s.size pre (byteCells s ++ post) w h hk (by rw [List.length_append, byteCells_length]; omega) hn2
  have H1 := Lib.hid h1; clear h1
  have hget : ∀ j u, (byteCells s)[j]? = some u → (pre ++ be16 s.size ++ (byteCells s ++ post))[k + 2 + j]? = some u := fun j u hj => by
    rw [List.getElem?_append_right (by simp [be16]; omega)]
    rw [show k + 2 + j - (pre ++ be16 (s.size : Int)).length = j by simp [be16]; omega]
    rw [List.getElem?_append_left (List.getElem?_eq_some_iff.1 hj).1]; exact hj
  have HGET := Lib.hid hget; clear hget
  have hlen : k + 2 + s.size ≤ (pre ++ be16 s.size ++ (byteCells s ++ post)).length := by simp [be16, byteCells_length]; omega
  have hcap := h.cap
  have hsm := h.small
  have hbg := h.ne
  clear h e0
  generalize pre ++ be16 (s.size : Int) ++ (byteCells s ++ post) = cs at *
  have hw6 : IntKind.i64.wrap (s.size : Int) = s.size := by simp [IntKind.wrap, IntKind.bits, IntKind.signed]; omega
  have e3 : k + 2 + s.size - (k + 2) = s.size := by omega
  have hcv : ∀ (w' : World) (o : Nat), Dec w' b g off cap cs (k + 2) → (o = off + (k + 2) ∨ s.size = 0) → ∀ c, (convert 28 9 (.slice (some ⟨g, o, none⟩) (k + 2 + s.size - (k + 2)) c)).run Tryz.prog w' = .ok (.string s) w' := fun w' o hd ho c => by
    refine conv_str (by omega) (fun j u hj => ?_)
    rcases ho with rfl | h0
    · rw [Nat.add_assoc]; exact hd.cells _ _ (HGET.out j u hj)
    · have := (List.getElem?_eq_some_iff.1 hj).1
      rw [byteCells_length] at this; omega
  have HCV := Lib.hid hcv; clear hcv
  have e2 : ((k + 2 : Nat) : Int) + s.size = ((k + 2 + s.size : Nat) : Int) := by omega
  have E2 := Lib.hid e2; clear e2
  generalize hN : cs.length = N at *
  have HN := Lib.hid hN; clear hN
  generalize hsz : s.size = n at *
  have HSZ := Lib.hid hsz; clear hsz
  generalize hkk : k + 2 = k2 at *
  have HKK := Lib.hid hkk; clear hkk hk
  have i0 : (0 : Int) ≤ (k2 : Int) := by omega
  have i1 : (k2 : Int) ≤ (N : Int) := by omega
  have i2 : (k2 : Int) + n ≤ (cap : Int) := by omega
  have i3 : (k2 : Int) ≤ (k2 : Int) + n := by omega
  have i4 : (0 : Int) ≤ (k2 : Int) + n := by omega
  have nm : ¬ ((n : Int) = -1) := by omega
  have hws : IntKind.i64.wrap ((k2 : Int) + n) = (k2 : Int) + n := IntWalk.i64_in _ (by omega)
  have htn : ((k2 : Int) + n).toNat = k2 + n := by omega
  have hfin : ∀ w1 w2 : World, Gets b g off cap cs k2 (.int .i64 n) w (.returned (.tuple #[.int .i64 n, .nilIface])) w1 → Kept [] w1 w2 → w2.frozen? ⟨b, 0 + 1, none⟩ = false ∧ Gets b g off cap cs (k2 + n) (.string s) w (.returned (.tuple #[.string s, .nilIface])) (w2.setCell ⟨b, 0 + 1, none⟩ (.int .i64 ((k2 : Int) + n))) := fun w1 w2 hg kk => by
    obtain ⟨_, hd, hk1⟩ := hg
    have hd2 := hd.kept kk (by simp) (by simp)
    refine ⟨hd2.fz _, rfl, ?_, (hk1.trans kk (by simp) (by simp)).setCell _ (by simp)⟩
    rw [E2.out]
    exact hd2.set _ (by rw [HN.out]; omega)
  have HFIN := Lib.hid hfin; clear hfin
  by_cases hck : cap = k2
  · have hn0 : n = 0 := by omega
    have hck' : k2 = cap := hck.symm
    clear hck
    subst hck'
    have HN0 := Lib.hid hn0; clear hn0
    go_enter Tryz.func342, Tryz.ntmps342
    go_wp2_with (first | (go_at_call 350; refine H1.out.mono ?_; rintro e w1 hg1; obtain ⟨rfl, hd, hk1⟩ := hg1; have c0 := hd.c0; have c1 := hd.c1; rw [HN.out] at c0; have HD := Lib.hid hd; clear hd) | fail)
    have hc2 := HCV.out w1.drew off (HD.out.kept (Kept.refl [] _).drew (by simp) (by simp)) (.inr HN0.out) 0
    rw [e3] at hc2
    have HS : Hid (w1.drew.cell? ⟨b, 0, none⟩ = some (.slice (some ⟨g, off, none⟩) N k2) ∧ w1.drew.cell? ⟨b, 0 + 1, none⟩ = some (.int .i64 k2) ∧ (convert 28 9 (.slice (some ⟨g, off, none⟩) n 0)).run Tryz.prog w1.drew = .ok (.string s) w1.drew) := Lib.hid ⟨c0, c1, hc2⟩
    clear hc2
    go_region_held3 (fun w' => w'.cell? ⟨b, 0, none⟩ = some (.slice (some ⟨g, off, none⟩) N k2) ∧ w'.cell? ⟨b, 0 + 1, none⟩ = some (.int .i64 k2) ∧ (convert 28 9 (.slice (some ⟨g, off, none⟩) n 0)).run Tryz.prog w' = .ok (.string s) w')
      (first | with_reducible exact HS.out | fail)
      (fail)
    obtain ⟨f1, hg2⟩ := HFIN.out w1 w1.drew ⟨rfl, HD.out, hk1⟩ (Kept.refl [] _).drew
    have HG2 := Lib.hid hg2; clear hg2
    go_wp2
    go_ret2
    exact HG2.out
  · go_enter Tryz.func342, Tryz.ntmps342
    go_wp2_with (first | (go_at_call 350; refine H1.out.mono ?_; rintro e w1 hg1; obtain ⟨rfl, hd, hk1⟩ := hg1; have c0 := hd.c0; have c1 := hd.c1; rw [HN.out] at c0; have HD := Lib.hid hd; clear hd) | fail)
    have hc2 := HCV.out w1.drew _ (HD.out.kept (Kept.refl [] _).drew (by simp) (by simp)) (.inl rfl) (cap - k2)
    rw [e3] at hc2
    have HS : Hid (w1.drew.cell? ⟨b, 0, none⟩ = some (.slice (some ⟨g, off, none⟩) N cap) ∧ w1.drew.cell? ⟨b, 0 + 1, none⟩ = some (.int .i64 k2) ∧ (convert 28 9 (.slice (some ⟨g, off + k2, none⟩) n (cap - k2))).run Tryz.prog w1.drew = .ok (.string s) w1.drew) := Lib.hid ⟨c0, c1, hc2⟩
    clear hc2
    go_region_held3 (fun w' => w'.cell? ⟨b, 0, none⟩ = some (.slice (some ⟨g, off, none⟩) N cap) ∧ w'.cell? ⟨b, 0 + 1, none⟩ = some (.int .i64 k2) ∧ (convert 28 9 (.slice (some ⟨g, off + k2, none⟩) n (cap - k2))).run Tryz.prog w' = .ok (.string s) w')
      (first | with_reducible exact HS.out | fail)
      (fail)
    obtain ⟨f1, hg2⟩ := HFIN.out w1 w1.drew ⟨rfl, HD.out, hk1⟩ (Kept.refl [] _).drew
    have HG2 := Lib.hid hg2; clear hg2
    go_wp2
    go_ret2
    exact HG2.out
end Go.Proofs.YticcnlpfmekagaaGreat
