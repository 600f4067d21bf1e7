/- Part 14 of the proof of the row: Copy2, Bal, Rem, BalA, SwapT, Shelf3, LessT. -/
import Derived.Test.YticcnlpfmekagaaGreatRc00
import Derived.Test.YticcnlpfmekagaaGreatRc13
import Derived.Deep.RegionLaw
import Derived.Test.YticcnlpfmekagaaGreatRc08
import Derived.Deep.QuietTactic
import Derived.RegionTactic
import Derived.Shelf.Small.Strs
import Derived.Test.YticcnlpfmekagaaGreatProg
import Derived.Test.YticcnlpfmekagaaGreatRc09
set_option linter.unusedVariables false
set_option linter.unusedSimpArgs false
set_option maxRecDepth 100000
set_option maxHeartbeats 8000000
namespace Go.Proofs.YticcnlpfmekagaaGreat
section
open Go Go.Proofs Go.RowKit Go.Lib
open Classical
theorem rowRes_append (E sz : Nat) (A B : List MRow) : rowRes E sz (A ++ B) = rowRes E sz A ++ rowRes E sz B := by simp [rowRes]
theorem St.rwOut {S : List Nat} {w0 w : World} {M R : List Res} {E sz : Nat} {x : MRow} (h : St S w0 w (Rs.rw E sz x :: M) R) : ∃ n, St S w0 w (Rs.row E sz x.2.1 n x.2.2 :: M) R := by
 obtain ⟨n, hn⟩ : ∃ n, w.ownsRow 0 E sz x.2.1 n x.2.2 := h.m 0 rfl
 exact ⟨n, h.weak 0 rfl (X' := Rs.row E sz x.2.1 n x.2.2) (fun _ => hn) (fun g hg => hg)⟩
abbrev itM (rf : Nat) (F : List Rw) (lf : List (Value × Value)) (it : Nat) : Res := Rs.it (Rs.map rf isStr (rawR (rowsT F))) rf (rawR (rowsT F)) lf it (by simp [Rs.map])
def ZCInv (w : World) (rt rf it : Nat) (A F : List Rw) (wr : World) : Prop := ∃ (Dn Lf : List Rw), (Dn ++ Lf).Perm F ∧
 St (foots [Rs.cur rt A, Rs.cur rf F]) w wr (itM rf F (rawR (rowsT Lf)) it :: Rs.cur rt (A ++ Dn) :: rowRes 384 2 (rowsT Lf)) []
theorem copy_rows (rt rf : Nat) (A F : List Rw) (w : World) (how : Ow w [Rs.cur rt A, Rs.cur rf F]) (hd : ∀ x ∈ F, x.1 ∉ A.map (·.1)) :
 Calls Tryz.prog 256 #[.map (some rt), .map (some rf)] w fun e w' => ∃ F', e = .returned (.tuple #[]) ∧ F'.Perm F ∧ St (foots [Rs.cur rt A, Rs.cur rf F]) w w' [Rs.cur rt (A ++ F')] [] := by
 have hst0 : St (foots [Rs.cur rt A, Rs.cur rf F]) w w [Rs.cur rt A, Rs.cur rf F] [] := St.start (by simpa using how)
 have hkeys := cur_keys (hst0.m 1 rfl)
 have hst1 := (hst0.perm (M' := [Rs.cur rf F, Rs.cur rt A]) (List.Perm.swap ..)).unrow
 generalize hSS : foots [Rs.cur rt A, Rs.cur rf F] = SS at *
 have hst1' : St SS w w (Rs.map rf isStr (rawR (rowsT F)) :: Rs.cur rt A :: rowRes 384 2 (rowsT F)) [] := hst1.perm (List.Perm.cons _ (by
  exact (List.perm_append_comm (l₁ := rowRes 384 2 (rowsT F)) (l₂ := [Rs.cur rt A]))))
 subst hSS
 have HK := Zhd (Zan hkeys hd); clear hkeys hd how hst0 hst1
 go_enter Tryz.func256, Tryz.ntmps256
 go_wp2_with (first
  | (refine wl_rng 0 rfl rfl rfl Tryz.underlying378 hst1' rfl (by simp [Rs.map]) (hst1'.m 0 rfl) ?_
     intro it w2 hst2 hit)
  | fail)
 simp only [Zs0] at hst2
 have h0 : ZCInv w rt rf it A F w2 := ⟨[], F, List.Perm.refl _, by rw [List.append_nil]; exact hst2⟩
 clear hit hst1' hst2
 have H0 := Zhd h0; clear h0
 try go_frame
 go_loopw [4] (fun _ wr => ZCInv w rt rf it A F wr) (fun _ wr => leftOf wr it rf)
 case atStart => exact H0.out
 case round =>
  obtain ⟨Dn, Lf, hperm, hst⟩ := hrel
  have HL := Zhd hperm; clear hperm
  by_cases hlf : rawR (rowsT Lf) = []
  · have hLf := rawR_nil hlf
    subst hLf
    have hit0 : IterAt wr it rf (rawR (rowsT F)) [] := (hst.m 0 rfl).2.1
    go_wp2_with (first | (refine wl_nx0 rfl rfl rfl hit0 ?_) | fail)
    go_end0
    have hp := HL.out
    rw [List.append_nil] at hp
    exact ⟨Dn, rfl, hp, hst.drop 0⟩
  · obtain ⟨wB, rfl⟩ : ∃ wB, wB = wr := ⟨_, rfl⟩
    go_wp2_with (first
     | (refine wl_nx1 0 (by simp [Rs.map]) rfl rfl rfl hst rfl hlf ?_
        intro k v l1 l2 w2 hsp hst2 hent
        simp only [Zs0] at hst2
        obtain ⟨L1, x, L2, rfl, rfl, rfl, rfl, rfl⟩ := rawR_split hsp
        obtain ⟨m, xv, ps⟩ := x
        have hnew := key_newT HK.out.1 HL.out (x := (m, xv, ps)) (by simp)
        have hxF : (m, xv, ps) ∈ F := HL.out.mem_iff.1 (by simp)
        have hnk : m ∉ (A ++ Dn).map (·.1) := by
         rw [List.map_append, Zap]
         exact fun h => h.elim (HK.out.2 _ hxF) hnew
        have hst3 := hst2.perm (M' := Rs.rw 384 2 (rowT (m, xv, ps)) :: itM rf F (rawR (rowsT L1) ++ rawR (rowsT L2)) it :: Rs.cur rt (A ++ Dn) :: rowRes 384 2 (rowsT (L1 ++ L2))) (by
         rw [rowsT_append, rowsT_cons, rowsT_append, rowRes_append, rowRes_append]
         exact (List.perm_middle (l₁ := itM rf F (rawR (rowsT L1) ++ rawR (rowsT L2)) it :: Rs.cur rt (A ++ Dn) :: rowRes 384 2 (rowsT L1)) (a := Rs.rw 384 2 (rowT (m, xv, ps))) (l₂ := rowRes 384 2 (rowsT L2))))
        obtain ⟨n, hst4⟩ := hst3.rwOut
        have hpst := perm_step HL.out
        have HSP := Zhd (Zan hsp (Zan (keysT_string hnk) hpst)); clear hsp hnew hpst hnk hst3 hxF hst2)
     | (refine wl_entry rfl rfl rfl hent ?_)
     | (refine wl_rownew 1 rfl rfl rfl (kv := .string m) (v := xv) rfl rfl (keyT_str Tryz.underlying9) Tryz.underlying378 ⟨_, rfl⟩ hst4 rfl HSP.out.2.1 ?_
        intro w3 hst5
        simp only [Zs0, Zs1] at hst5)
     | fail)
    have e2 : rowsT (A ++ Dn) ++ [(.string m, xv, ps.flatMap encTp)] = rowsT (A ++ (Dn ++ [(m, xv, ps)])) := by rw [← List.append_assoc]; exact rowsT_snoc (A ++ Dn) (m, xv, ps)
    have hst6 : St (foots [Rs.cur rt A, Rs.cur rf F]) w w3 (itM rf F (rawR (rowsT L1) ++ rawR (rowsT L2)) it :: Rs.cur rt (A ++ (Dn ++ [(m, xv, ps)])) :: rowRes 384 2 (rowsT (L1 ++ L2))) [] := by
     simp only [rowT] at hst5
     rw [e2] at hst5; exact hst5
    have hend : ZCInv w rt rf it A F w3 ∧ leftOf w3 it rf < leftOf wB it rf := by
     refine ⟨⟨Dn ++ [(m, xv, ps)], L1 ++ L2, HSP.out.2.2, ?_⟩, ?_⟩
     · have e : rawR (rowsT L1) ++ rawR (rowsT L2) = rawR (rowsT (L1 ++ L2)) := by rw [rowsT_append, rawR_append]
       simp only [e] at hst6
       exact hst6
     · have h1 : IterAt w3 it rf (rawR (rowsT F)) (rawR (rowsT L1) ++ rawR (rowsT L2)) := (hst6.m 0 rfl).2.1
       have h2 : IterAt wB it rf (rawR (rowsT F)) _ := (hst.m 0 rfl).2.1
       rw [h1.leftOf, h2.leftOf, HSP.out.1]
       simp
    (try go_frame)
    exact hend
end
section
open Go Go.Proofs Go.RowKit Go.Lib
open Classical
theorem IdsOf.get {A : List Rw} {L : List (ByteArray × Nat)} (h : IdsOf A L) {i : Nat} (hi : i < L.length) : ∃ m v ps, (m, v, ps) ∈ A ∧ L[i] = (m, ps.length) := by
 have hx : L[i] ∈ loadT A := h.perm.mem_iff.1 (by simp)
 obtain ⟨⟨m, v, ps⟩, hm, e⟩ := List.mem_map.1 hx
 exact ⟨m, v, ps, hm, e.symm⟩
theorem IdsOf.len {A : List Rw} {L : List (ByteArray × Nat)} (h : IdsOf A L) : L.length = A.length := by
 have := h.perm.length_eq; simpa [loadT] using this
theorem balanced_yes (rc n : Nat) (vp : Value) (A : List Rw) (w : World) (hc : RowsAt w isStr rc 384 2 (rowsT A)) (hn : A.length = n) (hn0 : 0 < n) (hl : n ≤ 1000000) (hb : ∀ x ∈ A, x.2.2.length ≤ 1000000) (hnear : Near (A.map (·.2.2.length))) :
 Calls Tryz.prog 267 #[.map (some rc), vp] w fun e w' => e = .returned (.bool true) ∧ Kept [] w w' := by
 have hsc := sort_cur rc A w hc (by omega) (fun x hx => by have := hb x hx; omega)
 rw [hn] at hsc
 have HSC := Zhd hsc; clear hsc
 have HN := Zhd (Zan hn hnear); clear hn hnear
 go_enter Tryz.func267, Tryz.ntmps267
 go_upto_region 2 with (first
  | (go_at_call 232
     refine (HSC.out).mono ?_
     rintro e w1 ⟨g, c, L, rfl, hL, hst⟩)
  | fail)
 have hlen : L.length = n := by rw [hL.len]; exact HN.out.1
 obtain ⟨m0, v0, p0, hm0, e0⟩ := hL.get (i := 0) (by omega)
 obtain ⟨m1, v1, p1, hm1, e1⟩ := hL.get (i := n - 1) (by omega)
 have hnr := HN.out.2 p1.length (List.mem_map.2 ⟨_, hm1, rfl⟩) p0.length (List.mem_map.2 ⟨_, hm0, rfl⟩)
 obtain ⟨_, a0, k0, hv0⟩ := cur_row hc hm0
 obtain ⟨_, a1, k1, hv1⟩ := cur_row hc hm1
 simp only at hv0 hv1
 subst hv0 hv1
 have hc1 : RowsAt w1 isStr rc 384 2 (rowsT A) := hc.kept hst.kept (by simp)
 have c0 : w1.cell? ⟨g, 0, none⟩ = some (.string m0) := by
  have := (own_cell (hst.m 0 rfl) (names_get (L := L) (j := 0) (by omega))).1
  rw [e0] at this; exact this
 have c1 : w1.cell? ⟨g, n - 1, none⟩ = some (.string m1) := by
  have := (own_cell (hst.m 0 rfl) (names_get (L := L) (j := n - 1) (by omega))).1
  rw [e1] at this; exact this
 have hb0 := hb _ hm0
 have hb1 := hb _ hm1
 simp only at hb0 hb1
 have hn2 : (0 : Int) < (n : Int) := by omega
 have hi1 : IntKind.i64.wrap ((n : Int) - 1) = (n : Int) - 1 := by rw [IntKind.wrap_i64]; omega
 have hi2 : ((n : Int) - 1).toNat = n - 1 := by omega
 have hin0 := cur_in hm0
 have hin1 := cur_in hm1
 simp only at hin0 hin1
 have HM := Zhd hst.kept; clear e0 e1 hm0 hm1 hst hL hlen
 have hdec : decide ((p0.length : Int) ≥ (p1.length : Int) - 1) = true := by simp; omega
 go_wp2_with (first
  | (refine wl_lk rfl rfl rfl rfl (keyT_str Tryz.underlying9) Tryz.underlying378 hc1.map hin0 ?_)
  | (refine wl_lk rfl rfl rfl rfl (keyT_str Tryz.underlying9) Tryz.underlying378 hc1.map hin1 ?_)
  | fail)
 go_ret
 exact ⟨rfl, HM.out⟩
theorem reassign_none (sp : Value) (a : Option Addr) (k c rc : Nat) (vr vi vp vq vc : Value) (zs : List TP) (w : World) (hz : SlAt w 2 (.slice a k c) k (zs.flatMap encTp)) (hk : zs.length = k) (hk1 : k ≤ 1000000)
 (hbal : 0 < k → ∀ w', Kept [] w w' → Calls Tryz.prog 267 #[.map (some rc), vp] w' fun e w'' => e = .returned (.bool true) ∧ Kept [] w' w'') :
 Calls Tryz.prog 253 #[sp, .slice a k c, .map (some rc), vr, vi, vp, vq, vc] w fun e w' => e = .returned (.bool false) ∧ Kept [] w w' := by
 by_cases h0 : k = 0
 · subst h0
   clear hbal hz
   go_enter Tryz.func253, Tryz.ntmps253
   go_wp2_with fail
   go_loopw [17, 18] (fun u v wr => u = .bool false ∧ v = .bool false ∧ wr = w) (fun _ _ _ => 0)
   case atStart => exact ⟨rfl, rfl, rfl⟩
   case round =>
    obtain ⟨rfl, rfl, rfl⟩ := hrel
    go_wp2_with fail
    go_loopw [17, 18, 28] (fun u z v wr' => u = .bool false ∧ z = .bool false ∧ v = .int .i64 0 ∧ wr' = wr) (fun _ _ _ _ => 0)
    case atStart => exact ⟨rfl, rfl, rfl, rfl⟩
    case round =>
     obtain ⟨rfl, rfl, rfl, rfl⟩ := hrel
     go_wp2_with fail
     go_ret
     exact ⟨rfl, Kept.refl _ _⟩
 · have hk0 : (0 : Int) < (k : Int) := by omega
   obtain ⟨_, hcase⟩ := hz.cases
   rcases hcase with ⟨_, h00, _⟩ | ⟨g, off, hva, hcell⟩
   · omega
   subst hva
   obtain ⟨x, zs, rfl⟩ : ∃ x zs', zs = x :: zs' := by
    cases zs with
    | nil => simp at hk; omega
    | cons x zs => exact ⟨x, zs, rfl⟩
   have c1 := hcell 0 (.string x.1) rfl
   rw [Nat.add_zero] at c1
   have c2 := hcell 1 (.int .i32 x.2) rfl
   have hb := hbal (by omega)
   have HB := Zhd hb; clear hb hbal hcell hz hk h0
   go_enter Tryz.func253, Tryz.ntmps253
   go_wp2_with fail
   go_loopw [17, 18] (fun u v wr => u = .bool false ∧ v = .bool false ∧ wr = w) (fun _ _ _ => 0)
   case atStart => exact ⟨rfl, rfl, rfl⟩
   case round =>
    obtain ⟨rfl, rfl, rfl⟩ := hrel
    go_wp2_with fail
    go_loopw [17, 18, 28] (fun u z v wr' => u = .bool false ∧ z = .bool false ∧ v = .int .i64 0 ∧ wr' = wr) (fun _ _ _ _ => 0)
    case atStart => exact ⟨rfl, rfl, rfl, rfl⟩
    case round =>
     obtain ⟨rfl, rfl, rfl, rfl⟩ := hrel
     go_wp2_with (first
      | (go_at_call 267
         refine (HB.out _ ((Kept.refl _ _).alloc _)).mono ?_
         rintro e w1 ⟨rfl, hk1⟩)
      | fail)
     go_ret
     exact ⟨rfl, ((Kept.refl [] _).alloc _).trans hk1 (by simp) (by simp)⟩
end
section
open Go Go.Proofs Go.RowKit Go.Lib
open Classical
theorem wl_eqtp {ops : Array Oper} {o : Oper} {a : Act} {w : World} {rest : List Oper} {Q : Exit → Act → World → Prop} {x y : Operand} {p q : TP} {b : Bool} (he : eqTp p q = b) (hgd : o.guard = none) (hop : o.op = .binOp .eql 384 x y 384) (hx : a.eval x = tpV p) (hy : a.eval y = tpV q)
 (hK : wpList Tryz.prog ops Q rest (a.put o.dst (.bool b)) w) : wpList Tryz.prog ops Q (o :: rest) a w := by
 subst he
 refine wl_val (v := .bool (eqTp p q)) (w' := w) hgd ?_ hK
 have h1 := eqlTp.1 p q w
 have h2 := eqlTp.2 .eql x y p q w
 simp only [encTp] at h1 h2
 simp only [execOp, hop, hx, hy, Sem.run_bind]
 rw [h2, Result.andThen_ok, h1, Result.andThen_ok]
 rfl
theorem own_take {w : World} {E sz g n c i : Nat} {cs : List Value} (h : w.ownsRow 0 E sz (.slice (some ⟨g, 0, none⟩) n c) n cs) (hi : i ≤ n) : w.ownsRow 0 E sz (.slice (some ⟨g, 0, none⟩) i c) i (cs.take (i * sz)) := by
 have hl := h.1
 have hle : i * sz ≤ n * sz := Nat.mul_le_mul_right _ hi
 refine ⟨by rw [List.length_take]; omega, ?_⟩
 rcases h.2 with ⟨h1, _⟩ | ⟨g', cap, cur, h1, h0, hg, hnc, hcm, hcs, ht⟩
 · cases h1
 · cases h1
   refine .inr ⟨g, c, cur, rfl, h0, hg, by omega, hcm, hcs, ?_⟩
   conv => rhs; rw [← ht]
   rw [List.take_take, Nat.min_eq_left hle]
theorem eqTp_iff (p q : TP) : eqTp p q = true ↔ p = q := by
 unfold eqTp
 obtain ⟨s, m⟩ := p
 obtain ⟨t, n⟩ := q
 simp [ba_inj]
def RemPost (g n : Nat) (zs : List TP) (w w' : World) (e : Ending) : Prop := ∃ v', e = .returned v' ∧ St [g] w w' [Rs.row 384 2 v' n (zs.flatMap encTp)] []
theorem remove_in (p : TP) (g n c : Nat) (xs ys : List TP) (w : World) (how : Ow w [Rs.row 384 2 (.slice (some ⟨g, 0, none⟩) n c) n ((xs ++ p :: ys).flatMap encTp)]) (hn : (xs ++ p :: ys).length = n) (hn1 : n ≤ 1000000) (hp : p ∉ xs) :
 Calls Tryz.prog 249 #[.slice (some ⟨g, 0, none⟩) n c, tpV p] w fun e w' => RemPost g (n - 1) (xs ++ ys) w w' e := by
 have hst0 : St [g] w w [Rs.row 384 2 (.slice (some ⟨g, 0, none⟩) n c) n ((xs ++ p :: ys).flatMap encTp)] [] := by
  have := St.start (M := [Rs.row 384 2 (.slice (some ⟨g, 0, none⟩) n c) n ((xs ++ p :: ys).flatMap encTp)]) (R := []) (by simpa using how)
  simpa [foots, Rs.row, Value.ownBlock] using this
 have HN := Zhd (Zan hn hp); clear hn hp how
 go_enter Tryz.func249, Tryz.ntmps249
 go_wp2_with fail
 have hb0 := hst0.blk (.cells #[.string p.1, .int .i32 p.2] 384)
 generalize hbp : w.heap.size = bp at hb0 ⊢
 have HB0 := Zhd hb0; clear hb0 hbp
 go_loopw [9] (fun i wr => ∃ k : Nat, i = .int .i64 k ∧ k ≤ xs.length ∧ St [g] w wr [Rs.blk bp (.cells #[.string p.1, .int .i32 p.2] 384 (0, 0)), Rs.row 384 2 (.slice (some ⟨g, 0, none⟩) n c) n ((xs ++ p :: ys).flatMap encTp)] []) (fun i _ => n - (intOf i).toNat)
 case atStart => exact ⟨0, rfl, Nat.zero_le _, HB0.out⟩
 case round =>
  obtain ⟨k, rfl, hk, hst⟩ := hrel
  have hln : xs.length < n := by have := HN.out.1; simp at this; omega
  obtain ⟨x, hkx⟩ : ∃ x, (xs ++ p :: ys)[k]? = some x := ⟨_, List.getElem?_eq_getElem (by rw [HN.out.1]; omega)⟩
  obtain ⟨g1, g2⟩ := tp_get hkx
  have c1 := (own_cell (hst.m 1 rfl) g1).1
  have c2 := (own_cell (hst.m 1 rfl) g2).1
  have cp := hst.cell2a 0 rfl
  have hkn : (k : Int) < (n : Int) := by omega
  by_cases hkl : k < xs.length
  · have hne : eqTp x p = false := by
     rw [List.getElem?_append_left hkl] at hkx
     have hx : x ∈ xs := List.mem_of_getElem? hkx
     cases h : eqTp x p
     · rfl
     · rw [eqTp_iff] at h; subst h; exact absurd hx HN.out.2
    have HX := Zhd (Zan hkx hln); clear hkx g1 g2 hln
    go_wp2_with (first
     | (refine wl_eqtp (p := x) (q := p) hne rfl rfl rfl rfl ?_; go_frame)
     | fail)
    go_roundw
    case rel => exact ⟨k + 1, by go_num, by omega, hst.alloc _⟩
    case measure => simp [intOf]; omega
  · obtain rfl : k = xs.length := by omega
    have hx : x = p := by simpa using hkx.symm
    subst hx
    have HX := Zhd (Zan hkx hln); clear hkx g1 g2 hln
    have heq := eqTp_self x
    go_upto_region 5 with (first
     | (refine wl_eqtp (p := x) (q := x) heq rfl rfl rfl rfl ?_; go_frame)
     | fail)
    generalize hkk : xs.length = k at *
    have hrow : wr.ownsRow 0 384 2 (.slice (some ⟨g, 0, none⟩) n c) n ((xs ++ x :: ys).flatMap encTp) := hst.m 1 rfl
    obtain ⟨a', c', ev, hnc⟩ := own_cap hrow
    cases ev
    have hst2 := (hst.alloc (.cells #[.string x.1, .int .i32 x.2] 384)).drew
    have ht := own_take (show _ from hst2.m 1 rfl) (i := k) (by omega)
    have hcs : ((xs ++ x :: ys).flatMap encTp).take (k * 2) = xs.flatMap encTp := by
     rw [List.flatMap_append, ← hkk, ← encs_len, List.take_left]
    rw [hcs] at ht
    have hyl : ys.length = n - (k + 1) := by have := HN.out.1; simp at this; omega
    have hys : ∀ j u, (ys.flatMap encTp)[j]? = some u → ((wr.alloc (.cells #[.string x.1, .int .i32 x.2] 384)).drew).cell? ⟨g, (k + 1) * 2 + j, none⟩ = some u := fun j u hj => by
     refine (own_cell (show _ from hst2.m 1 rfl) (j := (k + 1) * 2 + j) ?_).1
     have e : (xs ++ x :: ys).flatMap encTp = (xs ++ [x]).flatMap encTp ++ ys.flatMap encTp := by simp
     rw [e, List.getElem?_append_right (by rw [encs_len]; simp; omega), encs_len]
     have : (k + 1) * 2 + j - (xs ++ [x]).length * 2 = j := by simp; omega
     rw [this]; exact hj
    have hsrc : ∀ (b : Addr) (cp : Nat), (ys = [] ∨ b = ⟨g, (k + 1) * 2, none⟩) → Src Tryz.prog 2 375 (.slice (some b) (n - (k + 1)) cp) (n - (k + 1)) (ys.flatMap encTp) ((wr.alloc (.cells #[.string x.1, .int .i32 x.2] 384)).drew) := fun b cp hb => by
     refine Src.ofSlice _ Tryz.underlying375 b (n - (k + 1)) cp _ (by rw [encs_len, hyl]) (fun j u hj => ?_) (encs_one _)
     rcases hb with rfl | rfl
     · simp at hj
     · have := hys j u hj
       by_cases h0 : j = 0
       · subst h0; simpa [Addr.add] using this
       · simpa [Addr.add, h0] using this
    have hfin : ∀ v' w2, w2.ownsRow 0 384 2 v' (n - 1) ((xs ++ ys).flatMap encTp) → Kept [g] ((wr.alloc (.cells #[.string x.1, .int .i32 x.2] 384)).drew) w2 →
     ((v'.ownBlock = some g ∧ w2.heap.size = (wr.alloc (.cells #[.string x.1, .int .i32 x.2] 384)).drew.heap.size) ∨ (v'.ownBlock = some (wr.alloc (.cells #[.string x.1, .int .i32 x.2] 384)).drew.heap.size ∧ w2.heap.size = (wr.alloc (.cells #[.string x.1, .int .i32 x.2] 384)).drew.heap.size + 1)) →
     RemPost g (n - 1) (xs ++ ys) w w2 (.returned v') := fun v' w2 h1 h2 h3 => by
     refine ⟨v', rfl, ?_⟩
     have h4 := hst2.set 1 rfl (X' := Rs.row 384 2 v' (n - 1) ((xs ++ ys).flatMap encTp)) h2 (fun g hg _ => by simpa [Rs.row, Value.ownBlock] using hg) h1 (fun y hy => by
      rcases h3 with ⟨e1, e2⟩ | ⟨e1, e2⟩
      · left; simp only [Rs.row, e1, Option.toList, Zmc, Znn, or_false] at hy; subst hy; simp [Rs.row, Value.ownBlock]
      · right; simp only [Rs.row, e1, Option.toList, Zmc, Znn, or_false] at hy; subst hy; omega)
     exact h4.drop 0
    have e1 : k + (n - (k + 1)) = n - 1 := by omega
    have a1 : (4 * (k + (n - (k + 1))) + 1024) * 24 ≤ 281474976710656 := by omega
    have a2 : k + (n - (k + 1)) ≤ 281474976710656 := by omega
    have HA := Zhd (Zan a1 a2); clear a1 a2
    have HF := Zhd (Zan hfin (Zan ht (Zan hsrc e1))); clear hfin ht hsrc hys hcs hst2 hst hrow e1 cp c1 c2 heq
    have b0 : (0 : Int) ≤ (k : Int) := by omega
    have b6 : (k : Int) ≤ (c : Int) := by omega
    have b7 : (k : Int) ≤ (n : Int) := by omega
    have b1 : (0 : Int) ≤ (k : Int) + 1 := by omega
    have b2 : (k : Int) + 1 ≤ (n : Int) := by omega
    have b3 : (n : Int) ≤ (c : Int) := by omega
    have b4 : IntKind.i64.wrap ((k : Int) + 1) = (k : Int) + 1 := by rw [IntKind.wrap_i64]; omega
    have b5 : ((k : Int) + 1).toNat = k + 1 := by omega
    have hsi : Src Tryz.prog 2 375 (.slice (if c = k + 1 then some ⟨g, 0, none⟩ else some ⟨g, (k + 1) * 2, none⟩) (n - (k + 1)) (c - (k + 1))) (n - (k + 1)) (ys.flatMap encTp) ((wr.alloc (.cells #[.string x.1, .int .i32 x.2] 384)).drew) := by
     split
     · exact HF.out.2.2.1 _ _ (.inl (List.eq_nil_of_length_eq_zero (by omega)))
     · exact HF.out.2.2.1 _ _ (.inr rfl)
    have HSI := Zhd hsi; clear hsi
    have HNC := Zhd hnc; clear hnc b3
    go_region_held3 (fun w' => True) (trivial)
     (first
       | (refine sl_app (v := .slice (some ⟨g, 0, none⟩) k c) rfl rfl elTp rfl rfl HF.out.2.1 HSI.out HA.out.1 HA.out.2 ?_
          intro v' w2 h1 h2 h3)
       | fail)
    rw [HF.out.2.2.2, ← List.flatMap_append] at h1
    have hE := HF.out.1 v' w2 h1 h2 h3
    have HE := Zhd hE; clear hE h1 h2 h3
    go_wp2_with fail
    all_goals
     go_ret
     exact HE.out
end
section
open Go Go.Proofs Go.RowKit Go.Lib
open Classical
abbrev Sw := TP × Value × List ByteArray
def rowS (x : Sw) : MRow := (tpV x.1, x.2.1, strs x.2.2)
def rowsS (B : List Sw) : List MRow := B.map rowS
abbrev Rs.p2c (r : Nat) (B : List Sw) : Res := Rs.rows isTp r 9 1 (rowsS B)
theorem p2c_row {w : World} {r : Nat} {B : List Sw} (h : RowsAt w isTp r 9 1 (rowsS B)) {x : Sw} (hx : x ∈ B) : w.ownsRow 0 9 1 x.2.1 x.2.2.length (strs x.2.2) ∧ ∃ a c, x.2.1 = .slice a x.2.2.length c := by
 obtain ⟨n, hn⟩ := h.each (rowS x) (List.mem_map_of_mem hx)
 have h1 : n = x.2.2.length := by
  have := hn.1
  simp [rowS, strs] at this
  omega
 subst h1
 have hn' : w.ownsRow 0 9 1 x.2.1 x.2.2.length (strs x.2.2) := hn
 obtain ⟨a, c, e, _⟩ := own_cap hn'
 exact ⟨hn', a, c, e⟩
theorem p2c_in {B : List Sw} {x : Sw} (hx : x ∈ B) : (tpV x.1, x.2.1) ∈ rawR (rowsS B) := List.mem_map_of_mem (f := fun x : MRow => (x.1, x.2.1)) (List.mem_map_of_mem (f := rowS) hx)
theorem rawS_split {A : List Sw} {l1 l2 : List (Value × Value)} {k v : Value} (h : rawR (rowsS A) = l1 ++ (k, v) :: l2) :
 ∃ L1 x L2, A = L1 ++ x :: L2 ∧ l1 = rawR (rowsS L1) ∧ l2 = rawR (rowsS L2) ∧ k = tpV x.1 ∧ v = x.2.1 := by
 have e' : ∀ L : List Sw, L.map (fun x => ((tpV x.1, x.2.1) : Value × Value)) = rawR (rowsS L) := fun L => by simp [rawR, rowsS, rowS, Function.comp_def]
 rw [← e'] at h
 obtain ⟨L1, M, e1, e2, e3⟩ := List.map_eq_append_iff.1 h
 obtain ⟨x, L2, e4, e5, e6⟩ := List.map_eq_cons_iff.1 e3
 obtain ⟨h1, h2⟩ := Prod.mk.inj e5
 exact ⟨L1, x, L2, by rw [e1, e4], by rw [← e2, e'], by rw [← e6, e'], h1.symm, h2.symm⟩
theorem rawS_nil {A : List Sw} (h : rawR (rowsS A) = []) : A = [] := by
 cases A with
 | nil => rfl
 | cons x A => simp [rawR, rowsS] at h
theorem rowsS_append (A B : List Sw) : rowsS (A ++ B) = rowsS A ++ rowsS B := by simp [rowsS]
theorem cur_footS (r : Nat) (B : List Sw) : r ∈ (Rs.p2c r B).foot := by simp [Rs.p2c, Rs.rows]
structure BalOk (n : Nat) (A Pp : List Rw) (B : List Sw) (us zs : List TP) : Prop where
 len : A.length = n
 pos : 0 < n
 small : n ≤ 1000
 P : ∀ x ∈ A, ∃ v qs, (x.1, v, qs) ∈ Pp ∧ qs.Perm (B.map (·.1))
 Pk : (Pp.map (·.1)).Perm (A.map (·.1))
 full : ∀ x ∈ B, x.2.2.length = n
 total : (allOf (asgT A) ++ us).Perm (B.map (·.1))
 zs : zs.Perm (B.map (·.1))
 cap : B.length ≤ 1000
 nonempty : 0 < B.length
theorem row_le {A : List Rw} {x : Rw} (hx : x ∈ A) : x.2.2.length ≤ (allOf (asgT A)).length := by
 obtain ⟨A1, A2, rfl⟩ := List.append_of_mem hx
 simp [allOf, asgT]; omega
theorem dealt_le {A A' : List Rw} {us : List TP} {k : Nat} (h : Dealt (asgT A) (us.take k) (asgT A')) {x : Rw} (hx : x ∈ A') : x.2.2.length ≤ (allOf (asgT A) ++ us).length := by
 have h1 := row_le hx
 have h2 := h.perm.length_eq
 have h3 : (us.take k).length ≤ us.length := by simp; omega
 simp only [List.length_append] at h2 ⊢
 unfold allOf at h1 ⊢
 omega
theorem BalOk.le {n : Nat} {A Pp : List Rw} {B : List Sw} {us zs : List TP} (h : BalOk n A Pp B us zs) : (allOf (asgT A) ++ us).length ≤ 1000 := by
 rw [h.total.length_eq]; simpa using h.cap
theorem dealt_keys {A A' : List Rw} {ps : List TP} (h : Dealt (asgT A) ps (asgT A')) : A'.map (·.1) = A.map (·.1) := by
 have := h.keys
 simpa [asgT, Function.comp_def] using this
def BInv (S : List Nat) (w : World) (n rc rq ks : Nat) (vs : Value) (A : List Rw) (us zs : List TP) (R : List Res) (k : Nat) (vi : Value) (wr : World) : Prop :=
 ∃ A' lq' g c L, vi = .slice (some ⟨g, 0, none⟩) n c ∧ IdsOf A' L ∧ Dealt (asgT A) (us.take k) (asgT A') ∧ Nils A' ∧
  St S w wr [Rs.cur rc A', Rs.map rq isTp lq', Rs.ids vi n L, Rs.row 384 2 vs ks (zs.flatMap encTp)] R
theorem asgT_mid (A1 A2 : List Rw) (x : Rw) : asgT (A1 ++ x :: A2) = asgT A1 ++ (x.1, x.2.2) :: asgT A2 := by simp [asgT]
theorem take_snoc {α : Type} {l : List α} {k : Nat} {x : α} (h : l[k]? = some x) : l.take (k + 1) = l.take k ++ [x] := by
 obtain ⟨hk, rfl⟩ := List.getElem?_eq_some_iff.1 h
 rw [List.take_succ_eq_append_getElem hk]
end
section
open Go Go.Proofs Go.RowKit Go.Lib
theorem swap_tp (B g n c : Nat) (w : World) (x y : TP) (i j : Nat) (hi : i < n) (hj : j < n) (hn : n < 1000000000) (hij : i ≠ j)
 (hB : w.cell? ⟨B, 0, none⟩ = some (.slice (some ⟨g, 0, none⟩) n c)) (hBg : B ≠ g)
 (ci : w.cell? ⟨g, i * 2, none⟩ = some (.string x.1)) (ci' : w.cell? ⟨g, i * 2 + 1, none⟩ = some (.int .i32 x.2)) (cj : w.cell? ⟨g, j * 2, none⟩ = some (.string y.1)) (cj' : w.cell? ⟨g, j * 2 + 1, none⟩ = some (.int .i32 y.2))
 (fr : ∀ k, w.frozen? ⟨g, k, none⟩ = false) :
 Calls Tryz.prog 263 #[.int .i64 i, .int .i64 j, .pointer (some ⟨B, 0, none⟩)] w fun e w' => e = .returned (.tuple #[]) ∧
  ∃ q, w' = ((((w.setCell ⟨g, i * 2, none⟩ (.string y.1)).setCell ⟨g, i * 2 + 1, none⟩ (.int .i32 y.2)).setCell ⟨g, j * 2, none⟩ (.string x.1)).setCell ⟨g, j * 2 + 1, none⟩ (.int .i32 x.2)).drewN q := by
 have f1 := fr (i * 2)
 have f2 := fr (i * 2 + 1)
 have f3 := fr (j * 2)
 have f4 := fr (j * 2 + 1)
 clear fr
 have hne : ∀ a b : Nat, a ≠ b → (⟨g, a, none⟩ : Addr) ≠ ⟨g, b, none⟩ := fun a b h e => h (by injection e)
 have s1 : ∀ u v, ((w.setCell ⟨g, i * 2, none⟩ u).setCell ⟨g, i * 2 + 1, none⟩ v).cell? ⟨g, j * 2, none⟩ = some (.string y.1) := fun u v => by
  rw [World.cell?_setCell_other _ _ _ _ (hne _ _ (by omega)), World.cell?_setCell_other _ _ _ _ (hne _ _ (by omega))]; exact cj
 have s2 : ∀ u v, ((w.setCell ⟨g, i * 2, none⟩ u).setCell ⟨g, i * 2 + 1, none⟩ v).cell? ⟨g, j * 2 + 1, none⟩ = some (.int .i32 y.2) := fun u v => by
  rw [World.cell?_setCell_other _ _ _ _ (hne _ _ (by omega)), World.cell?_setCell_other _ _ _ _ (hne _ _ (by omega))]; exact cj'
 have s3 : ∀ u v z, (((w.setCell ⟨g, i * 2, none⟩ u).setCell ⟨g, i * 2 + 1, none⟩ v).setCell ⟨g, j * 2, none⟩ z).cell? ⟨g, j * 2 + 1, none⟩ = some (.int .i32 y.2) := fun u v z => by
  rw [World.cell?_setCell_other _ _ _ _ (hne _ _ (by omega))]; exact s2 u v
 have s4 : ∀ u, (w.setCell ⟨g, i * 2, none⟩ u).cell? ⟨g, i * 2 + 1, none⟩ = some (.int .i32 x.2) := fun u => by
  rw [World.cell?_setCell_other _ _ _ _ (hne _ _ (by omega))]; exact ci'
 clear hne
 go_enter Tryz.func263, Tryz.ntmps263
 go_wp2
 go_region
 all_goals (try go_wp2)
 all_goals go_end0
 all_goals exact ⟨rfl, 1, rfl⟩
end
end Go.Proofs.YticcnlpfmekagaaGreat
namespace Go.Proofs
section
open Go.Shelf
def Tryz.lays106_ren : Go.Shelf.Ren := ⟨fun | 106 => 265 | 213 => 271 | 265 => 275 | n => n, fun | 9 => 9 | 3 => 3 | n => n, fun | n => n⟩
theorem Tryz.lays106 : Go.Proofs.Lays.n106 Tryz.prog Tryz.lays106_ren := {
 mixed := by kernel_rfl
 f106 := Tryz.func265.trans (congrArg some (by kernel_rfl))
 f213 := Tryz.func271.trans (congrArg some (by kernel_rfl))
 f265 := Tryz.func275.trans (congrArg some (by kernel_rfl))
 t3 := Tryz.underlying3
 a3 := Tryz.isAgg3
 z3 := Tryz.sizeOf3
 v3 := Tryz.zeroValue3
 t9 := Tryz.underlying9
 a9 := Tryz.isAgg9
 z9 := Tryz.sizeOf9
 v9 := Tryz.zeroValue9 }
open Go.RowKit in
theorem Tryz.strings_Compare (a b : ByteArray) (w : World) :
 Calls Tryz.prog 265 #[.string a, .string b] w fun e w' => e = .returned (.int .i64 (Lib.compareBytes a.data.toList b.data.toList)) ∧ w' = w := Any.strings_Compare Tryz.lays106 a b w
end
end Go.Proofs
namespace Go.Proofs.YticcnlpfmekagaaGreat
section
open Go Go.Proofs Go.RowKit Go.Lib
def ltTp (x y : TP) : Bool := if Lib.compareBytes x.1.data.toList y.1.data.toList = 0 then decide (x.2 < y.2) else decide (Lib.compareBytes x.1.data.toList y.1.data.toList < 0)
theorem cmp_quiet {s t : ByteArray} {w : World} {a n : Nat} : Calls Tryz.prog 265 #[.string s, .string t] (w.drewN (a + n)) fun e w'' => e = .returned (.int .i64 (Lib.compareBytes s.data.toList t.data.toList)) ∧ ∃ m, w'' = w.drewN (a + m) :=
 (Tryz.strings_Compare s t (w.drewN (a + n))).mono fun _ _ h => ⟨h.1, n, h.2⟩
theorem less_tp (A B g n c r len : Nat) (l : List (Value × Value)) (w : World) (x y : TP) (ax ay : Option Addr) (cx cy : Nat) (i j : Nat) (hi : i < n) (hj : j < n) (hn : n < 1000000000)
 (hA : w.cell? ⟨A, 0, none⟩ = some (.map (some r))) (hB : w.cell? ⟨B, 0, none⟩ = some (.slice (some ⟨g, 0, none⟩) n c))
 (ci : w.cell? ⟨g, i * 2, none⟩ = some (.string x.1)) (ci' : w.cell? ⟨g, i * 2 + 1, none⟩ = some (.int .i32 x.2)) (cj : w.cell? ⟨g, j * 2, none⟩ = some (.string y.1)) (cj' : w.cell? ⟨g, j * 2 + 1, none⟩ = some (.int .i32 y.2))
 (hm : MapAt w isTp r l) (ex : (tpV x, .slice ax len cx) ∈ l) (ey : (tpV y, .slice ay len cy) ∈ l) :
 Calls Tryz.prog 264 #[.int .i64 i, .int .i64 j, .pointer (some ⟨A, 0, none⟩), .pointer (some ⟨B, 0, none⟩)] w fun e w' => e = .returned (.bool (ltTp x y)) ∧ ∃ q, w' = w.drewN q := by
 have l1 : ∀ q, (Instr.lookup 382 (.map (some r)) (tpV x) false).run Tryz.prog (w.drewN q) = .ok (.slice ax len cx) (w.drewN q) := fun q => by
  simpa using map_lookup_hit (P := Tryz.prog) (hm.kept ((Kept.refl [] w).drewN q) (by simp)) keyT_tp Tryz.underlying382 ex false
 have l2 : ∀ q, (Instr.lookup 382 (.map (some r)) (tpV y) false).run Tryz.prog (w.drewN q) = .ok (.slice ay len cy) (w.drewN q) := fun q => by
  simpa using map_lookup_hit (P := Tryz.prog) (hm.kept ((Kept.refl [] w).drewN q) (by simp)) keyT_tp Tryz.underlying382 ey false
 clear hm ex ey
 have hcq := fun a n => @cmp_quiet x.1 y.1 w a n
 have HCQ := Zhd hcq; clear hcq
 generalize hcc : Lib.compareBytes x.1.data.toList y.1.data.toList = cc at *
 by_cases h0 : cc = 0
 · subst h0
   have e : ltTp x y = decide (x.2 < y.2) := by simp [ltTp, hcc]
   rw [e]; clear e hcc
   go_enter Tryz.func264, Tryz.ntmps264
   go_wp2
   go_quiet (fail)
   go_wp2
   go_quiet ((go_at_call 265; exact HCQ.out _ _))
   go_wp2
   go_quiet (fail)
   go_wp2
   go_ret
   exact ⟨rfl, _, (by first | rfl | exact World.drewN_drewN ..)⟩
 · have e : ltTp x y = decide (cc < 0) := by simp [ltTp, hcc, h0]
   rw [e]; clear e hcc
   have hb : ((cc : Int) == 0) = false := by simpa using h0
   go_enter Tryz.func264, Tryz.ntmps264
   go_wp2
   go_quiet (fail)
   go_wp2
   go_quiet ((go_at_call 265; exact HCQ.out _ _))
   go_wp2
   go_ret
   exact ⟨rfl, _, (by first | rfl | exact World.drewN_drewN ..)⟩
end
end Go.Proofs.YticcnlpfmekagaaGreat
