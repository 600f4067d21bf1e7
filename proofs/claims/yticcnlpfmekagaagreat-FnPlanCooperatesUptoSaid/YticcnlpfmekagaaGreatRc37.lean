/- Part 37 of the proof of the row: BalD, DelF, CoA. -/
import Derived.Test.YticcnlpfmekagaaGreatRc00
import Derived.Test.YticcnlpfmekagaaGreatRc36
import Derived.Test.YticcnlpfmekagaaGreatRc24
import Derived.Test.YticcnlpfmekagaaGreatRc14
import Derived.Lib.SliceRun
import Derived.Test.YticcnlpfmekagaaGreatRc20
import Derived.Test.YticcnlpfmekagaaGreatRc25
set_option linter.unusedVariables false
set_option linter.unusedSimpArgs false
set_option maxRecDepth 100000
set_option maxHeartbeats 8000000
namespace Go.Proofs.YticcnlpfmekagaaGreat
section
open Go Go.Proofs Go.RowKit Go.Lib
open Classical
theorem balance_all (sp rb rm rc rq rp rk rv ks ku n g0 c0 : Nat) (cp : Bool) (vs vu : Value) (A Pp : List Rw) (B : List Sw) (lq : List (Value × Value)) (us zs P : List TP) (Ks : List ByteArray) (L : List (ByteArray × Nat)) (w : World)
 (how : Ow w (bjM sp rb rm rc rq ks n g0 c0 cp vs A lq zs L [] [] [] [] ++ [Rs.cur rp Pp, Rs.p2c rk B, Rs.row 384 2 vu ku (us.flatMap encTp), Rs.map rv isTp []])) (hok : PfOk n ks Ks P zs B Pp) (hL : IdsOf A L) (hKs : A.map (·.1) = Ks) (hAll : (allOf (asgT A) ++ us).Perm P)
 (hcpc : LqOk A lq) (hnil : Nils A) (hP0 : 0 < P.length) (hPk : ∀ x ∈ Pp, x.1 ∈ Ks ∧ x.2.2.Perm P) (hPm : (Pp.map (·.1)).Perm Ks) (hkuu : us.length = ku) :
 Calls Tryz.prog 233 #[.pointer (some ⟨sp, 0, none⟩), .map (some rc), .map (some rv), vs, vu, .slice (some ⟨g0, 0, none⟩) n c0, .map (some rp), .map (some rk), .map (some rq)] w (BalCPost (foots (bjM sp rb rm rc rq ks n g0 c0 cp vs A lq zs L [] [] [] [])) w rc Ks P sp rb rm cp) := by
 by_cases hn2 : 2 ≤ n
 · exact balance_co sp rb rm rc rq rp rk rv ks ku n g0 c0 cp vs vu A Pp B lq us zs P Ks L w how hok hn2 hL hKs hAll hcpc hnil hP0 hPk hkuu
 · have hlen : A.length = n := by have := congrArg List.length hKs; have := hok.kn; simp at *; omega
   have hn1 : n = 1 := by have := hok.n0; omega
   have hst0 : St (foots (bjM sp rb rm rc rq ks n g0 c0 cp vs A lq zs L [] [] [] [])) w w (balM rc rq ks vs A lq zs (.slice (some ⟨g0, 0, none⟩) n c0) n L ++ movM sp rb rm cp [] [] [] []) [Rs.cur rp Pp, Rs.p2c rk B, Rs.row 384 2 vu ku (us.flatMap encTp), Rs.map rv isTp []] := St.start how
   have hbok : BalOk n A Pp B us zs := ⟨hlen, hok.n0, hok.n1, fun x hx => by
    obtain ⟨v, qs, h1, h2⟩ := hok.pp x.1 (by rw [← hKs]; exact List.mem_map_of_mem hx)
    exact ⟨v, qs, h1, h2.trans hok.bk.symm⟩, by rw [hKs]; exact hPm, fun x hx => by rw [(hok.bn x hx).length_eq]; exact hok.kn, hAll.trans hok.bk.symm, hok.zp.trans hok.bk.symm, by have := hok.bk.length_eq; have := hok.p1; simp at *; omega, by have := hok.bk.length_eq; simp at *; omega⟩
   have hnear : Near (A.map (·.2.2.length)) := by
    obtain ⟨x, hx⟩ := List.length_eq_one_iff.1 (show A.length = 1 by omega)
    rw [hx]
    intro a ha b hb
    simp only [List.map_cons, List.map_nil, Zmc, Znn, or_false] at ha hb
    omega
   refine (balance_near (.pointer (some ⟨sp, 0, none⟩)) (.map (some rv)) n rc rq rp rk ks ku g0 c0 vs vu A Pp B lq us zs L w ?_ hbok hL hok.zl.symm hkuu hnear hnil).mono ?_
   · have h1 := hst0.ow
     rw [List.append_assoc] at h1
     exact h1.sub ((List.Sublist.refl _).append ((List.nil_sublist (movM sp rb rm cp [] [] [] [])).append (List.Sublist.cons_cons _ (List.Sublist.cons_cons _ (List.Sublist.cons_cons _ (List.nil_sublist _))))))
   · rintro e w' ⟨A', lq', rfl, hD, hst1⟩
     have h2 := St.call hst0 hst1
     exact ⟨A', [], [], [], [], rfl, by rw [dealt_keys hD, hKs], hD.perm.trans hAll, (h2.drop 1).noR⟩
end
section
open Go Go.Proofs Go.RowKit Go.Lib
open Classical
theorem clo_eq (x q : Int) (bt : Nat) (w : World) (h : w.cell? ⟨bt, 1, none⟩ = some (.int .i32 q)) :
 Calls Tryz.prog 259 #[.int .i32 x, .pointer (some ⟨bt, 0, none⟩)] w fun e w' => e = .returned (.bool (x == q)) ∧ w' = w := by
 go_enter Tryz.func259, Tryz.ntmps259
 go_wp2
 go_ret
 exact ⟨rfl, rfl⟩
theorem i32s_get {xs : List Int} {k : Nat} {x : Int} (h : xs[k]? = some x) : (i32s xs)[k]? = some (.int .i32 x) := by
 unfold i32s; rw [List.getElem?_map, h]; rfl
theorem body259 : HasBody 259 := by unfold HasBody; intro a w; kernel_rfl
theorem idx_func (g n c bt : Nat) (ys zs : List Int) (q : Int) (w : World) (hrow : w.ownsRow 0 21 1 (.slice (some ⟨g, 0, none⟩) n c) n (i32s (ys ++ q :: zs))) (hn : (ys ++ q :: zs).length = n) (hq : q ∉ ys) (hn1 : n ≤ 1000000) (hb : w.cell? ⟨bt, 1, none⟩ = some (.int .i32 q)) :
 Calls Tryz.prog 270 #[.slice (some ⟨g, 0, none⟩) n c, .func (.func 259) #[] #[.pointer (some ⟨bt, 0, none⟩)]] w fun e w' => e = .returned (.int .i64 ys.length) ∧ w' = w := by
 have hf := body259
 unfold HasBody at hf
 have HR := Zhd (Zan hrow (Zan hn (Zan hq hb))); clear hrow hn hq hb
 go_enter Tryz.func270, Tryz.ntmps270
 go_wp2_with fail
 go_loopw [8] (fun i wr => ∃ k : Nat, i = .int .i64 k ∧ k ≤ ys.length ∧ wr = w) (fun i _ => n - (intOf i).toNat)
 case atStart => exact ⟨0, rfl, Nat.zero_le _, rfl⟩
 case round =>
  obtain ⟨k, rfl, hk, hwr⟩ := hrel
  obtain rfl : w = wr := hwr.symm
  have hln : ys.length < n := by have := HR.out.2.1; simp at this; omega
  obtain ⟨x, hx⟩ : ∃ x, (ys ++ q :: zs)[k]? = some x := ⟨_, List.getElem?_eq_getElem (by rw [HR.out.2.1]; omega)⟩
  have c1 := (own_cell HR.out.1 (j := k) (u := .int .i32 x) (i32s_get hx)).1
  have hki : (k : Int) < (n : Int) := by omega
  have hcl := clo_eq x q bt w HR.out.2.2.2
  have HC := Zhd hcl; clear hcl
  by_cases hkl : k < ys.length
  · have hne : (x == q) = false := by
     rw [List.getElem?_append_left hkl] at hx
     have hx2 : x ∈ ys := List.mem_of_getElem? hx
     have := HR.out.2.2.1
     simp only [beq_eq_false_iff_ne]
     intro e; subst e; exact this hx2
    rw [hne] at HC
    go_wp2_with fail
    refine HC.out.mono ?_
    rintro e w1 ⟨rfl, rfl⟩
    go_wp2_with fail
    exact ⟨⟨k + 1, by go_num, by omega, by trivial⟩, by simp [intOf]; omega⟩
  · obtain rfl : k = ys.length := by omega
    have hxq : x = q := by simpa using hx.symm
    subst hxq
    have heq : (x == x) = true := by simp
    rw [heq] at HC
    go_wp2_with fail
    refine HC.out.mono ?_
    rintro e w1 ⟨rfl, rfl⟩
    go_wp2_with fail
    go_ret
    exact ⟨rfl, rfl⟩
section
variable {P : Program} {ops : Array Oper} {o : Oper} {a : Act} {w : World} {rest : List Oper} {Q : Exit → Act → World → Prop}
variable {S : List Nat} {w0 : World} {M R : List Res} {m : Operand} {T : TypeId}
theorem setCells1 (w : World) (g k : Nat) (u : Value) : w.setCells g k [u] = w.setCell ⟨g, k, none⟩ u := by
 simp [World.setCells]
theorem wl_clear1 (i : Nat) {g n c k c2 : Nat} {cs : List Value} (hgd : o.guard = none) (hop : o.op = .call { callee := .builtin .clear, args := #[m], argTypes := #[T] }) (hm : a.eval m = .slice (some ⟨g, k, none⟩) 1 c2) (hT : P.underlying T = some (.slice 21)) (hz : ∀ w, (zeroValue 21).run P w = .ok (.int .i32 0) w)
 (hst : St S w0 w M R) (hi : M[i]? = some (Rs.row 21 1 (.slice (some ⟨g, 0, none⟩) n c) n cs)) (hk : k < n)
 (hK : ∀ w', St S w0 w' (M.set i (Rs.row 21 1 (.slice (some ⟨g, 0, none⟩) n c) n (cs.set k (.int .i32 0)))) R → wpList P ops Q rest (a.put o.dst (.tuple #[])) w') : wpList P ops Q (o :: rest) a w := by
 have hrow : w.ownsRow 0 21 1 (.slice (some ⟨g, 0, none⟩) n c) n cs := hst.m i hi
 obtain ⟨u, hu⟩ : ∃ u, cs[k]? = some u := ⟨_, List.getElem?_eq_getElem (by rw [hrow.1]; omega)⟩
 have hc := own_cell hrow hu
 have hrun := run_clear_slice (P := P) w T 21 o.type (.int .i32 0) hT hz rfl rfl g k 1 c2 (by omega) (fun j hj => by
  obtain rfl : j = 0 := by omega
  rw [Nat.add_zero, hc.1]; rfl) (fun j hj => by
  obtain rfl : j = 0 := by omega
  rw [Nat.add_zero]; exact hc.2)
 have e : w.setCells g k (List.replicate 1 (.int .i32 0)) = w.setCell ⟨g, k, none⟩ (.int .i32 0) := setCells1 w g k _
 rw [e] at hrun
 refine wl_val (v := .tuple #[]) (w' := w.setCell ⟨g, k, none⟩ (.int .i32 0)) hgd ?_ (hK _ (hst.setRow i hi k _))
 simp [execOp, hop, resolve, invoke, builtin, hm, hrun, Result.andThen]
end
def DelPost (g c n : Nat) (xs : List Int) (w : World) (R : List Res) (e : Ending) (w' : World) : Prop :=
 e = .returned (.slice (some ⟨g, 0, none⟩) n c) ∧ St [g] w w' [Rs.row 21 1 (.slice (some ⟨g, 0, none⟩) n c) n (i32s xs)] R
def DelInv (g n c : Nat) (ys zs : List Int) (w : World) (R : List Res) (i j : Value) (wr : World) : Prop :=
 ∃ (t : Nat) (d : Int), i = .int .i64 ((ys.length + t : Nat) : Int) ∧ j = .int .i64 ((ys.length + 1 + t : Nat) : Int) ∧ t ≤ zs.length ∧ St [g] w wr [Rs.row 21 1 (.slice (some ⟨g, 0, none⟩) n c) n (i32s (ys ++ zs.take t ++ d :: zs.drop t))] R
theorem del_func (g n c bt : Nat) (ys zs : List Int) (q : Int) (t : ByteArray) (w : World) (how : Ow w ([Rs.row 21 1 (.slice (some ⟨g, 0, none⟩) n c) n (i32s (ys ++ q :: zs))] ++ [Rs.blk bt (.cells #[.string t, .int .i32 q] 384 (0, 0))])) (hn : (ys ++ q :: zs).length = n) (hqy : q ∉ ys) (hqz : q ∉ zs) (hn1 : n ≤ 1000000) :
 Calls Tryz.prog 258 #[.slice (some ⟨g, 0, none⟩) n c, .func (.func 259) #[] #[.pointer (some ⟨bt, 0, none⟩)]] w (DelPost g c (n - 1) (ys ++ zs) w [Rs.blk bt (.cells #[.string t, .int .i32 q] 384 (0, 0))]) := by
 have hf := body259
 unfold HasBody at hf
 have hst0 : St [g] w w [Rs.row 21 1 (.slice (some ⟨g, 0, none⟩) n c) n (i32s (ys ++ q :: zs))] [Rs.blk bt (.cells #[.string t, .int .i32 q] 384 (0, 0))] := by
  have := St.start how
  simpa [foots, Rs.row, Value.ownBlock] using this
 obtain ⟨_, _, ev, hnc⟩ := own_cap (show w.ownsRow 0 21 1 (.slice (some ⟨g, 0, none⟩) n c) n (i32s (ys ++ q :: zs)) from hst0.m 0 rfl)
 cases ev
 have hbt : ∀ W, (Rs.blk bt (.cells #[.string t, .int .i32 q] 384 (0, 0))).holds W → W.cell? ⟨bt, 1, none⟩ = some (.int .i32 q) := fun W h => (cells_of h).1 1 _ rfl
 have hidx := idx_func g n c bt ys zs q w (hst0.m 0 rfl) hn hqy hn1 (hbt _ (hst0.r 0 rfl))
 have hln : ys.length + 1 + zs.length = n := by simp at hn; omega
 have h0 : DelInv g n c ys zs w [Rs.blk bt (.cells #[.string t, .int .i32 q] 384 (0, 0))] (.int .i64 ys.length) (.int .i64 ((ys.length + 1 : Nat) : Int)) w := ⟨0, q, by simp, by simp, Nat.zero_le _, by simpa using hst0⟩
 have HI := Zhd hidx; clear hidx
 have H0 := Zhd h0; clear h0 hst0 how hn
 have hyb : ys.length ≤ 1000000 := by omega
 have hy1 : ((ys.length : Int) == -1) = false := by simp
 go_enter Tryz.func258, Tryz.ntmps258
 go_wp2_with (first
  | (go_at_call 270
     refine HI.out.mono ?_
     rintro e w1 ⟨rfl, hw1⟩
     obtain rfl : w = w1 := hw1.symm)
  | fail)
 go_loopw [5, 6] (fun i j wr => DelInv g n c ys zs w [Rs.blk bt (.cells #[.string t, .int .i32 q] 384 (0, 0))] i j wr) (fun _ j _ => n - (intOf j).toNat)
 case atStart =>
  have h1 := H0.out
  simpa using h1
 case round =>
  obtain ⟨k, d, rfl, rfl, hk, hst⟩ := hrel
  clear H0
  by_cases hkz : k < zs.length
  · obtain ⟨x, hx⟩ : ∃ x, zs[k]? = some x := ⟨_, List.getElem?_eq_getElem hkz⟩
    obtain ⟨hk1, hx1⟩ := List.getElem?_eq_some_iff.1 hx
    have hdr : zs.drop k = x :: zs.drop (k + 1) := by rw [List.drop_eq_getElem_cons hk1, hx1]
    have c1 := (own_cell (show wr.ownsRow 0 21 1 (.slice (some ⟨g, 0, none⟩) n c) n _ from hst.m 0 rfl) (j := ys.length + 1 + k) (u := .int .i32 x) (by
     rw [hdr]
     have : (ys ++ zs.take k ++ d :: x :: zs.drop (k + 1))[ys.length + 1 + k]? = some x := by
      rw [List.getElem?_append_right (by rw [List.length_append, List.length_take]; omega)]
      have : ys.length + 1 + k - (ys ++ zs.take k).length = 1 := by rw [List.length_append, List.length_take]; omega
      rw [this]; rfl
     exact i32s_get this)).1
    have c2 := own_cell (show wr.ownsRow 0 21 1 (.slice (some ⟨g, 0, none⟩) n c) n _ from hst.m 0 rfl) (j := ys.length + k) (u := .int .i32 d) (by
     have : (ys ++ zs.take k ++ d :: zs.drop k)[ys.length + k]? = some d := by
      rw [List.getElem?_append_right (by rw [List.length_append, List.length_take]; omega)]
      have : ys.length + k - (ys ++ zs.take k).length = 0 := by rw [List.length_append, List.length_take]; omega
      rw [this]; rfl
     exact i32s_get this)
    have hxq : (x == q) = false := by
     simp only [beq_eq_false_iff_ne]
     intro e; subst e; exact hqz (List.mem_of_getElem? hx)
    have hcl := clo_eq x q bt wr (hbt _ (hst.r 0 rfl))
    rw [hxq] at hcl
    have HC := Zhd hcl; clear hcl
    have hset : (i32s (ys ++ zs.take k ++ d :: zs.drop k)).set (ys.length + k) (.int .i32 x) = i32s (ys ++ zs.take (k + 1) ++ x :: zs.drop (k + 1)) := by
     have e1 : i32s (ys ++ zs.take k ++ d :: zs.drop k) = i32s (ys ++ zs.take k) ++ .int .i32 d :: i32s (zs.drop k) := by simp [i32s]
     have e2 : (i32s (ys ++ zs.take k)).length = ys.length + k := by unfold i32s; rw [List.length_map, List.length_append, List.length_take]; omega
     rw [e1, List.set_append_right _ _ (by rw [e2]; exact Nat.le_refl _), e2, Nat.sub_self, Zs0, hdr, List.take_succ_eq_append_getElem hk1, hx1]
     simp [i32s]
    have hst2 := hst.setRow 0 rfl (ys.length + k) (.int .i32 x)
    rw [hset] at hst2
    simp only [Zs0] at hst2
    have hji : ((ys.length + 1 + k : Nat) : Int) < (n : Int) := by omega
    have hj0 : (0 : Int) ≤ ((ys.length + 1 + k : Nat) : Int) := by omega
    have hii : ((ys.length + k : Nat) : Int) < (n : Int) := by omega
    have hi0 : (0 : Int) ≤ ((ys.length + k : Nat) : Int) := by omega
    have h20 : DelInv g n c ys zs w [Rs.blk bt (.cells #[.string t, .int .i32 q] 384 (0, 0))] (.int .i64 ((ys.length + (k + 1) : Nat) : Int)) (.int .i64 ((ys.length + 1 + (k + 1) : Nat) : Int)) (wr.setCell ⟨g, ys.length + k, none⟩ (.int .i32 x)) := ⟨k + 1, x, rfl, rfl, by omega, hst2⟩
    obtain ⟨c2a, c2b⟩ := c2
    have H20 := Zhd h20; clear h20 hst2 hset hst hx hx1 hdr
    obtain ⟨ia, hA⟩ : ∃ ia, ia = ys.length + k := ⟨_, rfl⟩
    obtain ⟨ja, hB⟩ : ∃ ja, ja = ys.length + 1 + k := ⟨_, rfl⟩
    rw [← hB] at c1 hji hj0 ⊢
    rw [← hA] at c2a c2b hii hi0 H20 ⊢
    have hjb : ja ≤ 1000000 := by omega
    have hib : ia ≤ 1000000 := by omega
    have HAB := Zhd (Zan hA hB); clear hA hB
    go_wp2_with fail
    refine HC.out.mono ?_
    rintro e w1 ⟨rfl, hw1⟩
    obtain rfl : wr = w1 := hw1.symm
    go_wp2_with fail
    have h3 := H20.out
    have e1 : ((ys.length + (k + 1) : Nat) : Int) = (ia : Int) + 1 := by have := HAB.out.1; omega
    have e2 : ((ys.length + 1 + (k + 1) : Nat) : Int) = (ja : Int) + 1 := by have := HAB.out.2; omega
    rw [e1, e2] at h3
    exact ⟨h3, by have := HAB.out.2; simp [intOf]; omega⟩
  · obtain rfl : k = zs.length := by omega
    rw [List.take_length, List.drop_length] at hst
    obtain ⟨ia, hA⟩ : ∃ ia, ia = ys.length + zs.length := ⟨_, rfl⟩
    obtain rfl : n = ia + 1 := by omega
    rw [show ys.length + 1 + zs.length = ia + 1 by omega, ← hA]
    have hib : ia ≤ 1000000 := by omega
    have hfin : ∀ w2, St [g] w w2 [Rs.row 21 1 (.slice (some ⟨g, 0, none⟩) (ia + 1) c) (ia + 1) ((i32s (ys ++ zs ++ [d])).set ia (.int .i32 0))] [Rs.blk bt (.cells #[.string t, .int .i32 q] 384 (0, 0))] → DelPost g c (ia + 1 - 1) (ys ++ zs) w [Rs.blk bt (.cells #[.string t, .int .i32 q] 384 (0, 0))] (.returned (.slice (some ⟨g, 0, none⟩) ia c)) w2 := fun w2 h => by
     refine ⟨rfl, h.weak 0 rfl (X' := Rs.row 21 1 (.slice (some ⟨g, 0, none⟩) ia c) ia (i32s (ys ++ zs))) (fun h1 => ?_) (fun g hg => hg)⟩
     have h2 := own_take (show w2.ownsRow 0 21 1 (.slice (some ⟨g, 0, none⟩) (ia + 1) c) (ia + 1) ((i32s (ys ++ zs ++ [d])).set ia (.int .i32 0)) from h1) (i := ia) (by omega)
     have e : ((i32s (ys ++ zs ++ [d])).set ia (.int .i32 0)).take (ia * 1) = i32s (ys ++ zs) := by
      have e1 : i32s (ys ++ zs ++ [d]) = i32s (ys ++ zs) ++ [.int .i32 d] := by simp [i32s]
      have e2 : (i32s (ys ++ zs)).length = ia := by unfold i32s; rw [List.length_map, List.length_append]; omega
      rw [e1, List.set_append_right _ _ (by rw [e2]; exact Nat.le_refl _), Nat.mul_one]
      conv => lhs; rw [← e2]
      rw [List.take_left]
     rw [e] at h2
     exact h2
    have HF := Zhd hfin; clear hfin
    have hcb : ia + 1 ≤ c := hnc
    have HA := Zhd hA; clear hA hln hnc
    have b0 : (0 : Int) ≤ (ia : Int) := by omega
    have b1 : (ia : Int) ≤ (c : Int) := by omega
    have b2 : (ia : Int) ≤ (ia : Int) + 1 := by omega
    have b3 : (ia : Int) + 1 ≤ (c : Int) := by omega
    have b4 : ¬ (c = ia) := by omega
    have b5 : ia + 1 - ia = 1 := by omega
    go_wp2_with (first
     | (refine wl_clear1 0 rfl rfl rfl Tryz.underlying31 (fun w => Tryz.zeroValue21 w) hst rfl (by omega) ?_
        intro w2 hst2
        simp only [Zs0] at hst2)
     | fail)
    go_ret
    exact HF.out _ hst2
end
section
open Go Go.Proofs Go.RowKit Go.Lib
open Classical
def owTps (L : List OwT) : List TP := (ow2 L).flatMap tpsOf
theorem owTps_snoc {L : List OwT} {k : Nat} {x : OwT} (h : L[k]? = some x) : owTps (L.take (k + 1)) = owTps (L.take k) ++ tpsOf (x.1, x.2.2.2) := by
 obtain ⟨h1, h2⟩ := List.getElem?_eq_some_iff.1 h
 rw [List.take_succ_eq_append_getElem h1, h2]
 simp [owTps, ow2]
theorem owTps_take_le (L : List OwT) (k : Nat) : (owTps (L.take k)).length ≤ (owTps L).length := by
 have h : owTps L = owTps (L.take k) ++ owTps (L.drop k) := by
  unfold owTps ow2
  rw [← List.flatMap_append, ← List.map_append, List.take_append_drop]
 rw [h, List.length_append]; omega
def OwPost (w : World) (L : List OwT) (e : Ending) (w' : World) : Prop :=
 ∃ (v : Value) (N : Nat), e = .returned v ∧ (owTps L).length = N ∧ St [] w w' [Rs.row 384 2 v N ((owTps L).flatMap encTp)] []
def OwOut (w : World) (L : List OwT) (n : Nat) (v i : Value) (wr : World) : Prop :=
 ∃ (k na : Nat), i = .int .i64 k ∧ k ≤ n ∧ (owTps (L.take k)).length = na ∧ St [] w wr [Rs.row 384 2 v na ((owTps (L.take k)).flatMap encTp)] []
def OwIn (w : World) (top : ByteArray) (xs : List Int) (xn : Nat) (ps : List TP) (v i : Value) (wr : World) : Prop :=
 ∃ (k na : Nat), i = .int .i64 k ∧ k ≤ xn ∧ (ps ++ tpsOf (top, xs.take k)).length = na ∧ St [] w wr [Rs.row 384 2 v na ((ps ++ tpsOf (top, xs.take k)).flatMap encTp)] []
theorem own_parts (oa : Option Addr) (n oc : Nat) (L : List OwT) (w : World) (hrow : SlAt w 1 (.slice oa n oc) n (ptrsO L)) (hn : L.length = n) (hat : ∀ y ∈ L, OwAt w y) (hb : n ≤ 100000) (hbt : (owTps L).length ≤ 100000) : Calls Tryz.prog 257 #[.slice oa n oc] w (OwPost w L) := by
 have hst0 : St [] w w [] [] := St.start0 (Ow.nil w)
 have HR := Zhd (Zan hrow (Zan hn (Zan hat hbt))); clear hrow hn hat hbt
 go_enter Tryz.func257, Tryz.ntmps257
 go_wp2_with (first
  | (refine wl_mkslice n rfl rfl rfl rfl elTp hst0 (by omega) (by unfold maxLen; omega) ?_
     intro g w1 hst1 hg)
  | fail)
 have h10 : OwOut w L n (.slice (some ⟨g, 0, none⟩) 0 n) (.int .i64 0) w1 := ⟨0, 0, rfl, Nat.zero_le _, by simp [owTps, ow2], by simpa [owTps, ow2] using hst1⟩
 have H10 := Zhd h10; clear h10 hst1 hst0 hg
 go_loopw [3, 13] (fun v i wr => OwOut w L n v i wr) (fun _ i _ => n - (intOf i).toNat)
 case atStart => exact H10.out
 case round =>
  obtain ⟨k, na, rfl, hk, hna, hst⟩ := hrel
  clear H10
  by_cases hkn : k < n
  · obtain ⟨x, hx⟩ : ∃ x, L[k]? = some x := ⟨_, List.getElem?_eq_getElem (by rw [HR.out.2.1]; exact hkn)⟩
    obtain ⟨top, bx, xv, xs⟩ := x
    have hxL := List.mem_of_getElem? hx
    obtain ⟨hblk, ⟨xa, xc, hxv⟩, hxs, _⟩ := HR.out.2.2.1 _ hxL
    simp only at hxv hxs hblk
    subst hxv
    obtain ⟨xn, hxn⟩ : ∃ xn, xs.length = xn := ⟨_, rfl⟩
    rw [hxn] at hxs hblk
    obtain ⟨b, off, cap, hv, hcells⟩ : ∃ b off cap, Value.slice oa n oc = .slice (some ⟨b, off, none⟩) n cap ∧ ∀ W, Kept [] w W → ∀ j u, (ptrsO L)[j]? = some u → W.cell? ⟨b, off + j, none⟩ = some u := by
     rcases HR.out.1.2.2 with ⟨_, _, _, h0⟩ | ⟨b, off, cap, hv, _⟩
     · omega
     · refine ⟨b, off, cap, hv, fun W hW => ?_⟩
       have h2 := HR.out.1.kept hW (by simp)
       rw [hv] at h2
       rcases h2.2.2 with ⟨_, _, _, h0⟩ | ⟨b', off', cap', hv', hc'⟩
       · omega
       · simp only [Value.slice.injEq, Option.some.injEq, Addr.mk.injEq] at hv'
         obtain ⟨⟨rfl, rfl, _⟩, _⟩ := hv'
         exact hc'
    simp only [Value.slice.injEq] at hv
    obtain ⟨rfl, _, rfl⟩ := hv
    have c0 := hcells wr hst.kept k (.pointer (some ⟨bx, 0, none⟩)) (by simp [ptrsO, hx])
    have hbw := hst.kept.heap hblk (by simp)
    have d1 := (cells_of hbw).1 1 _ rfl
    have hki : (k : Int) < (n : Int) := by omega
    have hsnoc := owTps_snoc hx
    have hle := owTps_take_le L (k + 1)
    have hps : ∃ ps, owTps (L.take k) = ps := ⟨_, rfl⟩
    obtain ⟨ps, hps⟩ := hps
    rw [hps] at hst hna
    rw [hsnoc, hps] at hle
    have hxb : xn ≤ 100000 := by
     have h3 := HR.out.2.2.2
     simp only [List.length_append, tpsOf_len] at hle
     omega
    have HX := Zhd (Zan hsnoc (Zan hps (Zan hblk (Zan hxs (Zan hxn (Zan hle hna)))))); clear hsnoc hps hblk hxs hle hna hcells hbw hx hxL
    go_wp2_with fail
    have h20 : OwIn w top xs xn ps u3 (.int .i64 0) wr := ⟨0, na, rfl, Nat.zero_le _, by simpa [tpsOf] using HX.out.2.2.2.2.2.2, by simpa [tpsOf] using hst⟩
    have H20 := Zhd h20; clear h20 hst c0 d1
    go_loopw [3, 22] (fun v i wr => OwIn w top xs xn ps v i wr) (fun _ i _ => xn - (intOf i).toNat)
    case atStart => exact H20.out
    case round =>
     obtain ⟨j, na2, rfl, hj, hna2, hst3⟩ := hrel
     clear H20
     by_cases hjn : j < xn
     · obtain ⟨q, hq⟩ : ∃ q, xs[j]? = some q := ⟨_, List.getElem?_eq_getElem (by rw [HX.out.2.2.2.2.1]; exact hjn)⟩
       have hpt := HX.out.2.2.2.1.kept hst3.kept (by simp)
       obtain ⟨b2, off2, cap2, hv2, hcells2⟩ : ∃ b off cap, Value.slice xa xn xc = .slice (some ⟨b, off, none⟩) xn cap ∧ ∀ j u, (i32s xs)[j]? = some u → wr.cell? ⟨b, off + j, none⟩ = some u := by
        rcases hpt.2.2 with ⟨_, _, _, h0⟩ | h
        · omega
        · exact h
       simp only [Value.slice.injEq] at hv2
       obtain ⟨rfl, _, rfl⟩ := hv2
       have c1 := hcells2 j (.int .i32 q) (by simp [i32s, hq])
       have hbw := hst3.kept.heap HX.out.2.2.1 (by simp)
       have d0 := (cells_of hbw).1 0 _ rfl
       have hji : (j : Int) < (xn : Int) := by omega
       have hnb : na2 ≤ 100000 := by
        have h1 := HX.out.2.2.2.2.2.1
        have h2 := HX.out.2.2.2.2.1
        have h3 := HR.out.2.2.2
        rw [← hna2]
        simp only [List.length_append, tpsOf_len, List.length_take] at h1 ⊢
        omega
       have hsn := tpsOf_snoc ps top xs j q hq
       have hen := enc_snoc (ps ++ tpsOf (top, xs.take j)) (top, q)
       simp only at hen
       have HN := Zhd (Zan hsn hna2); clear hsn hna2 hq hpt hcells2 hbw
       go_wp2_with (first
        | (refine wl_build1 (x := tpV (top, q)) rfl rfl rfl (build_tp (top, q) _) ?_)
        | (refine wl_push 0 rfl rfl elTp rfl rfl (hst3.alloc _) rfl ((new_tp _ (top, q)).src Tryz.underlying375) (by omega) (by omega) ?_
           intro v' w7 hst7
           simp only [Zs0] at hst7
           rw [hen, HN.out.1] at hst7)
        | fail)
       exact ⟨⟨j + 1, na2 + 1, by go_num, by omega, by rw [← HN.out.1, List.length_append, HN.out.2]; rfl, hst7⟩, by simp [intOf]; omega⟩
     · obtain rfl : j = xn := by omega
       rw [List.take_of_length_le (by rw [HX.out.2.2.2.2.1]; exact Nat.le_refl _)] at hst3 hna2
       have h1 := HX.out.1
       rw [HX.out.2.1] at h1
       rw [← h1] at hst3 hna2
       have HN := Zhd (Zan hst3 hna2); clear hst3 hna2 h1
       go_wp2_with fail
       exact ⟨⟨k + 1, na2, by go_num, by omega, HN.out.2, HN.out.1⟩, by simp [intOf]; omega⟩
  · obtain rfl : k = n := by omega
    rw [List.take_of_length_le (by rw [HR.out.2.1]; exact Nat.le_refl _)] at hst hna
    have HN := Zhd (Zan hst hna); clear hst hna
    go_wp2_with fail
    go_ret
    exact ⟨_, na, rfl, HN.out.2, HN.out.1⟩
def CoAt (w : World) (lo m : Nat) (parts : List TP) (gen : Int) : Prop :=
 ∃ (v : Value) (N : Nat) (ps : List TP), w.heap[m]? = some (.cells #[.int .i32 gen, v] 440 (0, 0)) ∧ ps.length = N ∧ ps.Perm parts ∧ w.ownsRow 0 384 2 v N (ps.flatMap encTp) ∧ (∀ y, v.ownBlock = some y → lo ≤ y ∧ y < w.heap.size)
theorem coParts : IsMeth 438 "pub-kestrel/pub/sarama.partitions" 423 := ⟨fun _ _ => by kernel_rfl, fun _ _ => by kernel_rfl, fun _ _ => by kernel_rfl⟩
theorem coHas : IsMeth 438 "pub-kestrel/pub/sarama.hasGeneration" 422 := ⟨fun _ _ => by kernel_rfl, fun _ _ => by kernel_rfl, fun _ _ => by kernel_rfl⟩
theorem coGen : IsMeth 438 "pub-kestrel/pub/sarama.generation" 421 := ⟨fun _ _ => by kernel_rfl, fun _ _ => by kernel_rfl, fun _ _ => by kernel_rfl⟩
theorem co_data (ver gen : Int) (tv dv : Value) (ta oa : Option Addr) (tn tc on oc : Nat) (da : Option Addr) (dn dc : Nat) (ra : Option Addr) (L : List OwT) (w : World) (hv : 2 ≤ ver) (hrow : SlAt w 1 (.slice oa on oc) on (ptrsO L)) (hn : L.length = on) (hat : ∀ y ∈ L, OwAt w y) (hb : on ≤ 100000) (hbt : (owTps L).length ≤ 100000) :
 Calls Tryz.prog 235 #[.agg #[.int .i16 ver, .slice ta tn tc, .slice da dn dc, .slice oa on oc, .int .i32 gen, .pointer ra], .bool true] w fun e w' =>
  ∃ m, e = .returned (.tuple #[.iface 438 (.pointer (some ⟨m, 0, none⟩)), .nilIface]) ∧ w.heap.size ≤ m ∧ CoAt w' w.heap.size m (owTps L) gen ∧ Kept [] w w' := by
 have hk0 : Kept [] w (w.alloc (.cells #[.int .i16 ver, .slice ta tn tc, .slice da dn dc, .slice oa on oc, .int .i32 gen, .pointer ra] 78)) := (Kept.refl _ _).alloc _
 have hop := own_parts oa on oc L _ (hrow.kept hk0 (by simp)) hn (fun y hy => ⟨hk0.heap (hat y hy).1 (by simp), (hat y hy).2.kept hk0 (by simp)⟩) hb hbt
 have HO := Zhd hop; clear hop hrow hat hbt
 have hm0 : (w.alloc (.cells #[.int .i16 ver, .slice ta tn tc, .slice da dn dc, .slice oa on oc, .int .i32 gen, .pointer ra] 78)).heap[w.heap.size]? = some (.cells #[.int .i16 ver, .slice ta tn tc, .slice da dn dc, .slice oa on oc, .int .i32 gen, .pointer ra] 78 (0, 0)) := heap_alloc_new w _
 have hv' : ¬ (ver < 2) := by omega
 go_enter Tryz.func235, Tryz.ntmps235
 go_wp2_with (first
  | (go_at_call 257
     refine HO.out.mono ?_
     rintro e w2 ⟨v, N, rfl, hN, hst2⟩
     obtain ⟨va, vn, vc, rfl⟩ := own_form (show w2.ownsRow 0 384 2 v N _ from hst2.m 0 rfl)
     have d0 : ∀ o, (w2.alloc o).cell? ⟨w.heap.size, 0, none⟩ = some (.int .i16 ver) := fun o => (cells_of ((hst2.alloc o).kept.heap hm0 (by simp))).1 0 _ rfl
     have d4 : ∀ o, (w2.alloc o).cell? ⟨w.heap.size, 4, none⟩ = some (.int .i32 gen) := fun o => (cells_of ((hst2.alloc o).kept.heap hm0 (by simp))).1 4 _ rfl
     have hst3 := hst2.blk (.cells #[.int .i32 (-1), .slice va vn vc] 440)
     have e0 := hst3.cell2 0 rfl
     have HS := Zhd (Zan hN hst2); clear hN hst2 hst3)
  | fail)
 go_ret2
 have hst4 := HS.out.2.blk (.cells #[.int .i32 gen, .slice va vn vc] 440)
 have hlt := hst4.lt 1 rfl
 have hsz := HS.out.2.kept.size
 rw [World.size_alloc] at hsz
 refine ⟨_, rfl, by omega, ⟨.slice va vn vc, N, owTps L, hst4.m 0 rfl, HS.out.1, .refl _, hst4.m 1 rfl, fun y hy => ?_⟩, hk0.trans hst4.kept (by simp) (by simp)⟩
 have h1 := HS.out.2.turn y (by simp [foots, Rs.row, hy])
 have h2 := hlt y (by simp [Rs.row, hy])
 rcases h1 with h1 | h1
 · simp at h1
 · rw [World.size_alloc] at h1
   exact ⟨by omega, h2⟩
theorem co_parts (m : Nat) (v : Value) (gen : Int) (w : World) (h : w.heap[m]? = some (.cells #[.int .i32 gen, v] 440 (0, 0))) (hv : ∃ a n c, v = .slice a n c) :
 Calls Tryz.prog 423 #[.pointer (some ⟨m, 0, none⟩)] w fun e w' => e = .returned v ∧ w' = w := by
 obtain ⟨a, n, c, rfl⟩ := hv
 have c2 := (cells_of h).1 1 _ rfl
 go_enter Tryz.func423, Tryz.ntmps423
 go_wp2
 go_ret
 exact ⟨rfl, rfl⟩
theorem co_has (a : Addr) (w : World) : Calls Tryz.prog 422 #[.pointer (some a)] w fun e w' => e = .returned (.bool true) ∧ w' = w := by
 go_enter Tryz.func422, Tryz.ntmps422
 go_wp2
 go_ret
 exact ⟨rfl, rfl⟩
theorem co_gen (m : Nat) (v : Value) (gen : Int) (hgen : isI32 gen) (w : World) (h : w.heap[m]? = some (.cells #[.int .i32 gen, v] 440 (0, 0))) :
 Calls Tryz.prog 421 #[.pointer (some ⟨m, 0, none⟩)] w fun e w' => e = .returned (.int .i64 gen) ∧ w' = w := by
 have c1 := (cells_of h).1 0 _ rfl
 have hw : wrap64 gen = gen := by unfold isI32 at hgen; unfold wrap64; omega
 go_enter Tryz.func421, Tryz.ntmps421
 go_wp2
 go_ret
 refine ⟨?_, rfl⟩
 show Ending.returned (Value.int IntKind.i64 (wrap64 gen)) = _
 rw [hw]
end
end Go.Proofs.YticcnlpfmekagaaGreat
