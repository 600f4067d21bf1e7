/- Part 47 of the proof of the row: CntW. -/
import Derived.Test.YticcnlpfmekagaaGreatRj00
import Derived.Test.YticcnlpfmekagaaGreatRj44
import Derived.Test.YticcnlpfmekagaaGreatRj46
set_option linter.unusedVariables false
set_option linter.unusedSimpArgs false
set_option maxRecDepth 100000
set_option maxHeartbeats 8000000
namespace Go.Proofs.YticcnlpfmekagaaGreat
section
open Go Go.Proofs Go.RowKit Go.Lib
section
variable {P : Program} {ops : Array Oper} {o : Oper} {a : Act} {w : World} {rest : List Oper} {Q : Exit → Act → World → Prop}
variable {T : TypeId} {x y : Operand} {S : List Nat} {w0 : World} {M R : List Res} {E bytes : Nat} {z : Value}
theorem wl_mkzero (c : Nat) {kl kc : IntKind} (hgd : o.guard = none) (hop : o.op = .makeSlice T x y) (hx : a.eval x = .int kl (c : Int)) (hy : a.eval y = .int kc (c : Int)) (el : Elem P T E 1 bytes z) (hz1 : z.cells = #[z]) (hst : St S w0 w M R) (hb : bytes * c ≤ 281474976710656) (hc : c ≤ maxLen)
 (hK : ∀ g w', St S w0 w' (Rs.row E 1 (.slice (some ⟨g, 0, none⟩) c c) c (List.replicate c z) :: M) R → w.heap.size ≤ g → wpList P ops Q rest (a.put o.dst (.slice (some ⟨g, 0, none⟩) c c)) w') : wpList P ops Q (o :: rest) a w := by
 obtain ⟨i, hi, hz, hsz, hby⟩ := el.info
 subst hby
 have hc' : (c : Int) ≤ 9223372036854775807 := by unfold maxLen at hc; omega
 have hb' : (i.bytes : Int) * (c : Int) ≤ 281474976710656 := by
  have h : ((i.bytes * c : Nat) : Int) ≤ 281474976710656 := by omega
  rwa [Int.natCast_mul] at h
 have hrun := run_make (P := P) w T E i z el.und hi hz kl kc c c (by omega) (Int.le_refl _) hb' hc'
 simp only [Int.toNat_natCast] at hrun
 have hrep : (madeCells z.cells (c * i.size)).toList = List.replicate c z := by rw [hz1, hsz, Nat.mul_one]; exact toList_madeCells_one z c
 refine wl_val (v := .slice (some ⟨w.heap.size, 0, none⟩) c c) (w' := w.alloc (.cells (madeCells z.cells (c * i.size)) E)) hgd ?_ (hK _ _ ?_ (Nat.le_refl _))
 · simp only [execOp, hop, hx, hy, Sem.run_bind, hrun, Result.andThen_ok]; rfl
 · have := hst.made E 1 c (madeCells z.cells (c * i.size)).toList (by rw [hrep]; simp) hc
   rw [← hrep]
   simpa using this
end
theorem cntS_le (L : List Shr) (id : ByteArray) : cntS L id ≤ sumP L := by
 unfold cntS sumP
 induction L with
 | nil => simp
 | cons x L ih =>
   simp only [List.map_cons, List.sum_cons]
   split <;> omega
def CntPost (w : World) (N : Nat) (Ms : List Mem) (S : List Shr) (e : Ending) (w' : World) : Prop :=
 ∃ g, e = .returned (.tuple #[.slice (some ⟨g, 0, none⟩) N N, .int .i64 0, .bool true]) ∧ w'.ownsRow 0 3 1 (.slice (some ⟨g, 0, none⟩) N N) N (cntRow0 Ms S) ∧ Kept [] w w'
def C1 (w2 : World) (Ts : List Shr) (nt : Nat) (t i : Value) (wr : World) : Prop := wr = w2 ∧ ∃ k : Nat, i = .int .i64 k ∧ k ≤ nt ∧ t = .int .i64 ((sumP (Ts.take k) : Nat) : Int)
def C2 (w : World) (g N : Nat) (Ms : List Mem) (Ts S : List Shr) (np : Nat) (u t i : Value) (wr : World) : Prop :=
 u = .slice (some ⟨g, 0, none⟩) N N ∧ ∃ k : Nat, i = .int .i64 k ∧ k ≤ np ∧ t = .int .i64 ((sumP Ts : Int) - (sumP (S.take k) : Int)) ∧ St [] w wr [Rs.row 3 1 (.slice (some ⟨g, 0, none⟩) N N) N (cntRow0 Ms (S.take k))] []
def C3 (B : World) (jx N : Nat) (t i : Value) (V : World) : Prop := Kept [] B V ∧ ∃ k : Nat, i = .int .i64 k ∧ k ≤ N ∧ t = .int .i64 (if jx < k then (jx : Int) else -1)
def C4 (w B : World) (g N : Nat) (Ms : List Mem) (L : List Shr) (mem : ByteArray) (T0 : Int) (pn : Nat) (u t i : Value) (V : World) : Prop :=
 u = .slice (some ⟨g, 0, none⟩) N N ∧ ∃ k : Nat, i = .int .i64 k ∧ k ≤ pn ∧ t = .int .i64 (T0 - k) ∧ St [] w V [Rs.row 3 1 (.slice (some ⟨g, 0, none⟩) N N) N (cntRow Ms L mem k)] [] ∧ Kept [g] B V
def C5 (V0 : World) (Ts : List Shr) (nt : Nat) (t : ByteArray) (z : Int) (f i : Value) (V : World) : Prop := Kept [] V0 V ∧ ∃ n : Nat, i = .int .i64 n ∧ n ≤ nt ∧ ∃ b : Bool, f = .bool b ∧ ((t, z) ∈ allT (Ts.take n) → b = true)
def C6 (V0 : World) (Ts : List Shr) (n : Nat) (y : Shr) (yn : Nat) (t : ByteArray) (z : Int) (f i : Value) (V : World) : Prop := Kept [] V0 V ∧ ∃ m : Nat, i = .int .i64 m ∧ m ≤ yn ∧ ∃ b : Bool, f = .bool b ∧ ((t, z) ∈ allT (Ts.take n) → b = true) ∧ (y.top = t → z ∈ y.parts.take m → b = true)
def C7 (V0 : World) (c l : Value) (b : Nat) (u t i : Value) (V : World) : Prop := u = c ∧ t = l ∧ Kept [] V0 V ∧ ∃ n : Nat, i = .int .i64 n ∧ n ≤ b
theorem allT_snoc {Ts : List Shr} {n : Nat} {y : Shr} (hy : Ts[n]? = some y) (t : ByteArray) (z : Int) : (t, z) ∈ allT (Ts.take (n + 1)) ↔ (t, z) ∈ allT (Ts.take n) ∨ (y.top = t ∧ z ∈ y.parts) := by
 rw [take_snoc' hy, allT_mem, allT_mem]
 constructor
 · rintro ⟨x, hx, h1, h2⟩
   rcases Zap.1 hx with hx | hx
   · exact .inl ⟨x, hx, h1, h2⟩
   · simp only [Zmc, Znn, or_false] at hx
     subst hx; exact .inr ⟨h1, h2⟩
 · rintro (⟨x, hx, h1, h2⟩ | ⟨h1, h2⟩)
   · exact ⟨x, List.mem_append_left _ hx, h1, h2⟩
   · exact ⟨y, List.mem_append_right _ (by simp), h1, h2⟩
theorem counted_any (am : Option Addr) (N cm : Nat) (Ms : List Mem) (at' : Option Addr) (nt ct : Nat) (Ts : List Shr) (ap : Option Addr) (np cp : Nat) (S : List Shr) (w : World) (hm : MemsAt w (.slice am N cm) Ms) (hN : Ms.length = N) (ht : ShrsAt w (.slice at' nt ct) Ts) (hT : Ts.length = nt)
 (hS : ShrsAt w (.slice ap np cp) S) (hn : S.length = np) (hok : CntOk Ms Ts S) (hb : N ≤ 1000 ∧ nt ≤ 1000) (hbt : ∀ m ∈ Ms, m.tops.length ≤ maxLen) (hpt : ∀ x ∈ Ts, x.parts.length ≤ 1000) :
 Calls Tryz.prog 17 #[.slice am N cm, .slice at' nt ct, .slice ap np cp] w (CntPost w N Ms S) := by
 have hst0 : St [] w w [] [] := St.start0 (Ow.nil w)
 have hb1 := hok.b1
 have hb2 := hok.b2
 rw [hn] at hb2
 have hsT : ∀ k, sumP (Ts.take k) ≤ 1000 := fun k => by have := sumP_take_le Ts k; omega
 have hsS : ∀ k, sumP (S.take k) ≤ sumP Ts := fun k => by have := sumP_take_le S k; have := hok.all; omega
 have HM := Zhd (Zan hm (Zan hN (Zan ht (Zan hT (Zan hS (Zan hn (Zan hok (Zan hbt hpt)))))))); clear hm hN ht hT hS hn hok hbt hpt
 go_enter Tryz.func17, Tryz.ntmps17
 go_upto_region 2 with (first
  | (refine wl_mkzero N rfl rfl rfl rfl elInt rfl hst0 (by omega) (by unfold maxLen; omega) ?_
     intro g w2 hst2 hg2)
  | fail)
 have hz0 : List.replicate N (Value.int .i64 0) = cntRow0 Ms [] := by
  apply List.ext_getElem?
  intro j
  unfold cntRow0
  rw [List.getElem?_map, List.getElem?_replicate]
  have := HM.out.2.1
  by_cases h : j < N
  · rw [if_pos h, List.getElem?_eq_getElem (by omega)]; rfl
  · rw [if_neg h, List.getElem?_eq_none (by omega)]; rfl
 rw [hz0] at hst2
 have H2 := Zhd hst2; clear hst2 hz0 hst0
 go_wp2_with fail
 go_loopw [7, 9] (fun t i wr => C1 w2 Ts nt t i wr) (fun _ i _ => nt - (intOf i).toNat)
 case atStart => exact ⟨rfl, 0, rfl, Nat.zero_le _, by simp [sumP]⟩
 case round =>
  obtain ⟨rfl, k, rfl, hk, rfl⟩ := hrel
  by_cases hkn : k < nt
  · obtain ⟨t, htk⟩ : ∃ t, Ts[k]? = some t := ⟨_, List.getElem?_eq_getElem (by have := HM.out.2.2.2.1; omega)⟩
    obtain ⟨gt, ot, va, vc, rfl, hv, hct⟩ := shr_at HM.out.2.2.1 HM.out.2.2.2.1 htk
    obtain ⟨d0, d1, d2⟩ := hct _ H2.out.kept
    have hsn := sumP_snoc htk
    have h1 := hsT k
    have h2 := hsT (k + 1)
    have hki : (k : Int) < (nt : Int) := by omega
    have hw : IntKind.i64.wrap (((sumP (Ts.take k) : Nat) : Int) + (t.parts.length : Int)) = ((sumP (Ts.take (k + 1)) : Nat) : Int) := by rw [IntWalk.i64_in _ (by omega)]; omega
    generalize t.parts.length = tn at *
    generalize sumP (Ts.take k) = s0 at *
    clear hct hv htk
    go_wp2_with fail
    exact ⟨⟨rfl, k + 1, by go_num, by omega, by congr 1; omega⟩, by simp [intOf]; omega⟩
  · obtain rfl : nt = k := by omega
    have hall : sumP (Ts.take nt) = sumP Ts := by rw [List.take_of_length_le (by have := HM.out.2.2.2.1; omega)]
    rw [hall]
    clear hall
    have h20 : C2 w g N Ms Ts S np (.slice (some ⟨g, 0, none⟩) N N) (.int .i64 (sumP Ts : Int)) (.int .i64 0) wr := ⟨rfl, 0, rfl, Nat.zero_le _, by simp [sumP], H2.out⟩
    have H20 := Zhd h20; clear h20
    go_wp2_with fail
    go_loopw [6, 7, 10] (fun u t i wr => C2 w g N Ms Ts S np u t i wr) (fun _ _ i _ => np - (intOf i).toNat)
    case atStart => exact H20.out
    case round =>
     clear H20
     obtain ⟨rfl, i, rfl, hi, rfl, hst⟩ := hrel
     by_cases hin : i < np
     · obtain ⟨x, hx⟩ : ∃ x, S[i]? = some x := ⟨_, List.getElem?_eq_getElem (by have := HM.out.2.2.2.2.2.1; omega)⟩
       obtain ⟨gp, op, va, vc, rfl, hv, hcx⟩ := shr_at HM.out.2.2.2.2.1 HM.out.2.2.2.2.2.1 hx
       have hxS := List.mem_of_getElem? hx
       obtain ⟨m, hmM, hmx⟩ := List.mem_map.1 (HM.out.2.2.2.2.2.2.1.mem x hxS)
       obtain ⟨jx, hjx⟩ := List.mem_iff_getElem?.1 hmM
       have hjN : jx < N := by have := (List.getElem?_eq_some_iff.1 hjx).1; have := HM.out.2.1; omega
       obtain ⟨d0, d1, d2⟩ := hcx wr hst.kept
       have hii : (i : Int) < (np : Int) := by omega
       have hps := HM.out.2.2.2.2.1.parts x hxS
       have hrow0 := cntRow_zero Ms (S.take i) x.mem
       have hrow1 := cntRow_next Ms hx
       have hsn := sumP_snoc hx
       obtain ⟨pn, hpn⟩ : ∃ pn, x.parts.length = pn := ⟨_, rfl⟩
       rw [hpn] at d2 hcx hrow1 hsn
       have k1 := fun o => (Kept.refl [] wr).alloc o
       have f0 := fun o => (k1 o).cell d0 (by simp)
       have f1 := fun o => (k1 o).cell d1 (by simp)
       have f2 := fun o => (k1 o).cell d2 (by simp)
       have HX := Zhd (Zan hx (Zan hcx (Zan hv (Zan hxS (Zan hjx (Zan hmx (Zan hps (Zan hrow0 (Zan hrow1 (Zan hsn (Zan hpn hst))))))))))); clear hx hcx hv hxS hjx hmx hps hrow0 hrow1 hsn hpn hst hmM k1
       have hstB := HX.out.2.2.2.2.2.2.2.2.2.2.2.alloc (.cells #[.string x.mem, .string x.top, .slice va pn vc] 33)
       have hgb : g < wr.heap.size := by
        rcases (show wr.ownsRow 0 3 1 (.slice (some ⟨g, 0, none⟩) N N) N (cntRow0 Ms (S.take i)) from HX.out.2.2.2.2.2.2.2.2.2.2.2.m 0 rfl).2 with ⟨h, _⟩ | ⟨g', cap, cur, h, _, h2, _⟩
        · cases h
        · cases h; exact (Array.getElem?_eq_some_iff.1 h2).1
       have bx0 : (wr.alloc (.cells #[.string x.mem, .string x.top, .slice va pn vc] 33)).cell? ⟨wr.heap.size, 0, none⟩ = some (.string x.mem) := by simp [go_sem]
       have bx1 : (wr.alloc (.cells #[.string x.mem, .string x.top, .slice va pn vc] 33)).cell? ⟨wr.heap.size, 1, none⟩ = some (.string x.top) := by simp [go_sem]
       have bx2 : (wr.alloc (.cells #[.string x.mem, .string x.top, .slice va pn vc] 33)).cell? ⟨wr.heap.size, 2, none⟩ = some (.slice va pn vc) := by simp [go_sem]
       go_upto_region 10 with fail
       generalize wr.alloc (.cells #[.string x.mem, .string x.top, .slice va pn vc] 33) = B at *
       generalize wr.heap.size = b at *
       have HB := Zhd (Zan hstB (Zan hgb (Zan bx0 (Zan bx1 bx2)))); clear hstB hgb bx0 bx1 bx2 f0 f1 f2 d0 d1 d2
       go_wp2_with fail
       go_loopw [12, 13] (fun t i V => C3 B jx N t i V) (fun _ i _ => N - (intOf i).toNat)
       case atStart => exact ⟨Kept.refl _ _, 0, rfl, Nat.zero_le _, by simp⟩
       case round =>
        obtain ⟨hkV, k, rfl, hk2, rfl⟩ := hrel
        by_cases hkN : k < N
        · obtain ⟨mk, hmk⟩ : ∃ mk, Ms[k]? = some mk := ⟨_, List.getElem?_eq_getElem (by have := HM.out.2.1; omega)⟩
          obtain ⟨gm, om, ta, tc, da, dc, oa, oc, rfl, _, _, _, hcm⟩ := mem_at HM.out.1 HM.out.2.1 hmk
          have c0 := (hcm wr (HB.out.1.kept.trans hkV (by simp) (by simp))).1
          have b0 := hkV.cell HB.out.2.2.1 (by simp)
          have hkN' : (k : Int) < (N : Int) := by omega
          by_cases hkj : k = jx
          · subst hkj
            have e : mk.id = x.mem := by
             have := HX.out.2.2.2.2.1
             rw [hmk] at this; cases this; exact HX.out.2.2.2.2.2.1
            have hse : (mk.id.toList == x.mem.toList) = true := beq_iff_eq.2 (by rw [e])
            have e2 : (if k < k + 1 then (k : Int) else -1) = (k : Int) := if_pos (by omega)
            clear hmk hcm
            go_wp2_with fail
            go_quiet (fail)
            go_wp2_with fail
            exact ⟨⟨hkV.drewN _, k + 1, by go_num, by omega, by rw [e2]⟩, by simp [intOf]; omega⟩
          · have e : mk.id ≠ x.mem := fun e => hkj (by
             have h1 : (ids Ms)[k]? = some mk.id := by unfold ids; rw [List.getElem?_map, hmk]; rfl
             have h2 : (ids Ms)[jx]? = some m.id := by unfold ids; rw [List.getElem?_map, HX.out.2.2.2.2.1]; rfl
             exact (List.getElem?_inj (by unfold ids; rw [List.length_map]; have := HM.out.2.1; omega) HM.out.2.2.2.2.2.2.1.nd).1 (by rw [h1, h2, e, HX.out.2.2.2.2.2.1]))
            have hse : (mk.id.toList == x.mem.toList) = false := beq_eq_false_iff_ne.2 (fun h => e ((ba_inj _ _).1 h))
            have e2 : (if jx < k + 1 then (jx : Int) else -1) = (if jx < k then (jx : Int) else -1) := by
             by_cases h : jx < k
             · rw [if_pos h, if_pos (by omega)]
             · rw [if_neg h, if_neg (by omega)]
            clear hmk hcm
            generalize (if jx < k then (jx : Int) else -1) = atv at *
            go_wp2_with fail
            go_quiet (fail)
            go_wp2_with fail
            exact ⟨⟨hkV.drewN _, k + 1, by go_num, by omega, by rw [e2]⟩, by simp [intOf]; omega⟩
        · obtain rfl : N = k := by omega
          rw [if_pos hjN]
          go_upto_region 16 with fail
          go_cut [73] (fun t W => t = .bool false ∧ Kept [] B W)
          case first =>
           obtain ⟨gm, om, ta, tc, da, dc, oa, oc, rfl, e1, e2, e3, hcm⟩ := mem_at HM.out.1 HM.out.2.1 HX.out.2.2.2.2.1
           have hmM := List.mem_of_getElem? HX.out.2.2.2.2.1
           have hwt := fun w' (k' : Kept [] w w') => wants_yes m x.top w' ((HM.out.1.each m hmM).kept0 k') (HM.out.2.2.2.2.2.2.2.1 m hmM) (HM.out.2.2.2.2.2.2.1.wants x HX.out.2.2.2.1 m hmM)
           have hkw := HB.out.1.kept.trans hkV (U := []) (by simp) (by simp)
           have hcs := fun W (hW : Kept [] wr W) => Zan (hcm W (hkw.trans hW (U := []) (by simp) (by simp))) (hW.cell (hkV.cell HB.out.2.2.2.1 (by simp)) (by simp))
           have HCS := Zhd hcs; clear hcs hcm hmM
           have hneg : decide ((jx : Int) < 0) = false := decide_eq_false (by omega)
           clear HX HM HB H2
           obtain ⟨id, ver, tv, tops, dv, data, ov, owned, gen, rack, has⟩ := m
           simp only at e1 e2 e3 HCS hwt
           subst e1 e2 e3
           simp only [memCells] at hwt
           have HW := Zhd hwt; clear hwt
           generalize tops.length = tn at *
           generalize data.length = dn at *
           generalize owned.length = on at *
           obtain ⟨⟨c0, c1, c2, c3, c4, c5, c6, c7⟩, ct1⟩ := HCS.out wr (Kept.refl _ _)
           go_region_law
            (first
              | (go_simp
                 go_at_call 42
                 refine (HW.out _ hkw.drew).mono ?_
                 rintro e w1 ⟨rfl, hk1⟩
                 have hk1' : Kept [] wr w1 := hk1.of_drew
                 go_wp2_with fail)
              | fail)
           all_goals
            go_wp2_with fail
            go_meet
            exact ⟨rfl, hkV.trans hk1' (by simp) (by simp)⟩
          case rest =>
           obtain ⟨rfl, hkB⟩ := hcut
           have h40 : C4 w B g N Ms (S.take i) x.mem ((sumP Ts : Int) - (sumP (S.take i) : Int)) pn (.slice (some ⟨g, 0, none⟩) N N) (.int .i64 ((sumP Ts : Int) - (sumP (S.take i) : Int))) (.int .i64 0) wc :=
            ⟨rfl, 0, rfl, Nat.zero_le _, by simp, by rw [HX.out.2.2.2.2.2.2.2.1]; exact HB.out.1.kept0 hkB, hkB.mono (by simp)⟩
           have H40 := Zhd h40; clear h40 hkB hkV
           go_wp2_with fail
           go_loopw [6, 7, 14] (fun u t i' V => C4 w B g N Ms (S.take i) x.mem ((sumP Ts : Int) - (sumP (S.take i) : Int)) pn u t i' V) (fun _ _ i' _ => pn - (intOf i').toNat)
           case atStart => exact H40.out
           case round =>
            clear H40
            obtain ⟨rfl, k3, rfl, hk3, rfl, hst, hkg⟩ := hrel
            have hbg : b ∉ [g] := by have := HB.out.2.1; simp; omega
            have bx1 := hkg.cell HB.out.2.2.2.1 hbg
            have bx2 := hkg.cell HB.out.2.2.2.2 hbg
            have hkw := hst.kept
            by_cases hkp : k3 < pn
            · obtain ⟨z, hz⟩ : ∃ z, x.parts[k3]? = some z := ⟨_, List.getElem?_eq_getElem (by have := HX.out.2.2.2.2.2.2.2.2.2.2.1; omega)⟩
              obtain ⟨bv, ov, cv, hva, hclv⟩ : ∃ b off cap, Value.slice va pn vc = .slice (some ⟨b, off, none⟩) pn cap ∧ ∀ j u, (i32s x.parts)[j]? = some u → w.cell? ⟨b, off + j, none⟩ = some u := by
               have h := HX.out.2.2.2.2.2.2.1.2.1.2.2
               rw [HX.out.2.2.2.2.2.2.2.2.2.2.1, HX.out.2.2.1, HX.out.2.2.2.2.2.2.2.2.2.2.1] at h
               rcases h with ⟨_, _, _, h0⟩ | h
               · omega
               · exact h
              simp only [Value.slice.injEq] at hva
              obtain ⟨rfl, _, rfl⟩ := hva
              have ez := hkw.cell (hclv k3 (.int .i32 z) (by simp [i32s, hz])) (by simp)
              have hkp' : (k3 : Int) < (pn : Int) := by omega
              generalize wr = V0 at *
              have hzt := HM.out.2.2.2.2.2.2.1.top x HX.out.2.2.2.1 z (List.mem_of_getElem? hz)
              have hbf : ∀ V, Kept [] V0 V → V.cell? ⟨b, 1, none⟩ = some (.string x.top) ∧ V.cell? ⟨b, 2, none⟩ = some (.slice (some ⟨bv, ov, none⟩) pn vc) ∧ V.cell? ⟨bv, ov + k3, none⟩ = some (.int .i32 z) := fun V hV => ⟨hV.cell bx1 (by simp), hV.cell bx2 (by simp), hV.cell ez (by simp)⟩
              have HK := Zhd (Zan hst (Zan hkg (Zan hz (Zan hzt (Zan hbf hkw))))); clear hst hkg hz hzt hbf hkw bx1 bx2 ez hclv
              obtain ⟨e1, e2, e3⟩ := HK.out.2.2.2.2.1 V0 (Kept.refl _ _)
              go_upto_block 8 with fail
              clear e1 e2 e3
              go_cut [15] (fun f V => f = .bool true ∧ Kept [] V0 V)
              case first =>
               go_wp2_with fail
               go_loopw [15, 16] (fun f n V => C5 V0 Ts nt x.top z f n V) (fun _ n _ => nt - (intOf n).toNat)
               case atStart => exact ⟨Kept.refl _ _, 0, rfl, Nat.zero_le _, false, rfl, by simp [allT]⟩
               case round =>
                obtain ⟨hkV, n, rfl, hn, fb, rfl, hfb⟩ := hrel
                by_cases hnn : n < nt
                · obtain ⟨y, hy⟩ : ∃ y, Ts[n]? = some y := ⟨_, List.getElem?_eq_getElem (by have := HM.out.2.2.2.1; omega)⟩
                  obtain ⟨gt, ot, ya, yc, rfl, hv, hct⟩ := shr_at HM.out.2.2.1 HM.out.2.2.2.1 hy
                  have hnn' : (n : Int) < (nt : Int) := by omega
                  have hyp := HM.out.2.2.1.parts y (List.mem_of_getElem? hy)
                  have hyb := HM.out.2.2.2.2.2.2.2.2 y (List.mem_of_getElem? hy)
                  have hsn := allT_snoc hy x.top z
                  obtain ⟨yn, hyn⟩ : ∃ yn, y.parts.length = yn := ⟨_, rfl⟩
                  rw [hyn] at hct hyb
                  have hcy := fun V (hV : Kept [] V0 V) => hct V (HK.out.2.2.2.2.2.trans hV (U := []) (by simp) (by simp))
                  have HY := Zhd (Zan hcy (Zan hyp (Zan hsn (Zan hyn hv)))); clear hcy hyp hsn hyn hct hv hy
                  go_wp2_with fail
                  go_loopw [15, 17] (fun f m V => C6 V0 Ts n y yn x.top z f m V) (fun _ m _ => yn - (intOf m).toNat)
                  case atStart => exact ⟨hkV, 0, rfl, Nat.zero_le _, fb, rfl, hfb, by simp⟩
                  case round =>
                   clear hkV hfb
                   obtain ⟨hkV, m', rfl, hm', fb', rfl, hf1, hf2⟩ := hrel
                   obtain ⟨q0, q1, q2⟩ := HY.out.1 wr hkV
                   obtain ⟨bx1, bx2, ez⟩ := HK.out.2.2.2.2.1 wr hkV
                   by_cases hmy : m' < yn
                   · obtain ⟨v, hv⟩ : ∃ v, y.parts[m']? = some v := ⟨_, List.getElem?_eq_getElem (by have := HY.out.2.2.2.1; omega)⟩
                     obtain ⟨by', oy, cy, hvy, hcly⟩ : ∃ b off cap, Value.slice ya yn yc = .slice (some ⟨b, off, none⟩) yn cap ∧ ∀ j u, (i32s y.parts)[j]? = some u → w.cell? ⟨b, off + j, none⟩ = some u := by
                      have h := HY.out.2.1.2.1.2.2
                      rw [HY.out.2.2.2.1, HY.out.2.2.2.2, HY.out.2.2.2.1] at h
                      rcases h with ⟨_, _, _, h0⟩ | h
                      · omega
                      · exact h
                     simp only [Value.slice.injEq] at hvy
                     obtain ⟨rfl, _, rfl⟩ := hvy
                     have ev := (HK.out.2.2.2.2.2.trans hkV (U := []) (by simp) (by simp)).cell (hcly m' (.int .i32 v) (by simp [i32s, hv])) (by simp)
                     have hmy' : (m' : Int) < (yn : Int) := by omega
                     have htk := take_snoc' hv
                     have HF := Zhd (Zan hf1 (Zan hf2 htk)); clear hf1 hf2 htk hcly hv
                     cases fb' with
                     | true =>
                       go_wp2_with fail
                       go_quiet (fail)
                       go_wp2_with fail
                       exact ⟨⟨hkV.drewN _, m' + 1, by go_num, by omega, true, rfl, fun _ => rfl, fun _ _ => rfl⟩, by simp [intOf]; omega⟩
                     | false =>
                       by_cases het : y.top = x.top
                       · have hse : (y.top.toList == x.top.toList) = true := beq_iff_eq.2 (by rw [het])
                         go_wp2_with fail
                         go_quiet (fail)
                         go_wp2_with fail
                         refine ⟨⟨hkV.drewN _, m' + 1, by go_num, by omega, (v == z), rfl, fun h => absurd (HF.out.1 h) (by simp), fun h1 h2 => ?_⟩, by simp [intOf]; omega⟩
                         rw [HF.out.2.2] at h2
                         rcases Zap.1 h2 with h2 | h2
                         · exact absurd (HF.out.2.1 h1 h2) (by simp)
                         · simp only [Zmc, Znn, or_false] at h2
                           simp [h2]
                       · have hse : (y.top.toList == x.top.toList) = false := beq_eq_false_iff_ne.2 (fun h => het ((ba_inj _ _).1 h))
                         go_wp2_with fail
                         go_quiet (fail)
                         go_wp2_with fail
                         exact ⟨⟨hkV.drewN _, m' + 1, by go_num, by omega, false, rfl, fun h => absurd (HF.out.1 h) (by simp), fun h1 _ => absurd h1 het⟩, by simp [intOf]; omega⟩
                   · obtain rfl : yn = m' := by omega
                     have hnx : (x.top, z) ∈ allT (Ts.take (n + 1)) → fb' = true := fun h => by
                      rcases HY.out.2.2.1.1 h with h | ⟨h1, h2⟩
                      · exact hf1 h
                      · exact hf2 h1 (by rw [List.take_of_length_le (by have := HY.out.2.2.2.1; omega)]; exact h2)
                     have HNX := Zhd hnx; clear hnx hf1 hf2
                     go_wp2_with fail
                     exact ⟨⟨hkV, n + 1, by go_num, by omega, fb', rfl, HNX.out⟩, by simp [intOf]; omega⟩
                · obtain rfl : nt = n := by omega
                  have : fb = true := hfb (by rw [List.take_of_length_le (by have := HM.out.2.2.2.1; omega)]; exact HK.out.2.2.2.1)
                  subst this
                  go_wp2_with fail
                  go_meet
                  exact ⟨rfl, hkV⟩
              case rest =>
               obtain ⟨rfl, hk1⟩ := hcut
               go_upto_block 12 with fail
               go_cut [6, 7] (fun u t V => u = .slice (some ⟨g, 0, none⟩) N N ∧ t = .int .i64 ((sumP Ts : Int) - (sumP (S.take i) : Int) - (k3 : Int)) ∧ Kept [] V0 V)
               case first =>
                go_wp2_with fail
                go_loopw [6, 7, 18] (fun u t n V => C7 V0 (.slice (some ⟨g, 0, none⟩) N N) (.int .i64 ((sumP Ts : Int) - (sumP (S.take i) : Int) - (k3 : Int))) (i + 1) u t n V) (fun _ _ n _ => i + 1 - (intOf n).toNat)
                case atStart => exact ⟨rfl, rfl, hk1, 0, rfl, Nat.zero_le _⟩
                case round =>
                 clear hk1
                 obtain ⟨rfl, rfl, hkV, n, rfl, hn⟩ := hrel
                 by_cases hni : n ≤ i
                 · obtain ⟨y, hy⟩ : ∃ y, S[n]? = some y := ⟨_, List.getElem?_eq_getElem (by have := HM.out.2.2.2.2.2.1; omega)⟩
                   obtain ⟨gp2, op2, ya, yc, hpe, hv, hcy0⟩ := shr_at HM.out.2.2.2.2.1 HM.out.2.2.2.2.2.1 hy
                   cases hpe
                   have hni' : (n : Int) ≤ (i : Int) := by omega
                   have hyp := HM.out.2.2.2.2.1.parts y (List.mem_of_getElem? hy)
                   have hnd := fun m' v hv hlt ht => no_dbl (n := n) (i := i) (m := m') (k := k3) (x := x) (y := y) (v := v) (z := z) HM.out.2.2.2.2.2.2.1.flat hy HX.out.1 hv HK.out.2.2.1 hlt ht
                   obtain ⟨yn, hyn⟩ : ∃ yn, y.parts.length = yn := ⟨_, rfl⟩
                   rw [hyn] at hcy0
                   have hcy := fun V (hV : Kept [] V0 V) => hcy0 V (HK.out.2.2.2.2.2.trans hV (U := []) (by simp) (by simp))
                   have hynb : yn ≤ 1000 := by
                    have h1 := sumP_take_le S (n + 1)
                    have h2 := sumP_snoc hy
                    have h3 := HM.out.2.2.2.2.2.2.1.all
                    omega
                   have HY := Zhd (Zan hcy (Zan hyp (Zan hnd (Zan hyn hv)))); clear hcy hyp hnd hyn hcy0 hv hy
                   go_wp2_with fail
                   clear hni'
                   go_loopw [6, 7, 19] (fun u t m V => C7 V0 (.slice (some ⟨g, 0, none⟩) N N) (.int .i64 ((sumP Ts : Int) - (sumP (S.take i) : Int) - (k3 : Int))) yn u t m V) (fun _ _ m _ => yn - (intOf m).toNat)
                   case atStart => exact ⟨rfl, rfl, hkV, 0, rfl, Nat.zero_le _⟩
                   case round =>
                    clear hkV
                    obtain ⟨rfl, rfl, hkV, m', rfl, hm'⟩ := hrel
                    obtain ⟨q0, q1, q2⟩ := HY.out.1 wr hkV
                    obtain ⟨bx1, bx2, ez⟩ := HK.out.2.2.2.2.1 wr hkV
                    by_cases hgo : m' < yn
                    · obtain ⟨v, hv⟩ : ∃ v, y.parts[m']? = some v := ⟨_, List.getElem?_eq_getElem (by have := HY.out.2.2.2.1; omega)⟩
                      obtain ⟨by', oy, cy, hvy, hcly⟩ : ∃ b off cap, Value.slice ya yn yc = .slice (some ⟨b, off, none⟩) yn cap ∧ ∀ j u, (i32s y.parts)[j]? = some u → w.cell? ⟨b, off + j, none⟩ = some u := by
                       have h := HY.out.2.1.2.1.2.2
                       rw [HY.out.2.2.2.1, HY.out.2.2.2.2, HY.out.2.2.2.1] at h
                       rcases h with ⟨_, _, _, h0⟩ | h
                       · omega
                       · exact h
                      simp only [Value.slice.injEq] at hvy
                      obtain ⟨rfl, _, rfl⟩ := hvy
                      have ev := (HK.out.2.2.2.2.2.trans hkV (U := []) (by simp) (by simp)).cell (hcly m' (.int .i32 v) (by simp [i32s, hv])) (by simp)
                      have hmy' : (m' : Int) < (yn : Int) := by omega
                      have hvz : (n < i ∨ m' < k3) → y.top = x.top → v ≠ z := fun h => HY.out.2.2.1 m' v hv (by omega)
                      have HV := Zhd hvz; clear hvz hcly hv
                      by_cases hlt : n < i
                      · have hlt' : (n : Int) < (i : Int) := by omega
                        by_cases het : y.top = x.top
                        · have hse : (y.top.toList == x.top.toList) = true := beq_iff_eq.2 (by rw [het])
                          have hne : (v == z) = false := beq_eq_false_iff_ne.2 (HV.out (.inl hlt) het)
                          clear het
                          go_wp2_with fail
                          go_quiet (fail)
                          go_wp2_with fail
                          exact ⟨⟨rfl, rfl, hkV.drewN _, m' + 1, by go_num, by omega⟩, by simp [intOf]; omega⟩
                        · have hse : (y.top.toList == x.top.toList) = false := beq_eq_false_iff_ne.2 (fun h => het ((ba_inj _ _).1 h))
                          clear het
                          go_wp2_with fail
                          go_quiet (fail)
                          go_wp2_with fail
                          exact ⟨⟨rfl, rfl, hkV.drewN _, m' + 1, by go_num, by omega⟩, by simp [intOf]; omega⟩
                      · have hlt' : ¬ (n : Int) < (i : Int) := by omega
                        by_cases hmk : m' < k3
                        · have hmk' : (m' : Int) < (k3 : Int) := by omega
                          by_cases het : y.top = x.top
                          · have hse : (y.top.toList == x.top.toList) = true := beq_iff_eq.2 (by rw [het])
                            have hne : (v == z) = false := beq_eq_false_iff_ne.2 (HV.out (.inr hmk) het)
                            clear het
                            go_wp2_with fail
                            go_quiet (fail)
                            go_wp2_with fail
                            exact ⟨⟨rfl, rfl, hkV.drewN _, m' + 1, by go_num, by omega⟩, by simp [intOf]; omega⟩
                          · have hse : (y.top.toList == x.top.toList) = false := beq_eq_false_iff_ne.2 (fun h => het ((ba_inj _ _).1 h))
                            clear het
                            go_wp2_with fail
                            go_quiet (fail)
                            go_wp2_with fail
                            exact ⟨⟨rfl, rfl, hkV.drewN _, m' + 1, by go_num, by omega⟩, by simp [intOf]; omega⟩
                        · have hmk' : ¬ (m' : Int) < (k3 : Int) := by omega
                          go_wp2_with fail
                          exact ⟨⟨rfl, rfl, hkV, n + 1, by go_num, by omega⟩, by simp [intOf]; omega⟩
                    · have hmy' : ¬ (m' : Int) < (yn : Int) := by omega
                      go_wp2_with fail
                      exact ⟨⟨rfl, rfl, hkV, n + 1, by go_num, by omega⟩, by simp [intOf]; omega⟩
                 · go_wp2_with fail
                   go_meet
                   exact ⟨rfl, rfl, hkV⟩
               case rest =>
                obtain ⟨rfl, rfl, hk2⟩ := hcut
                have hst2 := HK.out.1.kept0 hk2
                have hcell := own_cell (j := jx) (hst2.m 0 rfl) (by rw [← HX.out.2.2.2.2.2.1]; exact cntRow_get HX.out.2.2.2.2.1)
                obtain ⟨hc1, hc2⟩ := hcell
                have hst3 := hst2.setRow 0 rfl jx (.int .i64 ((cntS (S.take i) m.id + k3 + 1 : Nat) : Int))
                simp only [Zs0] at hst3
                rw [← HX.out.2.2.2.2.2.1, cntRow_step HM.out.2.2.2.2.2.2.1.nd HX.out.2.2.2.2.1, HX.out.2.2.2.2.2.1] at hst3
                have hkg2 := (HK.out.2.1.trans hk2 (U := [g]) (by simp) (by simp)).setCell (p := ⟨g, jx, none⟩) (.int .i64 ((cntS (S.take i) m.id + k3 + 1 : Nat) : Int)) (by simp)
                rw [HX.out.2.2.2.2.2.1] at hkg2 hc1
                have hcv : ((cntS (S.take i) x.mem + k3 + 1 : Nat) : Int) = (cntS (S.take i) x.mem : Int) + (k3 : Int) + 1 := by omega
                rw [hcv] at hst3 hkg2
                clear hcv
                have hcb : cntS (S.take i) x.mem ≤ 1000 := by
                 have h1 : cntS (S.take i) x.mem ≤ sumP (S.take i) := cntS_le _ _
                 have := hsS i
                 omega
                have hkb := hsS (i + 1)
                have hsn := HX.out.2.2.2.2.2.2.2.2.2.1
                have HN := Zhd (Zan hst3 hkg2); clear hst3 hkg2 hst2 hk2
                generalize cntS (S.take i) x.mem = c0 at *
                go_wp2_with fail
                refine ⟨⟨rfl, k3 + 1, by go_num, by omega, ?_, ?_, ?_⟩, by simp [intOf]; omega⟩
                · congr 1; omega
                · exact HN.out.1
                · exact HN.out.2
            · obtain rfl : k3 = pn := by omega
              have hfin : C2 w g N Ms Ts S np (.slice (some ⟨g, 0, none⟩) N N) (.int .i64 ((sumP Ts : Int) - (sumP (S.take i) : Int) - (k3 : Int))) (.int .i64 ((i + 1 : Nat) : Int)) wr := ⟨rfl, i + 1, rfl, by omega, by rw [HX.out.2.2.2.2.2.2.2.2.2.1]; congr 1; omega, by rw [← HX.out.2.2.2.2.2.2.2.2.1]; exact hst⟩
              have HFN := Zhd hfin; clear hfin hst
              go_wp2_with fail
              first | exact ⟨HFN.out, by simp [intOf]; omega⟩ | (refine ⟨?_, by simp [intOf]; omega⟩; simpa using HFN.out)
     · obtain rfl : i = np := by omega
       have hall : sumP (S.take i) = sumP Ts := by rw [List.take_of_length_le (by have := HM.out.2.2.2.2.2.1; omega)]; exact HM.out.2.2.2.2.2.2.1.all
       rw [List.take_of_length_le (by have := HM.out.2.2.2.2.2.1; omega)] at hst
       rw [hall, Int.sub_self]
       clear hall
       have hfin : CntPost w N Ms S (.returned (.tuple #[.slice (some ⟨g, 0, none⟩) N N, .int .i64 0, .bool true])) wr := ⟨g, rfl, hst.m 0 rfl, hst.kept⟩
       have HFN := Zhd hfin; clear hfin hst
       go_wp2_with fail
       go_ret3
       exact HFN.out
end
end Go.Proofs.YticcnlpfmekagaaGreat
