/- Part 49 of the proof of the row: CntG. -/
import Derived.Test.YticcnlpfmekagaaGreatRc00
import Derived.Test.YticcnlpfmekagaaGreatRc48
set_option linter.unusedVariables false
set_option linter.unusedSimpArgs false
set_option maxRecDepth 100000
set_option maxHeartbeats 8000000
namespace Go.Proofs.YticcnlpfmekagaaGreat
section
open Go Go.Proofs Go.RowKit Go.Lib
structure CntGd (Ms : List Mem) (Ts S : List Shr) : Prop where
 mem : ∀ x ∈ S, ∃ m ∈ Ms, m.id = x.mem
 wants : ∀ x ∈ S, ∀ m ∈ Ms, m.id = x.mem → x.top ∈ m.tops
 top : ∀ x ∈ S, ∀ p ∈ x.parts, (x.top, p) ∈ allT Ts
 flat : (flatT (S.map trip)).Nodup
def CntPostG (w : World) (Ms : List Mem) (Ts S : List Shr) (e : Ending) (w' : World) : Prop :=
 ∃ (a : Option Addr) (n c : Nat) (k : Int) (b : Bool), e = .returned (.tuple #[.slice a n c, .int .i64 k, .bool b]) ∧ (b = true ↔ CntGd Ms Ts S) ∧ Kept [] w w'
theorem CntPostG.no {w : World} {Ms : List Mem} {Ts S : List Shr} {w' : World} (h : ¬ CntGd Ms Ts S) (k : Kept [] w w') : CntPostG w Ms Ts S (.returned (.tuple #[.slice none 0 0, .int .i64 0, .bool false])) w' :=
 ⟨none, 0, 0, 0, false, rfl, ⟨fun h => absurd h (by simp), fun h' => absurd h' h⟩, k⟩
theorem flatT_one (x : Shr) : flatT [trip x] = x.parts.map fun p => (x.top, p) := by simp [flatT, trip]
theorem flatT_take {S : List Shr} {i : Nat} {x : Shr} (hx : S[i]? = some x) : flatT ((S.take (i + 1)).map trip) = flatT ((S.take i).map trip) ++ x.parts.map fun p => (x.top, p) := by
 rw [take_snoc' hx, List.map_append, flatT_append, List.map_cons, List.map_nil, flatT_one]
theorem CntGd.nil (Ms : List Mem) (Ts : List Shr) : CntGd Ms Ts [] := ⟨fun _ h => (nomatch h), fun _ h => (nomatch h), fun _ h => (nomatch h), by simp [flatT]⟩
theorem mem_take_flat {S : List Shr} {i : Nat} {t : ByteArray} {z : Int} (h : (t, z) ∈ flatT ((S.take i).map trip)) : ∃ (n : Nat) (y : Shr) (m : Nat), S[n]? = some y ∧ n < i ∧ y.top = t ∧ y.parts[m]? = some z := by
 obtain ⟨mm, ps, h1, h2⟩ := flatT_mem.1 h
 obtain ⟨y, hy, e⟩ := List.mem_map.1 h1
 obtain ⟨n, hn⟩ := List.mem_iff_getElem?.1 hy
 have hni : n < i := by
  have := (List.getElem?_eq_some_iff.1 hn).1
  rw [List.length_take] at this; omega
 rw [List.getElem?_take_of_lt hni] at hn
 simp only [trip, Prod.mk.injEq] at e
 obtain ⟨_, e2, e3⟩ := e
 subst e2 e3
 obtain ⟨m, hm⟩ := List.mem_iff_getElem?.1 h2
 exact ⟨n, y, m, hn, hni, rfl, hm⟩
structure CntUp (Ms : List Mem) (Ts S : List Shr) (i : Nat) (x : Shr) (k : Nat) : Prop where
 pre : CntGd Ms Ts (S.take i)
 mem : ∃ m ∈ Ms, m.id = x.mem
 wants : ∀ m ∈ Ms, m.id = x.mem → x.top ∈ m.tops
 top : ∀ p ∈ x.parts.take k, (x.top, p) ∈ allT Ts
 flat : (flatT ((S.take i).map trip) ++ (x.parts.take k).map fun p => (x.top, p)).Nodup
theorem CntUp.start {Ms : List Mem} {Ts S : List Shr} {i : Nat} {x : Shr} (h : CntGd Ms Ts (S.take i)) (h1 : ∃ m ∈ Ms, m.id = x.mem) (h2 : ∀ m ∈ Ms, m.id = x.mem → x.top ∈ m.tops) : CntUp Ms Ts S i x 0 :=
 ⟨h, h1, h2, fun p hp => by simp at hp, by simpa using h.flat⟩
theorem CntUp.next {Ms : List Mem} {Ts S : List Shr} {i : Nat} {x : Shr} {k : Nat} {z : Int} (h : CntUp Ms Ts S i x k) (hx : S[i]? = some x) (hz : x.parts[k]? = some z) (ht : (x.top, z) ∈ allT Ts) (hno : ∀ (n : Nat) (y : Shr) (m : Nat) (v : Int), S[n]? = some y → y.parts[m]? = some v → (n < i ∨ (n = i ∧ m < k)) → y.top = x.top → v ≠ z) : CntUp Ms Ts S i x (k + 1) := by
 have e := take_snoc' hz
 refine ⟨h.pre, h.mem, h.wants, fun p hp => ?_, ?_⟩
 · rw [e] at hp
   rcases Zap.1 hp with hp | hp
   · exact h.top p hp
   · simp only [Zmc, Znn, or_false] at hp
     rw [hp]; exact ht
 · rw [e, List.map_append, ← List.append_assoc]
   refine List.nodup_append.2 ⟨h.flat, by simp, fun a ha b hb => ?_⟩
   simp only [List.map_cons, List.map_nil, Zmc, Znn, or_false] at hb
   subst hb
   intro e2; subst e2
   rcases Zap.1 ha with ha | ha
   · obtain ⟨n, y, m, h1, h2, h3, h4⟩ := mem_take_flat ha
     exact hno n y m z h1 h4 (.inl h2) h3 rfl
   · obtain ⟨p, hp, e3⟩ := List.mem_map.1 ha
     rw [Prod.mk.injEq] at e3
     obtain ⟨m, hm⟩ := List.mem_iff_getElem?.1 hp
     have hmk : m < k := by
      have := (List.getElem?_eq_some_iff.1 hm).1
      rw [List.length_take] at this; omega
     rw [List.getElem?_take_of_lt hmk, e3.2] at hm
     exact hno i x m z hx hm (.inr ⟨rfl, hmk⟩) rfl rfl
theorem CntUp.done {Ms : List Mem} {Ts S : List Shr} {i : Nat} {x : Shr} {k : Nat} (h : CntUp Ms Ts S i x k) (hx : S[i]? = some x) (hk : x.parts.length ≤ k) : CntGd Ms Ts (S.take (i + 1)) := by
 have ek : x.parts.take k = x.parts := List.take_of_length_le hk
 have h4 := h.top
 have h5 := h.flat
 rw [ek] at h4 h5
 have e := take_snoc' hx
 refine ⟨fun y hy => ?_, fun y hy => ?_, fun y hy => ?_, by rw [flatT_take hx]; exact h5⟩ <;> (rw [e] at hy; rcases Zap.1 hy with hy | hy)
 · exact h.pre.mem y hy
 · simp only [Zmc, Znn, or_false] at hy; subst hy; exact h.mem
 · exact h.pre.wants y hy
 · simp only [Zmc, Znn, or_false] at hy; subst hy; exact h.wants
 · exact h.pre.top y hy
 · simp only [Zmc, Znn, or_false] at hy; subst hy; exact h4
def IntRow (N : Nat) (L : List Value) : Prop := L.length = N ∧ ∀ j, j < N → ∃ c : Int, L[j]? = some (.int .i64 c)
theorem IntRow.set {N : Nat} {L : List Value} (h : IntRow N L) (j : Nat) (c : Int) : IntRow N (L.set j (.int .i64 c)) := by
 refine ⟨by rw [List.length_set]; exact h.1, fun i hi => ?_⟩
 rw [List.getElem?_set]
 by_cases e : j = i
 · subst e
   rw [if_pos rfl, if_pos (by rw [h.1]; exact hi)]; exact ⟨c, rfl⟩
 · rw [if_neg e]; exact h.2 i hi
def G1 (w2 : World) (nt : Nat) (t i : Value) (wr : World) : Prop := wr = w2 ∧ ∃ (k : Nat) (T : Int), i = .int .i64 k ∧ k ≤ nt ∧ t = .int .i64 T
def G2 (w : World) (g N : Nat) (Ms : List Mem) (Ts S : List Shr) (np : Nat) (u t i : Value) (wr : World) : Prop :=
 u = .slice (some ⟨g, 0, none⟩) N N ∧ ∃ (k : Nat) (T : Int) (L : List Value), i = .int .i64 k ∧ k ≤ np ∧ t = .int .i64 T ∧ CntGd Ms Ts (S.take k) ∧ IntRow N L ∧ St [] w wr [Rs.row 3 1 (.slice (some ⟨g, 0, none⟩) N N) N L] []
def AtOk (Ms : List Mem) (x : Shr) (k : Nat) (t : Int) : Prop := (t = -1 ∧ ∀ (j : Nat) m, j < k → Ms[j]? = some m → m.id ≠ x.mem) ∨ ∃ (j : Nat) (m : Mem), t = j ∧ j < k ∧ Ms[j]? = some m ∧ m.id = x.mem
def G3 (B : World) (Ms : List Mem) (x : Shr) (N : Nat) (t i : Value) (V : World) : Prop := Kept [] B V ∧ ∃ (k : Nat) (a : Int), i = .int .i64 k ∧ k ≤ N ∧ t = .int .i64 a ∧ AtOk Ms x k a
def G4 (w B : World) (g N : Nat) (Ms : List Mem) (Ts S : List Shr) (i0 : Nat) (x : Shr) (pn : Nat) (u t i : Value) (V : World) : Prop :=
 u = .slice (some ⟨g, 0, none⟩) N N ∧ ∃ (k : Nat) (T : Int) (L : List Value), i = .int .i64 k ∧ k ≤ pn ∧ t = .int .i64 T ∧ CntUp Ms Ts S i0 x k ∧ IntRow N L ∧ St [] w V [Rs.row 3 1 (.slice (some ⟨g, 0, none⟩) N N) N L] [] ∧ Kept [g] B V
def G5 (V0 : World) (Ts : List Shr) (nt : Nat) (t : ByteArray) (z : Int) (f i : Value) (V : World) : Prop := Kept [] V0 V ∧ ∃ n : Nat, i = .int .i64 n ∧ n ≤ nt ∧ ∃ b : Bool, f = .bool b ∧ (b = true ↔ (t, z) ∈ allT (Ts.take n))
def G6 (V0 : World) (Ts : List Shr) (n : Nat) (y : Shr) (yn : Nat) (t : ByteArray) (z : Int) (f i : Value) (V : World) : Prop := Kept [] V0 V ∧ ∃ m : Nat, i = .int .i64 m ∧ m ≤ yn ∧ ∃ b : Bool, f = .bool b ∧ (b = true ↔ ((t, z) ∈ allT (Ts.take n) ∨ (y.top = t ∧ z ∈ y.parts.take m)))
def NoBef (S : List Shr) (i k : Nat) (x : Shr) (z : Int) (n m : Nat) : Prop := ∀ (n' : Nat) (y : Shr) (m' : Nat) (v : Int), S[n']? = some y → y.parts[m']? = some v → (n' < n ∨ (n' = n ∧ m' < m)) → (n' < i ∨ (n' = i ∧ m' < k)) → y.top = x.top → v ≠ z
def G7 (V0 : World) (S : List Shr) (i k : Nat) (x : Shr) (z : Int) (c l : Value) (u t i' : Value) (V : World) : Prop := u = c ∧ t = l ∧ Kept [] V0 V ∧ ∃ n : Nat, i' = .int .i64 n ∧ n ≤ i + 1 ∧ NoBef S i k x z n 0
def G8 (V0 : World) (S : List Shr) (i k : Nat) (x : Shr) (z : Int) (n yn : Nat) (c l : Value) (u t i' : Value) (V : World) : Prop := u = c ∧ t = l ∧ Kept [] V0 V ∧ ∃ m : Nat, i' = .int .i64 m ∧ m ≤ yn ∧ NoBef S i k x z n m
theorem NoBef.zero {S : List Shr} {i k : Nat} {x : Shr} {z : Int} : NoBef S i k x z 0 0 := fun n' y m' v _ _ h => by omega
theorem NoBef.next {S : List Shr} {i k : Nat} {x : Shr} {z : Int} {n m : Nat} (h : NoBef S i k x z n m) {y : Shr} {v : Int} (hy : S[n]? = some y) (hv : y.parts[m]? = some v) (hne : y.top = x.top → v ≠ z) : NoBef S i k x z n (m + 1) := by
 intro n' y' m' v' h1 h2 h3 h4 h5
 rcases h3 with h3 | ⟨rfl, h3⟩
 · exact h n' y' m' v' h1 h2 (.inl h3) h4 h5
 · by_cases e : m' = m
   · subst e
     rw [hy] at h1; cases h1
     rw [hv] at h2; cases h2
     exact hne h5
   · exact h n' y' m' v' h1 h2 (.inr ⟨rfl, by omega⟩) h4 h5
theorem NoBef.row {S : List Shr} {i k : Nat} {x : Shr} {z : Int} {n m : Nat} (h : NoBef S i k x z n m) {y : Shr} (hy : S[n]? = some y) (hm : y.parts.length ≤ m ∨ (n = i ∧ k ≤ m) ∨ i < n) : NoBef S i k x z (n + 1) 0 := by
 intro n' y' m' v' h1 h2 h3 h4 h5
 by_cases e : n' = n
 · subst e
   rw [hy] at h1; cases h1
   have := (List.getElem?_eq_some_iff.1 h2).1
   exact h n' _ m' v' hy h2 (.inr ⟨rfl, by omega⟩) h4 h5
 · exact h n' y' m' v' h1 h2 (.inl (by omega)) h4 h5
theorem NoBef.all {S : List Shr} {i k : Nat} {x : Shr} {z : Int} {n : Nat} (h : NoBef S i k x z n 0) (hn : i < n) : ∀ (n : Nat) (y : Shr) (m : Nat) (v : Int), S[n]? = some y → y.parts[m]? = some v → (n < i ∨ (n = i ∧ m < k)) → y.top = x.top → v ≠ z :=
 fun n' y m v h1 h2 h3 h4 => h n' y m v h1 h2 (.inl (by omega)) h3 h4
theorem counted_g (am : Option Addr) (N cm : Nat) (Ms : List Mem) (at' : Option Addr) (nt ct : Nat) (Ts : List Shr) (ap : Option Addr) (np cp : Nat) (S : List Shr) (w : World) (hm : MemsAt w (.slice am N cm) Ms) (hN : Ms.length = N) (ht : ShrsAt w (.slice at' nt ct) Ts) (hT : Ts.length = nt)
 (hS : ShrsAt w (.slice ap np cp) S) (hn : S.length = np) (hnd : (ids Ms).Nodup) (hb : N ≤ 1000 ∧ nt ≤ 1000 ∧ np ≤ 1000000000) (hpS : ∀ x ∈ S, x.parts.length ≤ 1000000000) (hbt : ∀ m ∈ Ms, m.tops.length ≤ maxLen) (hpt : ∀ x ∈ Ts, x.parts.length ≤ 1000) :
 Calls Tryz.prog 17 #[.slice am N cm, .slice at' nt ct, .slice ap np cp] w (CntPostG w Ms Ts S) := by
 have hst0 : St [] w w [] [] := St.start0 (Ow.nil w)
 have HM := Zhd (Zan hm (Zan hN (Zan ht (Zan hT (Zan hS (Zan hn (Zan hnd (Zan hbt (Zan hpt hpS))))))))); clear hm hN ht hT hS hn hnd hbt hpt hpS
 go_enter Tryz.func17, Tryz.ntmps17
 go_upto_region 2 with (first
  | (refine wl_mkzero N rfl rfl rfl rfl elInt rfl hst0 (by omega) (by unfold maxLen; omega) ?_
     intro g w2 hst2 hg2)
  | fail)
 have hz0 : IntRow N (List.replicate N (Value.int .i64 0)) := ⟨by simp, fun j hj => ⟨0, by rw [List.getElem?_replicate, if_pos hj]⟩⟩
 have H2 := Zhd (Zan hst2 hz0); clear hst2 hz0 hst0
 generalize List.replicate N (Value.int .i64 0) = L0 at *
 go_wp2_with fail
 go_loopw [7, 9] (fun t i wr => G1 w2 nt t i wr) (fun _ i _ => nt - (intOf i).toNat)
 case atStart => exact ⟨rfl, 0, 0, rfl, Nat.zero_le _, rfl⟩
 case round =>
  obtain ⟨rfl, k, T, rfl, hk, rfl⟩ := hrel
  by_cases hkn : k < nt
  · obtain ⟨t, htk⟩ : ∃ t, Ts[k]? = some t := ⟨_, List.getElem?_eq_getElem (by have := HM.out.2.2.2.1; omega)⟩
    obtain ⟨gt, ot, va, vc, rfl, hv, hct⟩ := shr_at HM.out.2.2.1 HM.out.2.2.2.1 htk
    obtain ⟨d0, d1, d2⟩ := hct _ H2.out.1.kept
    have hki : (k : Int) < (nt : Int) := by omega
    generalize t.parts.length = tn at *
    clear hct hv htk
    go_wp2_with fail
    exact ⟨⟨rfl, k + 1, _, by go_num, by omega, rfl⟩, by simp [intOf]; omega⟩
  · obtain rfl : nt = k := by omega
    have h20 : G2 w g N Ms Ts S np (.slice (some ⟨g, 0, none⟩) N N) (.int .i64 T) (.int .i64 0) wr := ⟨rfl, 0, T, L0, rfl, Nat.zero_le _, rfl, CntGd.nil _ _, H2.out.2, H2.out.1⟩
    have H20 := Zhd h20; clear h20
    go_wp2_with fail
    go_loopw [6, 7, 10] (fun u t i wr => G2 w g N Ms Ts S np u t i wr) (fun _ _ i _ => np - (intOf i).toNat)
    case atStart => exact H20.out
    case round =>
     clear H20
     obtain ⟨rfl, i, T2, L2, rfl, hi, rfl, hgd, hir, hst⟩ := hrel
     by_cases hin : i < np
     · obtain ⟨x, hx⟩ : ∃ x, S[i]? = some x := ⟨_, List.getElem?_eq_getElem (by have := HM.out.2.2.2.2.2.1; omega)⟩
       obtain ⟨gp, op, va, vc, rfl, hv, hcx⟩ := shr_at HM.out.2.2.2.2.1 HM.out.2.2.2.2.2.1 hx
       have hxS := List.mem_of_getElem? hx
       obtain ⟨d0, d1, d2⟩ := hcx wr hst.kept
       have hii : (i : Int) < (np : Int) := by omega
       have hps := HM.out.2.2.2.2.1.parts x hxS
       have hpl := HM.out.2.2.2.2.2.2.2.2.2 x hxS
       obtain ⟨pn, hpn⟩ : ∃ pn, x.parts.length = pn := ⟨_, rfl⟩
       rw [hpn] at d2 hcx hpl
       have k1 := fun o => (Kept.refl [] wr).alloc o
       have f0 := fun o => (k1 o).cell d0 (by simp)
       have f1 := fun o => (k1 o).cell d1 (by simp)
       have f2 := fun o => (k1 o).cell d2 (by simp)
       have HX := Zhd (Zan hx (Zan hcx (Zan hv (Zan hxS (Zan hps (Zan hpn (Zan hgd (Zan hir hst)))))))); clear hx hcx hv hxS hps hpn hgd hir hst k1
       have hstB := HX.out.2.2.2.2.2.2.2.2.alloc (.cells #[.string x.mem, .string x.top, .slice va pn vc] 33)
       have hgb : g < wr.heap.size := by
        rcases (show wr.ownsRow 0 3 1 (.slice (some ⟨g, 0, none⟩) N N) N L2 from HX.out.2.2.2.2.2.2.2.2.m 0 rfl).2 with ⟨h, _⟩ | ⟨g', cap, cur, h, _, h2, _⟩
        · cases h
        · cases h; exact (Array.getElem?_eq_some_iff.1 h2).1
       have bx0 : (wr.alloc (.cells #[.string x.mem, .string x.top, .slice va pn vc] 33)).cell? ⟨wr.heap.size, 0, none⟩ = some (.string x.mem) := by simp [go_sem]
       have bx1 : (wr.alloc (.cells #[.string x.mem, .string x.top, .slice va pn vc] 33)).cell? ⟨wr.heap.size, 1, none⟩ = some (.string x.top) := by simp [go_sem]
       have bx2 : (wr.alloc (.cells #[.string x.mem, .string x.top, .slice va pn vc] 33)).cell? ⟨wr.heap.size, 2, none⟩ = some (.slice va pn vc) := by simp [go_sem]
       go_upto_region 10 with fail
       generalize wr.alloc (.cells #[.string x.mem, .string x.top, .slice va pn vc] 33) = B at *
       generalize wr.heap.size = b at *
       have HB := Zhd (Zan hstB (Zan hgb (Zan bx0 (Zan bx1 bx2)))); clear hstB hgb bx0 bx1 bx2 f0 f1 f2 d0 d1 d2
       go_wp2_with fail
       go_loopw [12, 13] (fun t i V => G3 B Ms x N t i V) (fun _ i _ => N - (intOf i).toNat)
       case atStart => exact ⟨Kept.refl _ _, 0, -1, rfl, Nat.zero_le _, rfl, .inl ⟨rfl, fun j m hj => by omega⟩⟩
       case round =>
        obtain ⟨hkV, k, av, rfl, hk2, rfl, hat⟩ := hrel
        by_cases hkN : k < N
        · obtain ⟨mk, hmk⟩ : ∃ mk, Ms[k]? = some mk := ⟨_, List.getElem?_eq_getElem (by have := HM.out.2.1; omega)⟩
          obtain ⟨gm, om, ta, tc, da, dc, oa, oc, rfl, _, _, _, hcm⟩ := mem_at HM.out.1 HM.out.2.1 hmk
          have c0 := (hcm wr (HB.out.1.kept.trans hkV (by simp) (by simp))).1
          have b0 := hkV.cell HB.out.2.2.1 (by simp)
          have hkN' : (k : Int) < (N : Int) := by omega
          by_cases e : mk.id = x.mem
          · have hse : (mk.id.toList == x.mem.toList) = true := beq_iff_eq.2 (by rw [e])
            have hat2 : AtOk Ms x (k + 1) (k : Int) := .inr ⟨k, mk, rfl, by omega, hmk, e⟩
            have HAT := Zhd hat2
            clear hmk hcm hat hat2 e
            go_wp2_with fail
            go_quiet (fail)
            go_wp2_with fail
            exact ⟨⟨hkV.drewN _, k + 1, _, by go_num, by omega, rfl, HAT.out⟩, by simp [intOf]; omega⟩
          · have hse : (mk.id.toList == x.mem.toList) = false := beq_eq_false_iff_ne.2 (fun h => e ((ba_inj _ _).1 h))
            have hat2 : AtOk Ms x (k + 1) av := by
             rcases hat with ⟨h1, h2⟩ | ⟨j, m, h1, h2, h3, h4⟩
             · refine .inl ⟨h1, fun j m hj hm => ?_⟩
               by_cases e2 : j = k
               · subst e2; rw [hmk] at hm; cases hm; exact e
               · exact h2 j m (by omega) hm
             · exact .inr ⟨j, m, h1, by omega, h3, h4⟩
            have HAT := Zhd hat2
            clear hmk hcm hat hat2 e
            go_wp2_with fail
            go_quiet (fail)
            go_wp2_with fail
            exact ⟨⟨hkV.drewN _, k + 1, _, by go_num, by omega, rfl, HAT.out⟩, by simp [intOf]; omega⟩
        · obtain rfl : N = k := by omega
          have hkw := HB.out.1.kept.trans hkV (U := []) (by simp) (by simp)
          rcases hat with ⟨rfl, hno⟩ | ⟨jx, m, rfl, hjN, hjm, hmx⟩
          · have hbad : ¬ CntGd Ms Ts S := fun h => by
             obtain ⟨m, h1, h2⟩ := h.mem x HX.out.2.2.2.1
             obtain ⟨j, hj⟩ := List.mem_iff_getElem?.1 h1
             exact hno j m (by have := (List.getElem?_eq_some_iff.1 hj).1; have := HM.out.2.1; omega) hj h2
            have HBAD := Zhd hbad; clear hbad hno
            have hm1 : decide ((-1 : Int) < 0) = true := rfl
            go_wp2_with fail
            go_quiet (fail)
            go_wp2_with fail
            go_ret3
            exact CntPostG.no HBAD.out (hkw.drewN _)
          have HJ := Zhd (Zan hjm hmx); clear hjm hmx
          by_cases hwt : x.top ∈ m.tops
          case neg =>
           have hbad : ¬ CntGd Ms Ts S := fun h => hwt (h.wants x HX.out.2.2.2.1 m (List.mem_of_getElem? HJ.out.1) HJ.out.2)
           have HBAD := Zhd hbad; clear hbad
           go_upto_region 16 with fail
           go_cut [73] (fun t W => t = .bool true ∧ Kept [] B W)
           case first =>
            obtain ⟨gm, om, ta, tc, da, dc, oa, oc, rfl, e1, e2, e3, hcm⟩ := mem_at HM.out.1 HM.out.2.1 HJ.out.1
            have hmM := List.mem_of_getElem? HJ.out.1
            have hwc := fun w' (k' : Kept [] w w') => wants_no m x.top w' ((HM.out.1.each m hmM).kept0 k') (HM.out.2.2.2.2.2.2.2.1 m hmM) hwt
            have hcs := fun W (hW : Kept [] wr W) => Zan (hcm W (hkw.trans hW (U := []) (by simp) (by simp))) (hW.cell (hkV.cell HB.out.2.2.2.1 (by simp)) (by simp))
            have HCS := Zhd hcs; clear hcs hcm hmM hwt
            have hneg : decide ((jx : Int) < 0) = false := decide_eq_false (by omega)
            clear HX HM HB H2 HJ HBAD
            obtain ⟨id, ver, tv, tops, dv, data, ov, owned, gen, rack, has⟩ := m
            simp only at e1 e2 e3 HCS hwc
            subst e1 e2 e3
            simp only [memCells] at hwc
            have HW := Zhd hwc; clear hwc
            generalize tops.length = tn at *
            generalize data.length = dn at *
            generalize owned.length = on at *
            obtain ⟨⟨c0, c1, c2, c3, c4, c5, c6, c7⟩, ct1⟩ := HCS.out wr (Kept.refl _ _)
            go_region_law
             (first
               | (go_simp
                  go_at_call 42
                  refine (HW.out _ hkw.drew).mono ?_
                  rintro e w1 ⟨rfl, hk1⟩
                  have hk1' : Kept [] wr w1 := hk1.of_drew
                  go_wp2_with fail)
               | fail)
            all_goals
             go_wp2_with fail
             go_meet
             exact ⟨rfl, hkV.trans hk1' (by simp) (by simp)⟩
           case rest =>
            obtain ⟨rfl, hkB⟩ := hcut
            go_wp2_with fail
            go_ret3
            exact CntPostG.no HBAD.out (HB.out.1.kept.trans hkB (U := []) (by simp) (by simp))
          have hup : CntUp Ms Ts S i x 0 := CntUp.start HX.out.2.2.2.2.2.2.1 ⟨m, List.mem_of_getElem? HJ.out.1, HJ.out.2⟩ (fun m' hm' e => by
           have h1 : m' = m := by
            obtain ⟨j', hj'⟩ := List.mem_iff_getElem?.1 hm'
            have q1 : (ids Ms)[j']? = some m'.id := by unfold ids; rw [List.getElem?_map, hj']; rfl
            have q2 : (ids Ms)[jx]? = some m.id := by unfold ids; rw [List.getElem?_map, HJ.out.1]; rfl
            have q3 := (List.getElem?_inj (by unfold ids; rw [List.length_map]; exact (List.getElem?_eq_some_iff.1 hj').1) HM.out.2.2.2.2.2.2.1).1 (show (ids Ms)[j']? = (ids Ms)[jx]? by rw [q1, q2, e, HJ.out.2])
            subst q3
            rw [HJ.out.1] at hj'; cases hj'; rfl
           rw [h1]; exact hwt)
          have HUP := Zhd hup; clear hup
          go_upto_region 16 with fail
          go_cut [73] (fun t W => t = .bool false ∧ Kept [] B W)
          case first =>
           obtain ⟨gm, om, ta, tc, da, dc, oa, oc, rfl, e1, e2, e3, hcm⟩ := mem_at HM.out.1 HM.out.2.1 HJ.out.1
           have hmM := List.mem_of_getElem? HJ.out.1
           have hwc := fun w' (k' : Kept [] w w') => wants_yes m x.top w' ((HM.out.1.each m hmM).kept0 k') (HM.out.2.2.2.2.2.2.2.1 m hmM) hwt
           have hcs := fun W (hW : Kept [] wr W) => Zan (hcm W (hkw.trans hW (U := []) (by simp) (by simp))) (hW.cell (hkV.cell HB.out.2.2.2.1 (by simp)) (by simp))
           have HCS := Zhd hcs; clear hcs hcm hmM hwt HUP
           have hneg : decide ((jx : Int) < 0) = false := decide_eq_false (by omega)
           clear HX HM HB H2 HJ
           obtain ⟨id, ver, tv, tops, dv, data, ov, owned, gen, rack, has⟩ := m
           simp only at e1 e2 e3 HCS hwc
           subst e1 e2 e3
           simp only [memCells] at hwc
           have HW := Zhd hwc; clear hwc
           generalize tops.length = tn at *
           generalize data.length = dn at *
           generalize owned.length = on at *
           obtain ⟨⟨c0, c1, c2, c3, c4, c5, c6, c7⟩, ct1⟩ := HCS.out wr (Kept.refl _ _)
           go_region_law
            (first
              | (go_simp
                 go_at_call 42
                 refine (HW.out _ hkw.drew).mono ?_
                 rintro e w1 ⟨rfl, hk1⟩
                 have hk1' : Kept [] wr w1 := hk1.of_drew
                 go_wp2_with fail)
              | fail)
           all_goals
            go_wp2_with fail
            go_meet
            exact ⟨rfl, hkV.trans hk1' (by simp) (by simp)⟩
          case rest =>
           obtain ⟨rfl, hkB⟩ := hcut
           have h40 : G4 w B g N Ms Ts S i x pn (.slice (some ⟨g, 0, none⟩) N N) (.int .i64 T2) (.int .i64 0) wc :=
            ⟨rfl, 0, T2, L2, rfl, Nat.zero_le _, rfl, HUP.out, HX.out.2.2.2.2.2.2.2.1, HB.out.1.kept0 hkB, hkB.mono (by simp)⟩
           have H40 := Zhd h40; clear h40 hkB hkV hkw HUP hwt
           go_wp2_with fail
           go_loopw [6, 7, 14] (fun u t i' V => G4 w B g N Ms Ts S i x pn u t i' V) (fun _ _ i' _ => pn - (intOf i').toNat)
           case atStart => exact H40.out
           case round =>
            clear H40
            obtain ⟨rfl, k3, T3, L3, rfl, hk3, rfl, hup, hir, hst, hkg⟩ := hrel
            have hbg : b ∉ [g] := by have := HB.out.2.1; simp; omega
            have bx1 := hkg.cell HB.out.2.2.2.1 hbg
            have bx2 := hkg.cell HB.out.2.2.2.2 hbg
            have hkw := hst.kept
            by_cases hkp : k3 < pn
            · obtain ⟨z, hz⟩ : ∃ z, x.parts[k3]? = some z := ⟨_, List.getElem?_eq_getElem (by have := HX.out.2.2.2.2.2.1; omega)⟩
              obtain ⟨bv, ov, cv, hva, hclv⟩ : ∃ b off cap, Value.slice va pn vc = .slice (some ⟨b, off, none⟩) pn cap ∧ ∀ j u, (i32s x.parts)[j]? = some u → w.cell? ⟨b, off + j, none⟩ = some u := by
               have h := HX.out.2.2.2.2.1.2.1.2.2
               rw [HX.out.2.2.2.2.2.1, HX.out.2.2.1, HX.out.2.2.2.2.2.1] at h
               rcases h with ⟨_, _, _, h0⟩ | h
               · omega
               · exact h
              simp only [Value.slice.injEq] at hva
              obtain ⟨rfl, _, rfl⟩ := hva
              have ez := hkw.cell (hclv k3 (.int .i32 z) (by simp [i32s, hz])) (by simp)
              have hkp' : (k3 : Int) < (pn : Int) := by omega
              generalize wr = V0 at *
              have hbf : ∀ V, Kept [] V0 V → V.cell? ⟨b, 1, none⟩ = some (.string x.top) ∧ V.cell? ⟨b, 2, none⟩ = some (.slice (some ⟨bv, ov, none⟩) pn vc) ∧ V.cell? ⟨bv, ov + k3, none⟩ = some (.int .i32 z) := fun V hV => ⟨hV.cell bx1 (by simp), hV.cell bx2 (by simp), hV.cell ez (by simp)⟩
              have HK := Zhd (Zan hst (Zan hkg (Zan hz (Zan (Zan hup hir) (Zan hbf hkw))))); clear hst hkg hz hup hir hbf hkw bx1 bx2 ez hclv
              obtain ⟨e1, e2, e3⟩ := HK.out.2.2.2.2.1 V0 (Kept.refl _ _)
              go_upto_block 8 with fail
              clear e1 e2 e3
              go_cut [15] (fun f V => (∃ fb : Bool, f = .bool fb ∧ (fb = true ↔ (x.top, z) ∈ allT Ts)) ∧ Kept [] V0 V)
              case first =>
               go_wp2_with fail
               go_loopw [15, 16] (fun f n V => G5 V0 Ts nt x.top z f n V) (fun _ n _ => nt - (intOf n).toNat)
               case atStart => exact ⟨Kept.refl _ _, 0, rfl, Nat.zero_le _, false, rfl, by simp [allT]⟩
               case round =>
                obtain ⟨hkV, n, rfl, hn, fb, rfl, hfb⟩ := hrel
                by_cases hnn : n < nt
                · obtain ⟨y, hy⟩ : ∃ y, Ts[n]? = some y := ⟨_, List.getElem?_eq_getElem (by have := HM.out.2.2.2.1; omega)⟩
                  obtain ⟨gt, ot, ya, yc, rfl, hv, hct⟩ := shr_at HM.out.2.2.1 HM.out.2.2.2.1 hy
                  have hnn' : (n : Int) < (nt : Int) := by omega
                  have hyp := HM.out.2.2.1.parts y (List.mem_of_getElem? hy)
                  have hyb := HM.out.2.2.2.2.2.2.2.2.1 y (List.mem_of_getElem? hy)
                  have hsn := allT_snoc hy x.top z
                  obtain ⟨yn, hyn⟩ : ∃ yn, y.parts.length = yn := ⟨_, rfl⟩
                  rw [hyn] at hct hyb
                  have hcy := fun V (hV : Kept [] V0 V) => hct V (HK.out.2.2.2.2.2.trans hV (U := []) (by simp) (by simp))
                  have HY := Zhd (Zan hcy (Zan hyp (Zan hsn (Zan hyn hv)))); clear hcy hyp hsn hyn hct hv hy
                  go_wp2_with fail
                  go_loopw [15, 17] (fun f m V => G6 V0 Ts n y yn x.top z f m V) (fun _ m _ => yn - (intOf m).toNat)
                  case atStart => exact ⟨hkV, 0, rfl, Nat.zero_le _, fb, rfl, by simpa using hfb⟩
                  case round =>
                   clear hkV hfb
                   obtain ⟨hkV, m', rfl, hm', fb', rfl, hf1⟩ := hrel
                   obtain ⟨q0, q1, q2⟩ := HY.out.1 wr hkV
                   obtain ⟨bx1, bx2, ez⟩ := HK.out.2.2.2.2.1 wr hkV
                   by_cases hmy : m' < yn
                   · obtain ⟨v, hv⟩ : ∃ v, y.parts[m']? = some v := ⟨_, List.getElem?_eq_getElem (by have := HY.out.2.2.2.1; omega)⟩
                     obtain ⟨by', oy, cy, hvy, hcly⟩ : ∃ b off cap, Value.slice ya yn yc = .slice (some ⟨b, off, none⟩) yn cap ∧ ∀ j u, (i32s y.parts)[j]? = some u → w.cell? ⟨b, off + j, none⟩ = some u := by
                      have h := HY.out.2.1.2.1.2.2
                      rw [HY.out.2.2.2.1, HY.out.2.2.2.2, HY.out.2.2.2.1] at h
                      rcases h with ⟨_, _, _, h0⟩ | h
                      · omega
                      · exact h
                     simp only [Value.slice.injEq] at hvy
                     obtain ⟨rfl, _, rfl⟩ := hvy
                     have ev := (HK.out.2.2.2.2.2.trans hkV (U := []) (by simp) (by simp)).cell (hcly m' (.int .i32 v) (by simp [i32s, hv])) (by simp)
                     have hmy' : (m' : Int) < (yn : Int) := by omega
                     have htk := take_snoc' hv
                     have HF := Zhd (Zan hf1 htk); clear hf1 htk hcly hv
                     cases fb' with
                     | true =>
                       go_wp2_with fail
                       go_quiet (fail)
                       go_wp2_with fail
                       exact ⟨⟨hkV.drewN _, m' + 1, by go_num, by omega, true, rfl, fun _ => by
                        rw [HF.out.2]
                        rcases HF.out.1.1 (by simp) with h | ⟨h1, h2⟩
                        · exact .inl h
                        · exact .inr ⟨h1, List.mem_append_left _ h2⟩, fun _ => rfl⟩, by simp [intOf]; omega⟩
                     | false =>
                       by_cases het : y.top = x.top
                       · have hse : (y.top.toList == x.top.toList) = true := beq_iff_eq.2 (by rw [het])
                         go_wp2_with fail
                         go_quiet (fail)
                         go_wp2_with fail
                         refine ⟨⟨hkV.drewN _, m' + 1, by go_num, by omega, (v == z), rfl, ?_⟩, by simp [intOf]; omega⟩
                         rw [HF.out.2]
                         constructor
                         · intro h
                           exact .inr ⟨het, List.mem_append_right _ (by simp only [beq_iff_eq] at h; simp [h])⟩
                         · rintro (h | ⟨h1, h2⟩)
                           · exact absurd (HF.out.1.2 (.inl h)) (by simp)
                           · rcases Zap.1 h2 with h2 | h2
                             · exact absurd (HF.out.1.2 (.inr ⟨h1, h2⟩)) (by simp)
                             · simp only [Zmc, Znn, or_false] at h2
                               simp [h2]
                       · have hse : (y.top.toList == x.top.toList) = false := beq_eq_false_iff_ne.2 (fun h => het ((ba_inj _ _).1 h))
                         go_wp2_with fail
                         go_quiet (fail)
                         go_wp2_with fail
                         refine ⟨⟨hkV.drewN _, m' + 1, by go_num, by omega, false, rfl, fun h => absurd h (by simp), ?_⟩, by simp [intOf]; omega⟩
                         rintro (h | ⟨h1, h2⟩)
                         · exact HF.out.1.2 (.inl h)
                         · exact absurd h1 het
                   · obtain rfl : yn = m' := by omega
                     have hnx : fb' = true ↔ (x.top, z) ∈ allT (Ts.take (n + 1)) := by
                      have eyt : y.parts.take yn = y.parts := List.take_of_length_le (by have := HY.out.2.2.2.1; omega)
                      rw [HY.out.2.2.1, hf1, eyt]
                     have HNX := Zhd hnx; clear hnx hf1
                     go_wp2_with fail
                     exact ⟨⟨hkV, n + 1, by go_num, by omega, fb', rfl, HNX.out⟩, by simp [intOf]; omega⟩
                · obtain rfl : nt = n := by omega
                  rw [List.take_of_length_le (by have := HM.out.2.2.2.1; omega)] at hfb
                  have HFB := Zhd hfb; clear hfb
                  go_wp2_with fail
                  go_meet
                  exact ⟨⟨fb, rfl, HFB.out⟩, hkV⟩
              case rest =>
               obtain ⟨⟨fb, rfl, hfb⟩, hk1⟩ := hcut
               have HFB := Zhd hfb; clear hfb
               go_upto_block 12 with fail
               go_wp2_with fail
               go_loopw [6, 7, 18] (fun u t n V => G7 V0 S i k3 x z (.slice (some ⟨g, 0, none⟩) N N) (.int .i64 T3) u t n V) (fun _ _ n _ => i + 1 - (intOf n).toNat)
               case atStart => exact ⟨rfl, rfl, hk1, 0, rfl, Nat.zero_le _, NoBef.zero⟩
               case round =>
                clear hk1
                obtain ⟨rfl, rfl, hkV, n, rfl, hn, hnb⟩ := hrel
                by_cases hni : n ≤ i
                · obtain ⟨y, hy⟩ : ∃ y, S[n]? = some y := ⟨_, List.getElem?_eq_getElem (by have := HM.out.2.2.2.2.2.1; omega)⟩
                  obtain ⟨gp2, op2, ya, yc, hpe, hv, hcy0⟩ := shr_at HM.out.2.2.2.2.1 HM.out.2.2.2.2.2.1 hy
                  cases hpe
                  have hni' : (n : Int) ≤ (i : Int) := by omega
                  have hyp := HM.out.2.2.2.2.1.parts y (List.mem_of_getElem? hy)
                  obtain ⟨yn, hyn⟩ : ∃ yn, y.parts.length = yn := ⟨_, rfl⟩
                  rw [hyn] at hcy0
                  have hcy := fun V (hV : Kept [] V0 V) => hcy0 V (HK.out.2.2.2.2.2.trans hV (U := []) (by simp) (by simp))
                  have hynb : yn ≤ 1000000000 := by rw [← hyn]; exact HM.out.2.2.2.2.2.2.2.2.2 y (List.mem_of_getElem? hy)
                  have HY := Zhd (Zan hcy (Zan hyp (Zan hy (Zan hyn (Zan hv hnb))))); clear hcy hyp hnb hyn hcy0 hv hy
                  go_wp2_with fail
                  clear hni'
                  go_loopw [6, 7, 19] (fun u t m V => G8 V0 S i k3 x z n yn (.slice (some ⟨g, 0, none⟩) N N) (.int .i64 T3) u t m V) (fun _ _ m _ => yn - (intOf m).toNat)
                  case atStart => exact ⟨rfl, rfl, hkV, 0, rfl, Nat.zero_le _, HY.out.2.2.2.2.2⟩
                  case round =>
                   clear hkV
                   obtain ⟨rfl, rfl, hkV, m', rfl, hm', hnb⟩ := hrel
                   obtain ⟨q0, q1, q2⟩ := HY.out.1 wr hkV
                   obtain ⟨bx1, bx2, ez⟩ := HK.out.2.2.2.2.1 wr hkV
                   by_cases hgo : m' < yn
                   · obtain ⟨v, hv⟩ : ∃ v, y.parts[m']? = some v := ⟨_, List.getElem?_eq_getElem (by have := HY.out.2.2.2.1; omega)⟩
                     obtain ⟨by', oy, cy, hvy, hcly⟩ : ∃ b off cap, Value.slice ya yn yc = .slice (some ⟨b, off, none⟩) yn cap ∧ ∀ j u, (i32s y.parts)[j]? = some u → w.cell? ⟨b, off + j, none⟩ = some u := by
                      have h := HY.out.2.1.2.1.2.2
                      rw [HY.out.2.2.2.1, HY.out.2.2.2.2.1, HY.out.2.2.2.1] at h
                      rcases h with ⟨_, _, _, h0⟩ | h
                      · omega
                      · exact h
                     simp only [Value.slice.injEq] at hvy
                     obtain ⟨rfl, _, rfl⟩ := hvy
                     have ev := (HK.out.2.2.2.2.2.trans hkV (U := []) (by simp) (by simp)).cell (hcly m' (.int .i32 v) (by simp [i32s, hv])) (by simp)
                     have hmy' : (m' : Int) < (yn : Int) := by omega
                     have HV := Zhd (Zan hv hnb); clear hcly hv hnb
                     by_cases hlt : n < i
                     · have hlt' : (n : Int) < (i : Int) := by omega
                       by_cases het : y.top = x.top
                       · have hse : (y.top.toList == x.top.toList) = true := beq_iff_eq.2 (by rw [het])
                         by_cases hev : v = z
                         · have hve : (v == z) = true := beq_iff_eq.2 hev
                           have hbad : ¬ CntGd Ms Ts S := fun h => no_dbl h.flat HY.out.2.2.1 HX.out.1 HV.out.1 HK.out.2.2.1 (.inl hlt) het hev
                           have HBAD := Zhd hbad; clear hbad het hev
                           go_wp2_with fail
                           go_quiet (fail)
                           go_wp2_with fail
                           go_ret3
                           exact CntPostG.no HBAD.out ((HK.out.2.2.2.2.2.trans hkV (U := []) (by simp) (by simp)).drewN _)
                         · have hne : (v == z) = false := beq_eq_false_iff_ne.2 hev
                           have HNE := Zhd hev
                           clear het hev
                           go_wp2_with fail
                           go_quiet (fail)
                           go_wp2_with fail
                           exact ⟨⟨rfl, rfl, hkV.drewN _, m' + 1, by go_num, by omega, HV.out.2.next HY.out.2.2.1 HV.out.1 (fun _ => HNE.out)⟩, by simp [intOf]; omega⟩
                       · have hse : (y.top.toList == x.top.toList) = false := beq_eq_false_iff_ne.2 (fun h => het ((ba_inj _ _).1 h))
                         have HET := Zhd het; clear het
                         go_wp2_with fail
                         go_quiet (fail)
                         go_wp2_with fail
                         exact ⟨⟨rfl, rfl, hkV.drewN _, m' + 1, by go_num, by omega, HV.out.2.next HY.out.2.2.1 HV.out.1 (fun h => absurd h HET.out)⟩, by simp [intOf]; omega⟩
                     · have hlt' : ¬ (n : Int) < (i : Int) := by omega
                       by_cases hmk : m' < k3
                       · have hmk' : (m' : Int) < (k3 : Int) := by omega
                         by_cases het : y.top = x.top
                         · have hse : (y.top.toList == x.top.toList) = true := beq_iff_eq.2 (by rw [het])
                           by_cases hev : v = z
                           · have hve : (v == z) = true := beq_iff_eq.2 hev
                             have hbad : ¬ CntGd Ms Ts S := fun h => no_dbl h.flat HY.out.2.2.1 HX.out.1 HV.out.1 HK.out.2.2.1 (.inr ⟨by omega, hmk⟩) het hev
                             have HBAD := Zhd hbad; clear hbad het hev
                             go_wp2_with fail
                             go_quiet (fail)
                             go_wp2_with fail
                             go_ret3
                             exact CntPostG.no HBAD.out ((HK.out.2.2.2.2.2.trans hkV (U := []) (by simp) (by simp)).drewN _)
                           · have hne : (v == z) = false := beq_eq_false_iff_ne.2 hev
                             have HNE := Zhd hev
                             clear het hev
                             go_wp2_with fail
                             go_quiet (fail)
                             go_wp2_with fail
                             exact ⟨⟨rfl, rfl, hkV.drewN _, m' + 1, by go_num, by omega, HV.out.2.next HY.out.2.2.1 HV.out.1 (fun _ => HNE.out)⟩, by simp [intOf]; omega⟩
                         · have hse : (y.top.toList == x.top.toList) = false := beq_eq_false_iff_ne.2 (fun h => het ((ba_inj _ _).1 h))
                           have HET := Zhd het; clear het
                           go_wp2_with fail
                           go_quiet (fail)
                           go_wp2_with fail
                           exact ⟨⟨rfl, rfl, hkV.drewN _, m' + 1, by go_num, by omega, HV.out.2.next HY.out.2.2.1 HV.out.1 (fun h => absurd h HET.out)⟩, by simp [intOf]; omega⟩
                       · have hmk' : ¬ (m' : Int) < (k3 : Int) := by omega
                         go_wp2_with fail
                         exact ⟨⟨rfl, rfl, hkV, n + 1, by go_num, by omega, HV.out.2.row HY.out.2.2.1 (.inr (by omega))⟩, by simp [intOf]; omega⟩
                   · have hmy' : ¬ (m' : Int) < (yn : Int) := by omega
                     have HNB := Zhd hnb; clear hnb
                     go_wp2_with fail
                     exact ⟨⟨rfl, rfl, hkV, n + 1, by go_num, by omega, HNB.out.row HY.out.2.2.1 (.inl (by have := HY.out.2.2.2.1; omega))⟩, by simp [intOf]; omega⟩
                · have HALL := Zhd (hnb.all (by omega)); clear hnb
                  cases fb with
                  | false =>
                    have hbad : ¬ CntGd Ms Ts S := fun h => absurd (HFB.out.2 (h.top x HX.out.2.2.2.1 z (List.mem_of_getElem? HK.out.2.2.1))) (by simp)
                    have HBAD := Zhd hbad; clear hbad
                    go_wp2_with fail
                    go_ret3
                    exact CntPostG.no HBAD.out (HK.out.2.2.2.2.2.trans hkV (U := []) (by simp) (by simp))
                  | true =>
                    have hup2 : CntUp Ms Ts S i x (k3 + 1) := HK.out.2.2.2.1.1.next HX.out.1 HK.out.2.2.1 (HFB.out.1 rfl) HALL.out
                    have HUP := Zhd hup2; clear hup2
                    have hst2 := HK.out.1.kept0 hkV
                    obtain ⟨cv0, hcv0⟩ := HK.out.2.2.2.1.2.2 jx (by omega)
                    obtain ⟨hc1, hc2⟩ := own_cell (j := jx) (hst2.m 0 rfl) hcv0
                    have hst3 := hst2.setRow 0 rfl jx (.int .i64 (wrap64 (cv0 + 1)))
                    simp only [Zs0] at hst3
                    have hir3 := HK.out.2.2.2.1.2.set jx (wrap64 (cv0 + 1))
                    have hkg2 := (HK.out.2.1.trans hkV (U := [g]) (by simp) (by simp)).setCell (p := ⟨g, jx, none⟩) (.int .i64 (wrap64 (cv0 + 1))) (by simp)
                    have HN := Zhd (Zan hst3 (Zan hkg2 hir3)); clear hst3 hkg2 hir3 hst2 hcv0 HALL HFB
                    generalize L3.set jx (.int .i64 (wrap64 (cv0 + 1))) = L4 at *
                    have hjN' : (jx : Int) < (N : Int) := by omega
                    go_wp2_with fail
                    refine ⟨⟨rfl, k3 + 1, _, L4, by go_num, by omega, rfl, HUP.out, HN.out.2.2, ?_, ?_⟩, by simp [intOf]; omega⟩
                    · exact HN.out.1
                    · exact HN.out.2.1
            · obtain rfl : k3 = pn := by omega
              have hfin : G2 w g N Ms Ts S np (.slice (some ⟨g, 0, none⟩) N N) (.int .i64 T3) (.int .i64 ((i + 1 : Nat) : Int)) wr := ⟨rfl, i + 1, T3, L3, rfl, by omega, rfl, hup.done HX.out.1 (by have := HX.out.2.2.2.2.2.1; omega), hir, hst⟩
              have HFN := Zhd hfin; clear hfin hst hup hir
              go_wp2_with fail
              first | exact ⟨HFN.out, by simp [intOf]; omega⟩ | (refine ⟨?_, by simp [intOf]; omega⟩; simpa using HFN.out)
     · obtain rfl : i = np := by omega
       rw [List.take_of_length_le (by have := HM.out.2.2.2.2.2.1; omega)] at hgd
       have hfin : CntPostG w Ms Ts S (.returned (.tuple #[.slice (some ⟨g, 0, none⟩) N N, .int .i64 T2, .bool true])) wr := ⟨_, _, _, T2, true, rfl, ⟨fun _ => hgd, fun _ => rfl⟩, hst.kept⟩
       have HFN := Zhd hfin; clear hfin hst hgd hir
       go_wp2_with fail
       go_ret3
       exact HFN.out
end
end Go.Proofs.YticcnlpfmekagaaGreat
