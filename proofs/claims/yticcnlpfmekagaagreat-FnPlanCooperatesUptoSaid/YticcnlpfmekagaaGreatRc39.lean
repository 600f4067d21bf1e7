/- Part 39 of the proof of the row: AdjW. -/
import Derived.Test.YticcnlpfmekagaaGreatRc00
import Derived.Test.YticcnlpfmekagaaGreatRc38
set_option linter.unusedVariables false
set_option linter.unusedSimpArgs false
set_option maxRecDepth 100000
set_option maxHeartbeats 8000000
namespace Go.Proofs.YticcnlpfmekagaaGreat
section
open Go Go.Proofs Go.RowKit Go.Lib
open Classical
def adjK (row own : ByteArray → List TP) (Dn : List ByteArray) (q : TP) (m : ByteArray) : Prop := m ∈ Dn ∧ q ∈ row m ∧ q ∉ own m
def adjR (row own : ByteArray → List TP) (Dn : List ByteArray) (q : TP) : Prop := ∃ m ∈ Dn, q ∈ own m ∧ q ∉ row m
abbrev adM (r4 r5 p : Nat) (L4 L5 : List (Value × Value)) (P : PL) : List Res := [Rs.map r5 isTp L5, Rs.map r4 isTp L4, Rs.map p isStr (rawP P), Rs.innerD P]
def OwPs (ps : List TP) (w : World) (e : Ending) (w' : World) : Prop := ∃ (v : Value) (N : Nat), e = .returned v ∧ ps.length = N ∧ St [] w w' [Rs.row 384 2 v N (ps.flatMap encTp)] []
structure AdMd (S : List Nat) (w : World) (x : Md) : Prop where
 ex : ∃ (ver g : Int) (ta oa da : Option Addr) (tn tc dn dc on oc : Nat) (ra : Option Addr), x.val = .agg #[.int .i16 ver, .slice ta tn tc, .slice da dn dc, .slice oa on oc, .int .i32 g, .pointer ra] ∧ on ≤ 100000 ∧ ∀ w', Kept S w w' → Calls Tryz.prog 257 #[.slice oa on oc] w' (OwPs x.parts w')
structure AdjOk (S : List Nat) (w : World) (row own : ByteArray → List TP) (P : PL) (Xs : List Md) : Prop where
 md : ∀ x ∈ Xs, AdMd S w x
 own : ∀ x ∈ Xs, own x.name = x.parts
 row : ∀ m r D, (m, r, D) ∈ P → row m = topTps D
 inP : ∀ x ∈ Xs, ∃ r D, (x.name, r, D) ∈ P
 names : (Xs.map (·.name)).Nodup
 pn : (P.map (·.1)).Nodup
 all : (P.flatMap fun x => topTps x.2.2).Nodup
 small : (P.flatMap fun x => topTps x.2.2).length ≤ 1000
 inX : ∀ x ∈ P, x.1 ∈ Xs.map (·.name)
 osmall : ∀ x ∈ Xs, x.parts.length ≤ 100000
 full : ∀ x ∈ P, ∀ y ∈ x.2.2, y.2.2 ≠ []
def AdI (S : List Nat) (w : World) (row own : ByteArray → List TP) (rm it r4 r5 p : Nat) (Xs : List Md) (P : PL) (wr : World) : Prop :=
 ∃ (Dn Lf : List Md) (L4 L5 : List (Value × Value)), (Dn ++ Lf).Perm Xs ∧ OwnsAre L4 (adjK row own (Dn.map (·.name))) ∧ KeysAre L5 (adjR row own (Dn.map (·.name))) ∧ St S w wr (adM r4 r5 p L4 L5 P) [itMd rm Xs (rawMd Lf) it]
def AdA (S : List Nat) (w : World) (r8 : Nat) (v : Value) (N : Nat) (ps : List TP) (M R : List Res) (i : Value) (wr : World) : Prop :=
 ∃ (k : Nat) (L8 : List (Value × Value)), i = .int .i64 k ∧ k ≤ N ∧ KeysAre L8 (fun q => q ∈ ps.take k) ∧ St S w wr (Rs.row 384 2 v N (ps.flatMap encTp) :: Rs.map r8 isTp L8 :: M) R
def AdB (S : List Nat) (w : World) (row own : ByteArray → List TP) (r it4 r4 r5 r8 r11 p : Nat) (m : ByteArray) (Dn : List ByteArray) (D : Tops) (P : PL) (hr : r ∈ (Rs.innerD P).foot) (X : Res) (L5 L8 : List (Value × Value)) (R : List Res) (wr : World) : Prop :=
 ∃ (Tn Tf : Tops) (L4 L11 : List (Value × Value)), (Tn ++ Tf).Perm D ∧ KeysAre L11 (fun q => q ∈ topTps Tn) ∧ OwnsAre L4 (fun q m' => adjK row own Dn q m' ∨ (m' = m ∧ q ∈ topTps Tn ∧ q ∉ own m)) ∧
  St S w wr [Rs.map r11 isTp L11, X, Rs.map r8 isTp L8, Rs.map r5 isTp L5, Rs.map r4 isTp L4, Rs.map p isStr (rawP P), Rs.it (Rs.innerD P) r (rawT D) (rawT Tf) it4 hr] R
def AdC (S : List Nat) (w : World) (row own : ByteArray → List TP) (r4 r5 r8 r11 p : Nat) (m : ByteArray) (Dn : List ByteArray) (Tn : Tops) (t : ByteArray) (xs : List Int) (P : PL) (X Y : Res) (L5 L8 : List (Value × Value)) (R : List Res) (i : Value) (wr : World) : Prop :=
 ∃ (k : Nat) (L4 L11 : List (Value × Value)), i = .int .i64 k ∧ k ≤ xs.length ∧ KeysAre L11 (fun q => q ∈ topTps Tn ++ tpsOf (t, xs.take k)) ∧ OwnsAre L4 (fun q m' => adjK row own Dn q m' ∨ (m' = m ∧ q ∈ topTps Tn ++ tpsOf (t, xs.take k) ∧ q ∉ own m)) ∧
  St S w wr [Rs.map r11 isTp L11, X, Rs.map r8 isTp L8, Rs.map r5 isTp L5, Rs.map r4 isTp L4, Rs.map p isStr (rawP P), Y] R
def AdD (S : List Nat) (w : World) (row own : ByteArray → List TP) (r8 it8 r5 : Nat) (m : ByteArray) (Dn : List ByteArray) (L8 : List (Value × Value)) (M : List Res) (hr : r8 ∈ (Rs.map r8 isTp L8).foot) (X R : List Res) (wr : World) : Prop :=
 ∃ (En Ef : List (Value × Value)) (L5 : List (Value × Value)), (En ++ Ef).Perm L8 ∧ KeysAre L5 (fun q => adjR row own Dn q ∨ ((tpV q, Value.agg #[]) ∈ En ∧ q ∉ row m)) ∧
  St S w wr (X ++ [Rs.it (Rs.map r8 isTp L8) r8 L8 Ef it8 hr, Rs.map r5 isTp L5] ++ M) R
theorem rowsI_raw (I : Tops) : rawR (rowsI I) = rawT I := by simp [rawR, rowsI, rawT]
theorem flat_uniq {α β : Type} {f : α → List β} : ∀ {L : List α}, (L.flatMap f).Nodup → ∀ {x y : α} {q : β}, x ∈ L → y ∈ L → q ∈ f x → q ∈ f y → x = y
 | [], _, _, _, _, h, _, _, _ => by cases h
 | c :: L, hn, x, y, q, hx, hy, h1, h2 => by
   rw [List.flatMap_cons, List.nodup_append] at hn
   rcases Zmc.1 hx with e1 | k1 <;> rcases Zmc.1 hy with e2 | k2
   · rw [e1, e2]
   · subst e1; exact absurd rfl (hn.2.2 q h1 q (List.mem_flatMap.2 ⟨y, k2, h2⟩))
   · subst e2; exact absurd rfl (hn.2.2 q h2 q (List.mem_flatMap.2 ⟨x, k1, h1⟩))
   · exact flat_uniq hn.2.1 k1 k2 h1 h2
theorem inn_row {W : World} {r : Nat} {D : Tops} (h : RowsAt W isStr r 21 1 (rowsI D)) {t : ByteArray} {xv : Value} {xs : List Int} (hx : (t, xv, xs) ∈ D) : W.ownsRow 0 21 1 xv xs.length (i32s xs) ∧ ∃ a c, xv = .slice a xs.length c := by
 obtain ⟨n, hn⟩ := h.each (.string t, xv, i32s xs) (List.mem_map_of_mem (f := fun x : ByteArray × Value × List Int => ((.string x.1, x.2.1, i32s x.2.2) : MRow)) hx)
 have e : n = xs.length := by have := hn.1; simp [i32s] at this; omega
 subst e
 obtain ⟨a, c, e2, _⟩ := own_cap hn
 exact ⟨hn, a, c, e2⟩
theorem AdjOk.uniq {S : List Nat} {w : World} {row own : ByteArray → List TP} {P : PL} {Xs : List Md} (h : AdjOk S w row own P Xs) {m m' : ByteArray} {q : TP} (hm : m ∈ Xs.map (·.name)) (hm' : m' ∈ Xs.map (·.name)) (h1 : q ∈ row m) (h2 : q ∈ row m') : m' = m := by
 obtain ⟨x, hx, rfl⟩ := List.mem_map.1 hm
 obtain ⟨y, hy, rfl⟩ := List.mem_map.1 hm'
 obtain ⟨r, D, hD⟩ := h.inP x hx
 obtain ⟨r', D', hD'⟩ := h.inP y hy
 rw [h.row _ _ _ hD] at h1
 rw [h.row _ _ _ hD'] at h2
 have := flat_uniq h.all hD hD' h1 h2
 rw [Prod.mk.injEq] at this
 exact this.1.symm
theorem topsQ_new {Tn T1 T2 D : Tops} {t : ByteArray} {xv : Value} {xs : List Int} {k : Nat} {n : Int} (hp : (Tn ++ (T1 ++ (t, xv, xs) :: T2)).Perm D) (hn : (topTps D).Nodup) (hk : xs[k]? = some n) : (t, n) ∉ topTps Tn ++ tpsOf (t, xs.take k) := by
 have h1 := (topTps_perm hp).nodup_iff.2 hn
 have e : topTps ((t, xv, xs) :: T2) = tpsOf (t, xs) ++ topTps T2 := by simp [topTps]
 rw [topTps_append, topTps_append, e, List.nodup_append, List.nodup_append, List.nodup_append] at h1
 obtain ⟨_, ⟨_, ⟨h2, _, _⟩, _⟩, h3⟩ := h1
 have hq : (tpsOf (t, xs))[k]? = some (t, n) := by unfold tpsOf; rw [List.getElem?_map, hk]; rfl
 intro h
 rcases Zap.1 h with h | h
 · refine h3 _ h (t, n) ?_ rfl
   simp [List.mem_of_getElem? hq]
 · have e2 : tpsOf (t, xs.take k) = (tpsOf (t, xs)).take k := by simp [tpsOf, List.map_take]
   rw [e2] at h
   exact take_new h2 hq h
def Struck (G : TP → ByteArray → Prop) (P P' : PL) : Prop :=
 P'.map (fun x => (x.1, x.2.1)) = P.map (fun x => (x.1, x.2.1)) ∧ ∀ m r D', (m, r, D') ∈ P' → ∃ D, (m, r, D) ∈ P ∧ (topTps D').Perm ((topTps D).filter fun q => decide (¬ G q m)) ∧ ∀ y ∈ D', y.2.2 ≠ []
theorem Struck.congr {G G' : TP → ByteArray → Prop} {P P' : PL} (h : Struck G P P') (hg : ∀ q m, G' q m ↔ G q m) : Struck G' P P' := by
 have e : G' = G := by funext q m; exact propext (hg q m)
 rw [e]; exact h
theorem Struck.start {P : PL} {G : TP → ByteArray → Prop} (hG : ∀ q m, ¬ G q m) (hf : ∀ x ∈ P, ∀ y ∈ x.2.2, y.2.2 ≠ []) : Struck G P P :=
 ⟨rfl, fun m r D h => ⟨D, h, by rw [List.filter_eq_self.2 (fun q _ => by simp [hG])], hf _ h⟩⟩
theorem Struck.raw {G : TP → ByteArray → Prop} {P P' : PL} (h : Struck G P P') : rawP P' = rawP P := by
 have h1 := congrArg (List.map fun x : ByteArray × Nat => ((Value.string x.1, Value.map (some x.2)) : Value × Value)) h.1
 simpa [rawP, Function.comp_def] using h1
theorem Struck.step {G G' : TP → ByteArray → Prop} {P P1 P2 : PL} {m : ByteArray} {r : Nat} {D D2 : Tops} {q : TP} (h : Struck G P (P1 ++ (m, r, D) :: P2)) (hn : (P.map (·.1)).Nodup) (hg : ∀ y x, G' y x ↔ (G y x ∨ (y = q ∧ x = m))) (hp : (topTps D).Perm (q :: topTps D2)) (hq : q ∉ topTps D2) (hf : ∀ y ∈ D2, y.2.2 ≠ []) : Struck G' P (P1 ++ (m, r, D2) :: P2) := by
 have hnm : ((P1 ++ (m, r, D) :: P2).map (·.1)).Nodup := by
  have h1 := congrArg (List.map (·.1)) h.1
  simp only [List.map_map, Function.comp_def] at h1
  rw [h1]; exact hn
 refine ⟨by rw [← h.1]; simp, fun m2 r2 D3 hx => ?_⟩
 rcases Zap.1 hx with hx' | hx'
 · have hne : m2 ≠ m := fun e => by
    subst e
    rw [List.map_append, List.nodup_append] at hnm
    exact hnm.2.2 m2 (List.mem_map.2 ⟨_, hx', rfl⟩) m2 (by simp) rfl
   obtain ⟨D0, h1, h2, h3⟩ := h.2 m2 r2 D3 (by simp [hx'])
   refine ⟨D0, h1, ?_, h3⟩
   have e : (fun y => decide (¬ G' y m2)) = (fun y => decide (¬ G y m2)) := by
    funext y
    have := hg y m2
    simp [this, hne]
   rw [e]; exact h2
 · rcases Zmc.1 hx' with e | hx3
   · rw [Prod.mk.injEq, Prod.mk.injEq] at e
     obtain ⟨rfl, rfl, rfl⟩ := e
     obtain ⟨D0, h1, h2, h3⟩ := h.2 m2 r2 D (by simp)
     refine ⟨D0, h1, ?_, hf⟩
     have h5 : (topTps D3).filter (fun y => decide (y ≠ q)) = topTps D3 := List.filter_eq_self.2 (fun y hy => by
      have : y ≠ q := fun e => hq (e ▸ hy)
      simpa using this)
     have h4 := ((h2.symm.trans hp).filter (fun y => decide (y ≠ q)))
     rw [List.filter_cons_of_neg (by simp), h5, List.filter_filter] at h4
     refine h4.symm.trans ?_
     have e : (fun y => decide (y ≠ q) && decide (¬ G y m2)) = (fun y => decide (¬ G' y m2)) := by
      funext y
      have hgy : G' y m2 ↔ (G y m2 ∨ y = q) := by rw [hg]; simp
      rw [Bool.eq_iff_iff, Bool.and_eq_true, decide_eq_true_eq, decide_eq_true_eq, decide_eq_true_eq, hgy, not_or]
      exact and_comm
     rw [e]
   · have hne : m2 ≠ m := fun e => by
      subst e
      rw [List.map_append, List.map_cons, List.nodup_append, List.nodup_cons] at hnm
      exact hnm.2.1.1 (List.mem_map.2 ⟨_, hx3, rfl⟩)
     obtain ⟨D0, h1, h2, h3⟩ := h.2 m2 r2 D3 (by simp [hx3])
     refine ⟨D0, h1, ?_, h3⟩
     have e : (fun y => decide (¬ G' y m2)) = (fun y => decide (¬ G y m2)) := by
      funext y
      have := hg y m2
      simp [this, hne]
     rw [e]; exact h2
theorem St.rowsJoin {S : List Nat} {w0 w : World} {M R : List Res} {V : Value → Prop} {r E sz : Nat} {L : List MRow} (h : St S w0 w (Rs.map r V (rawR L) :: Rs.loose E sz L :: M) R) : St S w0 w (Rs.rows V r E sz L :: M) R := by
 refine h.join (fun h1 h2 h3 => ⟨h1, h2.1, ?_⟩) (fun g hg => ?_)
 · rw [List.nodup_cons]
   exact ⟨fun hx => h3 r (by simp [Rs.map]) hx, h2.2⟩
 · simp only [Rs.rows, Zmc] at hg
   rcases hg with rfl | hg
   · exact .inl (by simp [Rs.map])
   · exact .inr hg
def AdE (S : List Nat) (w : World) (row own : ByteArray → List TP) (Ns : List ByteArray) (it r4 r5 p : Nat) (L4 L5 : List (Value × Value)) (P : PL) (hr : r4 ∈ (Rs.map r4 isTp L4).foot) (wr : World) : Prop :=
 ∃ (En Ef : List (Value × Value)) (P' : PL), (En ++ Ef).Perm L4 ∧ Struck (fun q m => (tpV q, Value.string m) ∈ En ∧ adjR row own Ns q) P P' ∧
  St S w wr [Rs.map r5 isTp L5, Rs.it (Rs.map r4 isTp L4) r4 L4 Ef it hr, Rs.map p isStr (rawP P), Rs.innerD P'] []
def AdjPost (S : List Nat) (w : World) (row own : ByteArray → List TP) (Ns : List ByteArray) (p : Nat) (P : PL) (e : Ending) (w' : World) : Prop :=
 ∃ P' : PL, e = .returned (.tuple #[]) ∧ Struck (fun q m => adjK row own Ns q m ∧ adjR row own Ns q) P P' ∧ St S w w' [Rs.map p isStr (rawP P'), Rs.innerD P'] []
theorem adjust_any (p rm : Nat) (P : PL) (Xs : List Md) (row own : ByteArray → List TP) (w : World) (how : Ow w ([Rs.map p isStr (rawP P), Rs.innerD P] ++ [Rs.map rm isStr (rawMd Xs)])) (hok : AdjOk (foots [Rs.map p isStr (rawP P), Rs.innerD P]) w row own P Xs) :
 Calls Tryz.prog 234 #[.map (some p), .map (some rm)] w (AdjPost (foots [Rs.map p isStr (rawP P), Rs.innerD P]) w row own (Xs.map (·.name)) p P) := by
 have hst0 : St (foots [Rs.map p isStr (rawP P), Rs.innerD P]) w w [Rs.map p isStr (rawP P), Rs.innerD P] [Rs.map rm isStr (rawMd Xs)] := St.start how
 generalize foots [Rs.map p isStr (rawP P), Rs.innerD P] = S at *
 have HOK := Zhd hok; clear hok how
 go_enter Tryz.func234, Tryz.ntmps234
 go_wp2_with (first
  | (refine wl_mkmap (V := isTp) rfl rfl hst1 ?_
     intro r5 w2 hst2 h5)
  | (refine wl_mkmap (V := isTp) rfl rfl hst0 ?_
     intro r4 w1 hst1 h4)
  | (refine wl_rngR 0 rfl rfl rfl Tryz.underlying74 hst2 rfl (by simp [Rs.map]) (hst2.r 0 rfl) ?_
     intro it w3 hst3 hit)
  | fail)
 simp only [Zs0] at hst3
 have hfit : w.heap.size ≤ it := by have := hst2.size; omega
 have HFIT := Zhd hfit; clear hfit hit h4 h5 hst0 hst1 hst2
 have h10 : AdI S w row own rm it r4 r5 p Xs P w3 := ⟨[], Xs, [], [], .refl _, OwnsAre.nil (fun q m h => by simp [adjK] at h), KeysAre.nil (fun q h => by simp [adjR] at h), hst3⟩
 have H10 := Zhd h10; clear h10 hst3
 try go_frame
 go_loopw [6] (fun _ wr => AdI S w row own rm it r4 r5 p Xs P wr) (fun _ wr => leftOf wr it rm)
 case atStart => exact H10.out
 case round =>
  obtain ⟨Dn, Lf, L4, L5, hperm, hL4, hL5, hst⟩ := hrel
  clear H10
  by_cases hlf : rawMd Lf = []
  · have h0 := rawMd_nil hlf
    subst h0
    rw [List.append_nil] at hperm
    have hNs : ∀ m, m ∈ Dn.map (·.name) ↔ m ∈ Xs.map (·.name) := fun m => (hperm.map (·.name)).mem_iff
    have hK4 : OwnsAre L4 (adjK row own (Xs.map (·.name))) := hL4.congr (fun q m => by unfold adjK; rw [hNs])
    have hK5 : KeysAre L5 (adjR row own (Xs.map (·.name))) := hL5.congr (fun q => by
     unfold adjR
     exact ⟨fun ⟨m, h1, h2⟩ => ⟨m, (hNs m).2 h1, h2⟩, fun ⟨m, h1, h2⟩ => ⟨m, (hNs m).1 h1, h2⟩⟩)
    have hit0 : IterAt wr it rm (rawMd Xs) [] := (hst.r 0 rfl).2.1
    have hst1 := hst.noR
    have hnd4 := (show MapAt wr isTp r4 L4 from hst1.m 1 rfl).nodup
    have HK := Zhd (Zan hK4 (Zan hK5 hnd4)); clear hK4 hK5 hL4 hL5 hperm hNs hst hnd4
    go_wp2_with (first
     | (refine wl_nx0 rfl rfl rfl hit0 ?_)
     | (refine wl_rng 1 rfl rfl rfl Tryz.underlying387 hst1 rfl (sco_foot r4 isTp L4) (hst1.m 1 rfl) ?_
        intro it10 w4 hst2 hit10
        simp only [Zs0, Zs1] at hst2)
     | fail)
    have h60 : AdE S w row own (Xs.map (·.name)) it10 r4 r5 p L4 L5 P (sco_foot r4 isTp L4) w4 := ⟨[], L4, P, .refl _, Struck.start (fun q m h => by simp at h) HOK.out.full, hst2⟩
    have H60 := Zhd h60; clear h60 hst2 hst1 hit0 hit10
    try go_frame
    go_loopw [23] (fun _ wr => AdE S w row own (Xs.map (·.name)) it10 r4 r5 p L4 L5 P (sco_foot r4 isTp L4) wr) (fun _ wr => leftOf wr it10 r4)
    case atStart => exact H60.out
    case round =>
     obtain ⟨En, Ef, P', hperm, hstr, hst⟩ := hrel
     clear H60
     by_cases hef : Ef = []
     · subst hef
       rw [List.append_nil] at hperm
       have hit0 : IterAt wr it10 r4 L4 [] := (hst.m 1 rfl).2.1
       have hst5 := (hst.drop 1).drop 0
       simp only [Ze0, Ze1] at hst5
       rw [← hstr.raw] at hst5
       have hfin : AdjPost S w row own (Xs.map (·.name)) p P (.returned (.tuple #[])) wr := ⟨P', rfl, hstr.congr (fun q m => by rw [hperm.mem_iff, HK.out.1.iff]), hst5⟩
       have HF := Zhd hfin; clear hfin hst5 hst hstr hperm
       go_wp2_with (first | (refine wl_nx0 rfl rfl rfl hit0 ?_) | fail)
       go_end0
       exact HF.out
     · obtain ⟨wB, rfl⟩ : ∃ wB, wB = wr := ⟨_, rfl⟩
       go_upto_region 32 with (first
        | (refine wl_nx1 1 (sco_foot r4 isTp L4) rfl rfl rfl hst rfl hef ?_
           intro k v l1 l2 w5 hsp hst2 hent
           simp only [Zs0, Zs1] at hst2
           obtain ⟨q, m, eq⟩ := HK.out.1.form (k, v) (hperm.mem_iff.1 (by rw [hsp]; simp))
           rw [Prod.mk.injEq] at eq
           obtain ⟨rfl, rfl⟩ := eq
           obtain ⟨t, n⟩ := q)
        | fail)
       have hadk : adjK row own (Xs.map (·.name)) (t, n) m := (HK.out.1.iff (t, n) m).1 (hperm.mem_iff.1 (by rw [hsp]; simp))
       have hpst : ((En ++ [(tpV (t, n), Value.string m)]) ++ (l1 ++ l2)).Perm L4 := perm_step (hsp ▸ hperm)
       have hnew : ∀ u, (tpV (t, n), u) ∉ En := key_new HK.out.2.2 (hsp ▸ hperm)
       have hlo : leftOf wB it10 r4 = (l1 ++ l2).length + 1 := by
        have h2 : IterAt wB it10 r4 L4 Ef := (hst.m 1 rfl).2.1
        rw [h2.leftOf, hsp]; simp; omega
       have hbx := hst2.blk (.cells #[.string t, .int .i32 n] 384)
       have cb := hbx.cell2 0 rfl
       have cb2 := hbx.cell2a 0 rfl
       have hm5 : MapAt (w5.alloc (.cells #[.string t, .int .i32 n] 384)) isTp r5 L5 := hbx.m 1 rfl
       clear hst2 hst
       by_cases hR : adjR row own (Xs.map (·.name)) (t, n)
       · have hhit := HK.out.2.1.hit hR
         obtain ⟨x, hx, rfl⟩ := List.mem_map.1 hadk.1
         obtain ⟨r, D0, hD0⟩ := HOK.out.inP x hx
         obtain ⟨⟨m', r', D'⟩, hD', e⟩ : ∃ z ∈ P', (z.1, z.2.1) = (x.name, r) := by
          have : (x.name, r) ∈ P'.map (fun x => (x.1, x.2.1)) := by rw [hstr.1]; exact List.mem_map.2 ⟨_, hD0, rfl⟩
          obtain ⟨z, hz, e⟩ := List.mem_map.1 this
          exact ⟨z, hz, e⟩
         simp only [Prod.mk.injEq] at e
         obtain ⟨rfl, rfl⟩ := e
         obtain ⟨D1, h1, h2, h3⟩ := hstr.2 _ _ _ hD'
         have hrw1 := HOK.out.row _ _ _ h1
         have hD1n : (topTps D1).Nodup ∧ (topTps D1).length ≤ 1000 := by
          have q1 := HOK.out.all
          have q2 := HOK.out.small
          obtain ⟨Q1, Q2, rfl⟩ := List.append_of_mem h1
          rw [List.flatMap_append, List.flatMap_cons, List.nodup_append, List.nodup_append] at q1
          simp only [List.flatMap_append, List.flatMap_cons, List.length_append] at q2
          exact ⟨q1.2.1.1, by omega⟩
         have hqD : (t, n) ∈ topTps D' := h2.mem_iff.2 (List.mem_filter.2 ⟨by rw [← hrw1]; exact hadk.2.1, by simp only [decide_eq_true_eq]; exact fun h => hnew _ h.1⟩)
         have hnD' : (topTps D').Nodup := h2.nodup_iff.2 (hD1n.1.filter _)
         have hlD' : (topTps D').length ≤ 1000 := by
          rw [h2.length_eq]
          exact Nat.le_trans (List.length_filter_le _ _) hD1n.2
         obtain ⟨⟨t', v, xs⟩, hy, hq2⟩ := List.mem_flatMap.1 hqD
         obtain ⟨n', hn, e⟩ := List.mem_map.1 hq2
         simp only [Prod.mk.injEq] at e
         obtain ⟨rfl, rfl⟩ := e
         simp only at hn
         obtain ⟨A, B, rfl⟩ := List.append_of_mem hy
         obtain ⟨ys, zs, rfl⟩ := List.append_of_mem hn
         have htp : ∀ v2, (topTps (A ++ (t', v, ys ++ n' :: zs) :: B)).Perm ((t', n') :: topTps (A ++ (t', v2, ys ++ zs) :: B)) := fun v2 => by
          simp only [topTps, List.flatMap_append, List.flatMap_cons, tpsOf, List.map_append, List.map_cons, List.append_assoc, List.cons_append]
          rw [← List.append_assoc]
          refine List.perm_middle.trans ?_
          rw [List.append_assoc]
         have htp0 : ys = [] → zs = [] → (topTps (A ++ (t', v, ys ++ n' :: zs) :: B)).Perm ((t', n') :: topTps (A ++ B)) := fun e1 e2 => by
          subst e1 e2
          have := htp v
          simp [topTps, tpsOf] at this ⊢
         have hnq := ((htp v).nodup_iff.1 hnD')
         have hnyz : n' ∉ ys ∧ n' ∉ zs := by
          have h := (List.nodup_cons.1 hnq).1
          refine ⟨fun hh => h ?_, fun hh => h ?_⟩
          · exact List.mem_flatMap.2 ⟨(t', v, ys ++ zs), by simp, List.mem_map.2 ⟨n', by simp [hh], rfl⟩⟩
          · exact List.mem_flatMap.2 ⟨(t', v, ys ++ zs), by simp, List.mem_map.2 ⟨n', by simp [hh], rfl⟩⟩
         have hlen : (ys ++ n' :: zs).length ≤ 1000 := by
          have : (ys ++ n' :: zs).length ≤ (topTps (A ++ (t', v, ys ++ n' :: zs) :: B)).length := by
           simp only [topTps, List.flatMap_append, List.flatMap_cons, List.length_append, tpsOf_len]; omega
          omega
         obtain ⟨P1, P2, rfl⟩ := List.append_of_mem hD'
         have hin : (Value.string x.name, Value.map (some r')) ∈ rawP P := by rw [← hstr.raw]; exact List.mem_map.2 ⟨_, hD', rfl⟩
         have hX := hbx.alloc (.cells #[] 433)
         have hf := hX.front 4 rfl
         simp only [Ze0, Ze1] at hf
         have h7 := hf.innerOutD
         have e0 : rowsI (A ++ (t', v, ys ++ n' :: zs) :: B) = rowsI A ++ (.string t', v, i32s (ys ++ n' :: zs)) :: rowsI B := by simp [rowsI]
         unfold Rs.inn at h7
         rw [e0] at h7
         obtain ⟨ln, h8⟩ := h7.rowOut
         have hln : ln = (ys ++ n' :: zs).length := by
          have q1 := (show World.ownsRow _ 0 21 1 v ln (i32s (ys ++ n' :: zs)) from h8.m 1 rfl).1
          simp only [i32s, List.length_map] at q1
          omega
         subst hln
         obtain ⟨g, c, rfl⟩ := own_some (show World.ownsRow _ 0 21 1 v _ (i32s (ys ++ n' :: zs)) from h8.m 1 rfl) (by simp; omega)
         have h9 := h8.front 1 rfl
         simp only [Ze0, Ze1] at h9
         go_upto_region 36 with (first
          | (refine wl_entry rfl rfl rfl hent ?_)
          | (refine wl_lk2 (kv := tpV (t', n')) (vv := .agg #[]) rfl rfl rfl rfl keyT_tp Tryz.underlying431 hm5 hhit ?_)
          | (refine wl_lk (kv := .string x.name) (vv := .map (some r')) rfl rfl rfl rfl (keyT_str Tryz.underlying9) Tryz.underlying82 (show MapAt _ isStr p (rawP P) from h9.m 7 rfl) hin ?_)
          | fail)
         clear hX hf h7 h8 hbx cb cb2 hm5 hent hhit
         generalize hwX : (w5.alloc (.cells #[.string t', .int .i32 n'] 384)).alloc (.cells #[] 433) = wX at h9 ⊢
         generalize w5.heap.size = bt at h9 ⊢
         clear hwX
         obtain ⟨L, hL⟩ : ∃ L, (ys ++ n' :: zs).length = L + 1 := ⟨ys.length + zs.length, by simp; omega⟩
         rw [hL] at h9
         have hmr : MapAt wX isStr r' (rawR (rowsI A ++ (.string t', .slice (some ⟨g, 0, none⟩) (L + 1) c, i32s (ys ++ n' :: zs)) :: rowsI B)) := h9.m 1 rfl
         have hin2 : (Value.string t', Value.slice (some ⟨g, 0, none⟩) (L + 1) c) ∈ rawR (rowsI A ++ (.string t', .slice (some ⟨g, 0, none⟩) (L + 1) c, i32s (ys ++ n' :: zs)) :: rowsI B) := by rw [rawR_append, rawR_cons]; simp
         have hput := rawR_put (v' := .slice (some ⟨g, 0, none⟩) L c) (ys := i32s (ys ++ zs)) hmr
         have hl2 := map_lookup_hit (P := Tryz.prog) hmr.drew (keyT_str Tryz.underlying9) Tryz.underlying90 hin2 false
         simp only [Bool.false_eq_true, if_false] at hl2
         have h9d := h9.drew
         have c2 := (h9d.cell2 4 rfl).1
         have hdel := del_func g (L + 1) c bt ys zs n' t' wX.drew ((h9d.ow).sub (by
          refine List.Sublist.cons_cons _ ?_
          refine List.Sublist.cons _ ?_
          refine List.Sublist.cons _ ?_
          refine List.Sublist.cons _ ?_
          exact List.Sublist.cons_cons _ (List.nil_sublist _))) hL hnyz.1 hnyz.2 (by omega)
         simp only [Nat.add_sub_cancel] at hdel
         have HDEL := Zhd (Zan hdel (Zan h9d (Zan hput hL))); clear hdel h9d hput hmr hin2 hL h9
         have hG : ∀ y z, ((tpV y, Value.string z) ∈ En ++ [(tpV (t', n'), Value.string x.name)] ∧ adjR row own (Xs.map (·.name)) y) ↔ (((tpV y, Value.string z) ∈ En ∧ adjR row own (Xs.map (·.name)) y) ∨ (y = (t', n') ∧ z = x.name)) := fun y z => by
          constructor
          · rintro ⟨q1, q2⟩
            rcases Zap.1 q1 with h | h
            · exact .inl ⟨h, q2⟩
            · simp only [Zmc, Znn, or_false] at h
              rw [Prod.mk.injEq, Value.string.injEq] at h
              exact .inr ⟨tpV_inj h.1, h.2⟩
          · rintro (⟨q1, q2⟩ | ⟨q1, q2⟩)
            · exact ⟨List.mem_append_left _ q1, q2⟩
            · subst q1 q2
              exact ⟨List.mem_append_right _ (by simp), hR⟩
         have hdone : ∀ W D2, (topTps (A ++ (t', Value.slice (some ⟨g, 0, none⟩) (ys ++ n' :: zs).length c, ys ++ n' :: zs) :: B)).Perm ((t', n') :: topTps D2) → (∀ y ∈ D2, y.2.2 ≠ []) → St S w W [Rs.innerD (P1 ++ (x.name, r', D2) :: P2), Rs.map r5 isTp L5, Rs.it (Rs.map r4 isTp L4) r4 L4 (l1 ++ l2) it10 (sco_foot r4 isTp L4), Rs.map p isStr (rawP P)] [] → AdE S w row own (Xs.map (·.name)) it10 r4 r5 p L4 L5 P (sco_foot r4 isTp L4) W ∧ leftOf W it10 r4 < leftOf wB it10 r4 := fun W D2 q1 q2 q3 => by
          have q4 := (List.nodup_cons.1 (q1.nodup_iff.1 hnD')).1
          have q5 := hstr.step (G' := fun y z => (tpV y, Value.string z) ∈ En ++ [(tpV (t', n'), Value.string x.name)] ∧ adjR row own (Xs.map (·.name)) y) HOK.out.pn hG q1 q4 q2
          refine ⟨⟨_, l1 ++ l2, _, hpst, q5, q3.perm (List.perm_append_comm (l₁ := [Rs.innerD (P1 ++ (x.name, r', D2) :: P2)]) (l₂ := [Rs.map r5 isTp L5, Rs.it (Rs.map r4 isTp L4) r4 L4 (l1 ++ l2) it10 (sco_foot r4 isTp L4), Rs.map p isStr (rawP P)]))⟩, ?_⟩
          have q6 : IterAt W it10 r4 L4 (l1 ++ l2) := (q3.m 2 rfl).2.1
          rw [q6.leftOf, hlo]; omega
         have hful : ∀ y ∈ A ++ B, y.2.2 ≠ [] := fun y hy => h3 y (by rcases Zap.1 hy with h | h <;> simp [h])
         have hyz : ys.length + zs.length = L := by have := HDEL.out.2.2.2; simp at this; omega
         have HPL := Zhd (Zan hdone (Zan htp (Zan htp0 (Zan hful hyz)))); clear hstr htp htp0 hnq hpst hlo h3 hnew hD' h1 h2 hrw1 hD1n hqD hnD' hlD' hy hq2 hn hnyz hadk hR hperm hsp e0 hG hdone hful hyz
         go_region_held3 (fun W => W.cell? ⟨bt, 0, none⟩ = some (.string t'))
          (first | exact c4 | exact c3 | exact c2 | fail)
          (first
            | (go_at_call 258
               refine HDEL.out.1.mono ?_
               rintro e w6 ⟨rfl, hd⟩
               have h10 := St.call1 HDEL.out.2.1 hd
               simp only [List.cons_append, List.nil_append] at h10
               have c3 := (h10.cell2 4 rfl).1)
            | (refine up_upd (vv := .slice (some ⟨g, 0, none⟩) L c) 1 (fun _ _ => rfl) (keyT_str Tryz.underlying9) Tryz.underlying90 h10 rfl ⟨_, rfl⟩ ?_
               intro w7 h11
               simp only [Zs0, Zs1] at h11
               rw [HDEL.out.2.2.1] at h11
               have c4 := (h11.cell2 4 rfl).1)
            | fail)
         all_goals
          have hmr : MapAt w7 isStr r' (rawR (rowsI A ++ (.string t', .slice (some ⟨g, 0, none⟩) L c, i32s (ys ++ zs)) :: rowsI B)) := h11.m 1 rfl
          have hin3 : (Value.string t', Value.slice (some ⟨g, 0, none⟩) L c) ∈ rawR (rowsI A ++ (.string t', .slice (some ⟨g, 0, none⟩) L c, i32s (ys ++ zs)) :: rowsI B) := by rw [rawR_append, rawR_cons]; simp
          by_cases hz : L = 0
          · obtain ⟨rfl, rfl⟩ : ys = [] ∧ zs = [] := by
             have := HPL.out.2.2.2.2
             exact ⟨List.eq_nil_of_length_eq_zero (by omega), List.eq_nil_of_length_eq_zero (by omega)⟩
            have hdl : delE (rawR (rowsI A ++ (.string t', .slice (some ⟨g, 0, none⟩) L c, i32s ([] ++ [])) :: rowsI B)) (.string t') = rawR (rowsI (A ++ B)) := by
             have q1 := hmr.nodup
             rw [rawR_append, rawR_cons] at q1 ⊢
             rw [delE_hit q1, rowsI_append, rawR_append]
            have HZ := Zhd hdl; clear hdl
            have hz2 : ((L : Int) == 0) = true := by simp [hz]
            clear hz
            go_wp2_with (first
             | (refine wl_lk (kv := .string t') (vv := .slice (some ⟨g, 0, none⟩) L c) rfl rfl rfl rfl (keyT_str Tryz.underlying9) Tryz.underlying90 hmr hin3 ?_)
             | (refine wl_del (kv := .string t') 1 rfl rfl rfl rfl (keyT_str Tryz.underlying9) Tryz.underlying90 h11 rfl ⟨_, rfl⟩ ?_
                intro w8 h12
                simp only [Zs0, Zs1] at h12)
             | fail)
            rw [HZ.out, ← rowsI_append] at h12
            have h13 := h12.drop 0
            simp only [Ze0] at h13
            have h14 := (St.rowsJoin h13).innerInD x.name
            have h15 := h14.drop 1
            simp only [Ze0, Ze1] at h15
            obtain ⟨hnx, hle⟩ := HPL.out.1 _ (A ++ B) (HPL.out.2.2.1 (by trivial) (by trivial)) HPL.out.2.2.2.1 h15
            first
            | exact ⟨hnx, hle⟩
            | (refine ⟨?_, hle⟩
               (repeat apply Exists.intro)
               exact ⟨hnx, rfl⟩)
          · have hz2 : ((L : Int) == 0) = false := by simp; omega
            go_wp2_with (first
             | (refine wl_lk (kv := .string t') (vv := .slice (some ⟨g, 0, none⟩) L c) rfl rfl rfl rfl (keyT_str Tryz.underlying9) Tryz.underlying90 hmr hin3 ?_)
             | fail)
            have h12 := h11.front 1 rfl
            simp only [Ze0, Ze1] at h12
            have h13 := St.rowIn h12
            have e5 : rowsI A ++ (.string t', .slice (some ⟨g, 0, none⟩) L c, i32s (ys ++ zs)) :: rowsI B = rowsI (A ++ (t', .slice (some ⟨g, 0, none⟩) L c, ys ++ zs) :: B) := by simp [rowsI]
            rw [e5] at h13
            have h14 := St.innerInD x.name h13
            have h15 := h14.drop 1
            simp only [Ze0, Ze1] at h15
            obtain ⟨hnx, hle⟩ := HPL.out.1 _ (A ++ (t', .slice (some ⟨g, 0, none⟩) L c, ys ++ zs) :: B) (HPL.out.2.1 _) (fun y hy => by
             rcases Zap.1 hy with h | h
             · exact HPL.out.2.2.2.1 y (List.mem_append_left _ h)
             · rcases Zmc.1 h with rfl | h
               · intro e
                 have q1 := HPL.out.2.2.2.2
                 have e' : ys ++ zs = [] := e
                 have q2 := congrArg List.length e'
                 rw [List.length_append, List.length_nil] at q2
                 omega
               · exact HPL.out.2.2.2.1 y (List.mem_append_right _ h)) h15
            first
            | exact ⟨hnx, hle⟩
            | (refine ⟨?_, hle⟩
               (repeat apply Exists.intro)
               exact ⟨hnx, rfl⟩)
       · have hmiss := HK.out.2.1.miss hR
         have hstr2 : Struck (fun y x => (tpV y, Value.string x) ∈ En ++ [(tpV (t, n), Value.string m)] ∧ adjR row own (Xs.map (·.name)) y) P P' := hstr.congr (fun y x => by
          constructor
          · rintro ⟨h1, h2⟩
            rcases Zap.1 h1 with h | h
            · exact ⟨h, h2⟩
            · simp only [Zmc, Znn, or_false] at h
              rw [Prod.mk.injEq] at h
              have := tpV_inj h.1
              subst this
              exact absurd h2 hR
          · rintro ⟨h1, h2⟩
            exact ⟨List.mem_append_left _ h1, h2⟩)
         have HN := Zhd (Zan hstr2 (Zan hmiss (Zan hpst hlo))); clear hstr2 hmiss hpst hlo hstr hnew hadk hR hperm hsp
         go_wp2_with (first
          | (refine wl_entry rfl rfl rfl hent ?_)
          | (refine wl_lkN2 (kv := tpV (t, n)) (vv := .agg #[]) rfl rfl rfl rfl keyT_tp Tryz.underlying431 hm5 ⟨_, _, rfl⟩ HN.out.2.1 (Tryz.zeroValue433 _) ?_)
          | fail)
         have hst10 := (hbx.alloc (.cells #[] 433)).drop 0
         simp only [Ze0] at hst10
         have hnx : AdE S w row own (Xs.map (·.name)) it10 r4 r5 p L4 L5 P (sco_foot r4 isTp L4) ((w5.alloc (.cells #[.string t, .int .i32 n] 384)).alloc (.cells #[] 433)) := ⟨_, l1 ++ l2, P', HN.out.2.2.1, HN.out.1, hst10⟩
         have hle : leftOf ((w5.alloc (.cells #[.string t, .int .i32 n] 384)).alloc (.cells #[] 433)) it10 r4 < leftOf wB it10 r4 := by
          have h1 : IterAt ((w5.alloc (.cells #[.string t, .int .i32 n] 384)).alloc (.cells #[] 433)) it10 r4 L4 (l1 ++ l2) := (hst10.m 1 rfl).2.1
          rw [h1.leftOf, HN.out.2.2.2]; omega
         first
         | exact ⟨hnx, hle⟩
         | (refine ⟨?_, hle⟩
            (repeat apply Exists.intro)
            exact ⟨hnx, rfl⟩)
  · obtain ⟨wB, rfl⟩ : ∃ wB, wB = wr := ⟨_, rfl⟩
    have HL := Zhd (Zan hperm (Zan hL4 hL5)); clear hperm hL4 hL5
    go_wp2_with (first
     | (refine wl_nx1R 0 (by simp [Rs.map]) rfl rfl rfl hst rfl hlf HFIT.out ?_
        intro k v l1 l2 w5 hsp hst2 hent
        simp only [Zs0] at hst2
        obtain ⟨L1, x, L2, rfl, rfl, rfl, rfl, rfl⟩ := rawMd_split hsp
        have hxM : x ∈ Xs := HL.out.1.mem_iff.1 (by simp)
        obtain ⟨ver, gg, ta, oa, da, tn, tc, dn, dc, on, oc, ra, hval, hon, h257⟩ := (HOK.out.md x hxM).ex
        rw [hval] at hent
        have HS := Zhd (Zan hsp (Zan hxM (Zan h257 hval))); clear hsp hxM h257 hval)
     | (refine wl_entry rfl rfl rfl hent ?_)
     | (refine wl_mkmapN (V := isTp) rfl rfl rfl Tryz.underlying431 (hst2.blk (.cells #[.int .i16 ver, .slice ta tn tc, .slice da dn dc, .slice oa on oc, .int .i32 gg, .pointer ra] 78)) ?_
        intro r8 w6 hst3 h8
        have c83 : w6.cell? ⟨w5.heap.size, 3, none⟩ = some (.slice oa on oc) := (cells_of (show w6.heap[w5.heap.size]? = some (.cells #[.int .i16 ver, .slice ta tn tc, .slice da dn dc, .slice oa on oc, .int .i32 gg, .pointer ra] 78 (0, 0)) from hst3.m 1 rfl)).1 3 _ rfl)
     | (go_at_call 257
        refine (HS.out.2.2.1 _ hst3.kept).mono ?_
        rintro e w7 ⟨pv, N, rfl, hN, hst4⟩
        have hst5 := (St.call (M1 := []) hst3 hst4).drop 2
        obtain ⟨pa, pn, pc, rfl⟩ := own_form (show w7.ownsRow 0 384 2 pv N _ from hst4.m 0 rfl)
        obtain rfl := own_len (show w7.ownsRow 0 384 2 (.slice pa pn pc) N _ from hst4.m 0 rfl))
     | fail)
    simp only [List.nil_append, List.cons_append, Ze0, Ze1] at hst5
    have h20 : AdA S w r8 (.slice pa pn pc) pn x.parts (adM r4 r5 p L4 L5 P) [itMd rm Xs (rawMd L1 ++ rawMd L2) it] (.int .i64 0) w7 := ⟨0, [], rfl, Nat.zero_le _, KeysAre.nil (by simp), hst5⟩
    have H20 := Zhd (Zan h20 hN); clear h20 hst5 hst4 hst3 hst2 hent h8 hN
    try go_frame
    go_loopw [44] (fun i wr => AdA S w r8 (.slice pa pn pc) pn x.parts (adM r4 r5 p L4 L5 P) [itMd rm Xs (rawMd L1 ++ rawMd L2) it] i wr) (fun i _ => pn - (intOf i).toNat)
    case atStart => exact H20.out.1
    case round =>
     obtain ⟨k, L8, rfl, hk, hL8, hst6⟩ := hrel
     by_cases hkn : k < pn
     · obtain ⟨q, hq⟩ : ∃ q, x.parts[k]? = some q := ⟨_, List.getElem?_eq_getElem (by rw [H20.out.2]; exact hkn)⟩
       obtain ⟨g0, c0, ev⟩ := own_some (show wr.ownsRow 0 384 2 (.slice pa pn pc) pn _ from hst6.m 0 rfl) (by omega)
       cases ev
       obtain ⟨g1, g2⟩ := tp_get hq
       have c1 := (own_cell (show wr.ownsRow 0 384 2 _ pn _ from hst6.m 0 rfl) g1).1
       have c2 := (own_cell (show wr.ownsRow 0 384 2 _ pn _ from hst6.m 0 rfl) g2).1
       have hki : (k : Int) < (pn : Int) := by omega
       have hpb : pn ≤ 100000 := by have := HOK.out.osmall x HS.out.2.1; have := H20.out.2; omega
       have hnx : KeysAre (putE L8 (tpV q) (.agg #[])) (fun y => y ∈ x.parts.take (k + 1)) := hL8.put q (fun y => by
        obtain ⟨hk1, e1⟩ := List.getElem?_eq_some_iff.1 hq
        rw [List.take_succ_eq_append_getElem hk1, e1]; simp)
       have HN := Zhd hnx; clear hnx hL8 hq g1 g2
       go_wp2_with (first
        | (refine wl_upd (kv := tpV q) (vv := .agg #[]) 1 rfl rfl rfl rfl rfl keyT_tp Tryz.underlying431 (hst6.alloc _) rfl ⟨_, _, rfl⟩ ?_
           intro w8 hst7
           simp only [Zs0, Zs1] at hst7)
        | fail)
       exact ⟨⟨k + 1, _, by go_num, by omega, HN.out, hst7⟩, by simp [intOf]; omega⟩
     · obtain rfl : k = pn := by omega
       rw [List.take_of_length_le (by rw [H20.out.2]; exact Nat.le_refl _)] at hL8
       obtain ⟨r, D, hrD⟩ := HOK.out.inP x HS.out.2.1
       have hin : (Value.string x.name, Value.map (some r)) ∈ rawP P := List.mem_map.2 ⟨_, hrD, rfl⟩
       have hft : r ∈ (Rs.innerD P).foot := List.mem_flatMap.2 ⟨_, hrD, by simp⟩
       have hro : ∀ W, (Rs.innerD P).holds W → RowsAt W isStr r 21 1 (rowsI D) := fun W h => h.1 _ hrD
       have hmp : ∀ W, (Rs.innerD P).holds W → MapAt W isStr r (rawT D) := fun W h => by
        have := (hro W h).map
        rw [rowsI_raw] at this; exact this
       have HD := Zhd (Zan hrD (Zan hin (Zan hro (Zan hmp hL8)))); clear hrD hin hro hmp hL8
       go_wp2_with (first
        | (refine wl_mkmap (V := isTp) rfl rfl hst6 ?_
           intro r11 w8 hst7 h11)
        | (refine wl_lk (kv := .string x.name) (vv := .map (some r)) rfl rfl rfl rfl (keyT_str Tryz.underlying9) Tryz.underlying82 (show MapAt _ isStr p (rawP P) from hst7.m 5 rfl) HD.out.2.1 ?_)
        | (refine wl_rng 6 rfl rfl rfl Tryz.underlying90 hst7 rfl hft (HD.out.2.2.2.1 _ (hst7.m 6 rfl)) ?_
           intro it4 w9 hst8 hit4)
        | fail)
       simp only [Zs0, Zs1] at hst8
       have h30 : AdB S w row own r it4 r4 r5 r8 r11 p x.name (Dn.map (·.name)) D P hft (Rs.row 384 2 (.slice pa k pc) k (x.parts.flatMap encTp)) L5 L8 [itMd rm Xs (rawMd L1 ++ rawMd L2) it] w9 := ⟨[], D, L4, [], .refl _, KeysAre.nil (by simp [topTps]), HL.out.2.1.congr (fun y m' => by simp [topTps]), hst8⟩
       have H30 := Zhd h30; clear h30 hst8 hst7 hst6 hit4 h11
       have hDn : (topTps D).Nodup := by
        have h1 := HOK.out.all
        obtain ⟨P1, P2, rfl⟩ := List.append_of_mem HD.out.1
        rw [List.flatMap_append, List.flatMap_cons, List.nodup_append, List.nodup_append] at h1
        exact h1.2.1.1
       have hDl : ∀ t xv xs, (t, xv, xs) ∈ D → xs.length ≤ 1000 := fun t xv xs hx => by
        have h1 := HOK.out.small
        obtain ⟨P1, P2, rfl⟩ := List.append_of_mem HD.out.1
        obtain ⟨D1, D2, rfl⟩ := List.append_of_mem hx
        simp only [List.flatMap_append, List.flatMap_cons, List.length_append, topTps, tpsOf_len] at h1
        omega
       have hrow := HOK.out.row _ _ _ HD.out.1
       have hown := HOK.out.own x HS.out.2.1
       have hxN : x.name ∈ Xs.map (·.name) := List.mem_map_of_mem HS.out.2.1
       have hnDn : x.name ∉ Dn.map (·.name) := fun h => by
        have h1 := (HL.out.1.map (·.name)).nodup_iff.2 HOK.out.names
        rw [List.map_append, List.map_append, List.map_cons, List.nodup_append] at h1
        exact h1.2.2 x.name h x.name (by simp) rfl
       have hDnX : ∀ m ∈ Dn.map (·.name), m ∈ Xs.map (·.name) := fun m h => (HL.out.1.map (·.name)).mem_iff.1 (by rw [List.map_append]; exact List.mem_append_left _ h)
       have HE := Zhd (Zan hDn (Zan hDl (Zan hrow (Zan hown (Zan hxN (Zan hnDn hDnX)))))); clear hDn hDl hrow hown hxN hnDn hDnX
       try go_frame
       go_loopw [12] (fun _ wr => AdB S w row own r it4 r4 r5 r8 r11 p x.name (Dn.map (·.name)) D P hft (Rs.row 384 2 (.slice pa k pc) k (x.parts.flatMap encTp)) L5 L8 [itMd rm Xs (rawMd L1 ++ rawMd L2) it] wr) (fun _ wr => leftOf wr it4 r)
       case atStart => exact H30.out
       case round =>
        obtain ⟨Tn, Tf, L4b, L11, hperm4, hL11, hL4, hst6⟩ := hrel
        clear H30
        by_cases hlf4 : rawT Tf = []
        · obtain rfl : Tf = [] := by simpa [rawT] using hlf4
          rw [List.append_nil] at hperm4
          have hit0 : IterAt wr it4 r (rawT D) [] := (hst6.m 6 rfl).2.1
          have hst7 := hst6.weak 6 rfl (X' := Rs.innerD P) (fun h => h.1) (fun g hg => List.mem_append_left [it4] hg)
          simp only [Zs0, Zs1] at hst7
          have hrq : ∀ q, q ∈ topTps Tn ↔ q ∈ row x.name := fun q => by rw [HE.out.2.2.1]; exact (topTps_perm hperm4).mem_iff
          have hK4 : OwnsAre L4b (adjK row own ((Dn ++ [x]).map (·.name))) := hL4.congr (fun y m' => by
           rw [hrq, List.map_append]
           constructor
           · rintro ⟨h1, h2, h3⟩
             rcases Zap.1 h1 with h | h
             · exact .inl ⟨h, h2, h3⟩
             · simp only [List.map_cons, List.map_nil, Zmc, Znn, or_false] at h
               subst h
               exact .inr ⟨rfl, h2, h3⟩
           · rintro (⟨h1, h2, h3⟩ | ⟨h1, h2, h3⟩)
             · exact ⟨List.mem_append_left _ h1, h2, h3⟩
             · subst h1
               exact ⟨List.mem_append_right _ (by simp), h2, h3⟩)
          have hK11 : KeysAre L11 (fun q => q ∈ row x.name) := hL11.congr (fun q => (hrq q).symm)
          have HF := Zhd (Zan hK4 hK11); clear hK4 hK11 hL4 hL11 hrq hperm4
          go_wp2_with (first
           | (refine wl_nx0 rfl rfl rfl hit0 ?_)
           | (refine wl_rng 2 rfl rfl rfl Tryz.underlying431 hst7 rfl (sco_foot r8 isTp L8) (hst7.m 2 rfl) ?_
              intro it8 w10 hst8 hit8
              simp only [Zs0, Zs1] at hst8)
           | fail)
          have h50 : AdD S w row own r8 it8 r5 x.name (Dn.map (·.name)) L8 [Rs.map r4 isTp L4b, Rs.map p isStr (rawP P), Rs.innerD P] (sco_foot r8 isTp L8) [Rs.map r11 isTp L11, Rs.row 384 2 (.slice pa k pc) k (x.parts.flatMap encTp)] [itMd rm Xs (rawMd L1 ++ rawMd L2) it] w10 := ⟨[], L8, L5, .refl _, HL.out.2.2.congr (fun q => by simp), hst8⟩
          have H50 := Zhd h50; clear h50 hst8 hst7 hst6 hit8 hit0
          try go_frame
          go_loopw [21] (fun _ wr => AdD S w row own r8 it8 r5 x.name (Dn.map (·.name)) L8 [Rs.map r4 isTp L4b, Rs.map p isStr (rawP P), Rs.innerD P] (sco_foot r8 isTp L8) [Rs.map r11 isTp L11, Rs.row 384 2 (.slice pa k pc) k (x.parts.flatMap encTp)] [itMd rm Xs (rawMd L1 ++ rawMd L2) it] wr) (fun _ wr => leftOf wr it8 r8)
          case atStart => exact H50.out
          case round =>
           obtain ⟨En, Ef, L5b, hperm8, hL5, hst8⟩ := hrel
           clear H50
           have hK8 : KeysAre L8 (fun q => q ∈ x.parts) := HD.out.2.2.2.2
           by_cases hlf8 : Ef = []
           · subst hlf8
             rw [List.append_nil] at hperm8
             have hit0 : IterAt wr it8 r8 L8 [] := (hst8.m 2 rfl).2.1
             have hK5 : KeysAre L5b (adjR row own ((Dn ++ [x]).map (·.name))) := hL5.congr (fun q => by
              rw [hperm8.mem_iff, hK8.iff, ← HE.out.2.2.2.1, List.map_append]
              constructor
              · rintro ⟨m, h1, h2, h3⟩
                rcases Zap.1 h1 with h | h
                · exact .inl ⟨m, h, h2, h3⟩
                · simp only [List.map_cons, List.map_nil, Zmc, Znn, or_false] at h
                  subst h
                  exact .inr ⟨h2, h3⟩
              · rintro (⟨m, h1, h2, h3⟩ | ⟨h2, h3⟩)
                · exact ⟨m, List.mem_append_left _ h1, h2, h3⟩
                · exact ⟨x.name, List.mem_append_right _ (by simp), h2, h3⟩)
             have hst9 := ((hst8.drop 2).drop 1).drop 0
             simp only [List.cons_append, List.nil_append, Ze0, Ze1] at hst9
             have e : rawMd L1 ++ rawMd L2 = rawMd (L1 ++ L2) := by rw [rawMd_append]
             simp only [e] at hst9
             have hfin : AdI S w row own rm it r4 r5 p Xs P wr := ⟨Dn ++ [x], L1 ++ L2, L4b, L5b, perm_step HL.out.1, HF.out.1, hK5, hst9⟩
             have h1 : IterAt wr it rm (rawMd Xs) (rawMd (L1 ++ L2)) := (hst9.r 0 rfl).2.1
             have h2 : IterAt wB it rm (rawMd Xs) _ := (hst.r 0 rfl).2.1
             have hle : leftOf wr it rm < leftOf wB it rm := by
              rw [h1.leftOf, h2.leftOf, HS.out.1, ← e]; simp
             have HN := Zhd (Zan hfin hle); clear hfin hle hst9 hst8 hK5 hL5 hK8 hperm8 h1 h2
             go_wp2_with (first | (refine wl_nx0 rfl rfl rfl hit0 ?_) | fail)
             exact HN.out
           · obtain ⟨wD, rfl⟩ : ∃ wD, wD = wr := ⟨_, rfl⟩
             go_upto_region 26 with (first
              | (refine wl_nx1 2 (sco_foot r8 isTp L8) rfl rfl rfl hst8 rfl hlf8 ?_
                 intro k8 v8 l5 l6 w11 hsp8 hst9 hent8
                 simp only [List.cons_append, List.nil_append, Zs0, Zs1] at hst9
                 obtain ⟨q, eq⟩ := hK8.form (k8, v8) (hperm8.mem_iff.1 (by rw [hsp8]; simp))
                 rw [Prod.mk.injEq] at eq
                 obtain ⟨rfl, rfl⟩ := eq)
              | fail)
             have hbx := hst9.blk (.cells #[.string q.1, .int .i32 q.2] 384)
             have cb := hbx.cell2 0 rfl
             have cb2 := hbx.cell2a 0 rfl
             have hm11 : MapAt (w11.alloc (.cells #[.string q.1, .int .i32 q.2] 384)) isTp r11 L11 := hbx.m 1 rfl
             have hpst : ((En ++ [(tpV q, Value.agg #[])]) ++ (l5 ++ l6)).Perm L8 := perm_step (hsp8 ▸ hperm8)
             have hlo : leftOf wD it8 r8 = (l5 ++ l6).length + 1 := by
              have h2 : IterAt wD it8 r8 L8 Ef := (hst8.m 2 rfl).2.1
              rw [h2.leftOf, hsp8]; simp; omega
             by_cases hqr : q ∈ row x.name
             · have hhit := HF.out.2.hit hqr
               have hK5 : KeysAre L5b (fun y => adjR row own (Dn.map (·.name)) y ∨ ((tpV y, Value.agg #[]) ∈ En ++ [(tpV q, Value.agg #[])] ∧ y ∉ row x.name)) := hL5.congr (fun y => by
                constructor
                · rintro (h | ⟨h1, h2⟩)
                  · exact .inl h
                  · rcases Zap.1 h1 with h | h
                    · exact .inr ⟨h, h2⟩
                    · simp only [Zmc, Znn, or_false, Prod.mk.injEq, and_true] at h
                      have := tpV_inj h
                      subst this
                      exact absurd hqr h2
                · rintro (h | ⟨h1, h2⟩)
                  · exact .inl h
                  · exact .inr ⟨List.mem_append_left _ h1, h2⟩)
               have HN := Zhd (Zan hK5 (Zan hhit (Zan hpst (Zan hlo hsp8)))); clear hK5 hhit hpst hlo hL5 hqr hperm8 hsp8 hK8
               go_wp2_with (first
                | (refine wl_entry rfl rfl rfl hent8 ?_)
                | (refine wl_lk2 (kv := tpV q) (vv := .agg #[]) rfl rfl rfl rfl keyT_tp Tryz.underlying431 hm11 HN.out.2.1 ?_)
                | fail)
               have hst10 := (hbx.alloc (.cells #[] 433)).drop 0
               simp only [Ze0] at hst10
               have hnx : AdD S w row own r8 it8 r5 x.name (Dn.map (·.name)) L8 [Rs.map r4 isTp L4b, Rs.map p isStr (rawP P), Rs.innerD P] (sco_foot r8 isTp L8) [Rs.map r11 isTp L11, Rs.row 384 2 (.slice pa k pc) k (x.parts.flatMap encTp)] [itMd rm Xs (rawMd L1 ++ rawMd L2) it] ((w11.alloc (.cells #[.string q.1, .int .i32 q.2] 384)).alloc (.cells #[] 433)) := ⟨En ++ [(tpV q, .agg #[])], l5 ++ l6, L5b, HN.out.2.2.1, HN.out.1, hst10⟩
               have hle : leftOf ((w11.alloc (.cells #[.string q.1, .int .i32 q.2] 384)).alloc (.cells #[] 433)) it8 r8 < leftOf wD it8 r8 := by
                have h1 : IterAt ((w11.alloc (.cells #[.string q.1, .int .i32 q.2] 384)).alloc (.cells #[] 433)) it8 r8 L8 (l5 ++ l6) := (hst10.m 2 rfl).2.1
                rw [h1.leftOf, HN.out.2.2.2.1]; omega
               first
               | exact ⟨hnx, hle⟩
               | (refine ⟨?_, hle⟩
                  (repeat apply Exists.intro)
                  exact ⟨hnx, rfl⟩)
             · have hmiss := HF.out.2.miss hqr
               have hK5 : KeysAre (putE L5b (tpV q) (.agg #[])) (fun y => adjR row own (Dn.map (·.name)) y ∨ ((tpV y, Value.agg #[]) ∈ En ++ [(tpV q, Value.agg #[])] ∧ y ∉ row x.name)) := hL5.put q (fun y => by
                constructor
                · rintro (h | ⟨h1, h2⟩)
                  · exact .inl (.inl h)
                  · rcases Zap.1 h1 with h | h
                    · exact .inl (.inr ⟨h, h2⟩)
                    · simp only [Zmc, Znn, or_false, Prod.mk.injEq, and_true] at h
                      exact .inr (tpV_inj h)
                · rintro ((h | ⟨h1, h2⟩) | h)
                  · exact .inl h
                  · exact .inr ⟨List.mem_append_left _ h1, h2⟩
                  · subst h
                    exact .inr ⟨List.mem_append_right _ (by simp), hqr⟩)
               have HN := Zhd (Zan hK5 (Zan hmiss (Zan hpst (Zan hlo hsp8)))); clear hK5 hmiss hpst hlo hL5 hqr hperm8 hsp8 hK8
               go_wp2_with (first
                | (refine wl_entry rfl rfl rfl hent8 ?_)
                | (refine wl_lkN2 (kv := tpV q) (vv := .agg #[]) rfl rfl rfl rfl keyT_tp Tryz.underlying431 hm11 ⟨_, _, rfl⟩ HN.out.2.1 (Tryz.zeroValue433 _) ?_)
                | (refine wl_upd (kv := tpV q) (vv := .agg #[]) 4 rfl rfl rfl rfl rfl keyT_tp Tryz.underlying431 (hbx.alloc _) rfl ⟨_, _, rfl⟩ ?_
                   intro w12 hst10
                   simp only [Zs0, Zs1] at hst10)
                | fail)
               have hst11 := hst10.drop 0
               simp only [Ze0] at hst11
               have hnx : AdD S w row own r8 it8 r5 x.name (Dn.map (·.name)) L8 [Rs.map r4 isTp L4b, Rs.map p isStr (rawP P), Rs.innerD P] (sco_foot r8 isTp L8) [Rs.map r11 isTp L11, Rs.row 384 2 (.slice pa k pc) k (x.parts.flatMap encTp)] [itMd rm Xs (rawMd L1 ++ rawMd L2) it] w12 := ⟨En ++ [(tpV q, .agg #[])], l5 ++ l6, _, HN.out.2.2.1, HN.out.1, hst11⟩
               have hle : leftOf w12 it8 r8 < leftOf wD it8 r8 := by
                have h1 : IterAt w12 it8 r8 L8 (l5 ++ l6) := (hst11.m 2 rfl).2.1
                rw [h1.leftOf, HN.out.2.2.2.1]; omega
               first
               | exact ⟨hnx, hle⟩
               | (refine ⟨?_, hle⟩
                  (repeat apply Exists.intro)
                  exact ⟨hnx, rfl⟩)
        · obtain ⟨wC, rfl⟩ : ∃ wC, wC = wr := ⟨_, rfl⟩
          have HF := Zhd (Zan hperm4 (Zan hL11 hL4)); clear hperm4 hL11 hL4
          go_wp2_with (first
           | (refine wl_nx1 6 hft rfl rfl rfl hst6 rfl hlf4 ?_
              intro k4 v4 l3 l4 w10 hsp4 hst7 hent4
              simp only [Zs0, Zs1] at hst7
              obtain ⟨T1, y, T2, rfl, rfl, rfl, rfl, rfl⟩ := rawT_split hsp4
              obtain ⟨t, xv, xs⟩ := y
              have htD : (t, xv, xs) ∈ D := HF.out.1.mem_iff.1 (by simp)
              obtain ⟨hrw, xa, xc, hxv⟩ := inn_row (HD.out.2.2.1 _ (show (Rs.innerD P).holds w10 from (hst7.m 6 rfl).1)) htD
              subst hxv
              have HG := Zhd (Zan hsp4 (Zan htD hrw)); clear hsp4 htD hrw)
           | (refine wl_entry rfl rfl rfl hent4 ?_)
           | fail)
          have h40 : AdC S w row own r4 r5 r8 r11 p x.name (Dn.map (·.name)) Tn t xs P (Rs.row 384 2 (.slice pa k pc) k (x.parts.flatMap encTp)) (Rs.it (Rs.innerD P) r (rawT D) (rawT T1 ++ rawT T2) it4 hft) L5 L8 [itMd rm Xs (rawMd L1 ++ rawMd L2) it] (.int .i64 0) w10 := ⟨0, L4b, L11, rfl, Nat.zero_le _, HF.out.2.1.congr (fun y => by simp [tpsOf]), HF.out.2.2.congr (fun y m' => by simp [tpsOf]), hst7⟩
          have H40 := Zhd h40; clear h40 hst7 hent4
          have hxb : xs.length ≤ 1000 := HE.out.2.1 _ _ _ HG.out.2.1
          try go_frame
          go_loopw [64] (fun i wr => AdC S w row own r4 r5 r8 r11 p x.name (Dn.map (·.name)) Tn t xs P (Rs.row 384 2 (.slice pa k pc) k (x.parts.flatMap encTp)) (Rs.it (Rs.innerD P) r (rawT D) (rawT T1 ++ rawT T2) it4 hft) L5 L8 [itMd rm Xs (rawMd L1 ++ rawMd L2) it] i wr) (fun i _ => xs.length - (intOf i).toNat)
          case atStart => exact H40.out
          case round =>
           obtain ⟨j, L4c, L11c, rfl, hj, hL11, hL4, hst7⟩ := hrel
           clear H40
           by_cases hjn : j < xs.length
           · obtain ⟨n, hn⟩ : ∃ n, xs[j]? = some n := ⟨_, List.getElem?_eq_getElem hjn⟩
             obtain ⟨hrw, _⟩ := inn_row (HD.out.2.2.1 _ (show (Rs.innerD P).holds wr from (hst7.m 6 rfl).1)) HG.out.2.1
             obtain ⟨g0, c0, ev⟩ := own_some hrw (by omega)
             cases ev
             have c1 := (own_cell hrw (i32s_get hn)).1
             have hji : (j : Int) < (xs.length : Int) := by omega
             have hqr : (t, n) ∈ row x.name := by
              rw [HE.out.2.2.1]
              exact List.mem_flatMap.2 ⟨_, HG.out.2.1, List.mem_map.2 ⟨n, List.mem_of_getElem? hn, rfl⟩⟩
             have hnew := topsQ_new HF.out.1 HE.out.1 hn
             have hsn := tpsOf_snoc (topTps Tn) t xs j n hn
             have hfr : ∀ m', ¬ (adjK row own (Dn.map (·.name)) (t, n) m' ∨ (m' = x.name ∧ (t, n) ∈ topTps Tn ++ tpsOf (t, xs.take j) ∧ (t, n) ∉ own x.name)) := fun m' h => by
              rcases h with ⟨h1, h2, _⟩ | ⟨_, h1, _⟩
              · have := HOK.out.uniq HE.out.2.2.2.2.1 (HE.out.2.2.2.2.2.2 m' h1) hqr h2
                rw [this] at h1
                exact HE.out.2.2.2.2.2.1 h1
              · exact hnew h1
             have hK11 : KeysAre (putE L11c (tpV (t, n)) (.agg #[])) (fun y => y ∈ topTps Tn ++ tpsOf (t, xs.take (j + 1))) := hL11.put (t, n) (fun y => by rw [← hsn, Zap, List.mem_singleton])
             by_cases hqo : (t, n) ∈ x.parts
             · have hhit := (show KeysAre L8 (fun q => q ∈ x.parts) from HD.out.2.2.2.2).hit hqo
               have hK4 : OwnsAre L4c (fun q m' => adjK row own (Dn.map (·.name)) q m' ∨ (m' = x.name ∧ q ∈ topTps Tn ++ tpsOf (t, xs.take (j + 1)) ∧ q ∉ own x.name)) := hL4.congr (fun y m' => by
                rw [← hsn]
                constructor
                · rintro (h | ⟨h1, h2, h3⟩)
                  · exact .inl h
                  · rcases Zap.1 h2 with h | h
                    · exact .inr ⟨h1, h, h3⟩
                    · simp only [Zmc, Znn, or_false] at h
                      subst h
                      exact absurd (by rw [HE.out.2.2.2.1]; exact hqo) h3
                · rintro (h | ⟨h1, h2, h3⟩)
                  · exact .inl h
                  · exact .inr ⟨h1, List.mem_append_left _ h2, h3⟩)
               have HN := Zhd (Zan hK11 (Zan hK4 hhit)); clear hK11 hK4 hhit hfr hnew hsn hqr hrw hL11 hL4 hn hqo
               go_wp2_with (first
                | (refine wl_upd (kv := tpV (t, n)) (vv := .agg #[]) 1 rfl rfl rfl rfl rfl keyT_tp Tryz.underlying431 (hst7.blk (.cells #[.string t, .int .i32 n] 384)) rfl ⟨_, _, rfl⟩ ?_
                   intro w11 hst8
                   simp only [Zs0, Zs1] at hst8
                   have cb := hst8.cell2 0 rfl)
                | (refine wl_lk2 (kv := tpV (t, n)) (vv := .agg #[]) rfl rfl rfl rfl keyT_tp Tryz.underlying431 (show MapAt w11 isTp r8 L8 from hst8.m 3 rfl) HN.out.2.2 ?_)
                | fail)
               have hst9 := (hst8.alloc (.cells #[] 433)).drop 0
               simp only [Ze0] at hst9
               have hnx : AdC S w row own r4 r5 r8 r11 p x.name (Dn.map (·.name)) Tn t xs P (Rs.row 384 2 (.slice pa k pc) k (x.parts.flatMap encTp)) (Rs.it (Rs.innerD P) r (rawT D) (rawT T1 ++ rawT T2) it4 hft) L5 L8 [itMd rm Xs (rawMd L1 ++ rawMd L2) it] (.int .i64 ((j : Nat) + 1)) (w11.alloc (.cells #[] 433)) := ⟨j + 1, L4c, _, by go_num, by omega, HN.out.1, HN.out.2.1, hst9⟩
               have hle : xs.length - (intOf (.int .i64 ((j : Nat) + 1))).toNat < xs.length - (intOf (.int .i64 j)).toNat := by simp [intOf]; omega
               first
               | exact ⟨hnx, hle⟩
               | (go_frame
                  exact ⟨hnx, hle⟩)
               | (refine ⟨?_, hle⟩
                  (repeat apply Exists.intro)
                  exact ⟨hnx, rfl⟩)
             · have hmiss := (show KeysAre L8 (fun q => q ∈ x.parts) from HD.out.2.2.2.2).miss hqo
               have hK4 : OwnsAre (putE L4c (tpV (t, n)) (.string x.name)) (fun q m' => adjK row own (Dn.map (·.name)) q m' ∨ (m' = x.name ∧ q ∈ topTps Tn ++ tpsOf (t, xs.take (j + 1)) ∧ q ∉ own x.name)) := hL4.put (t, n) x.name hfr (fun y m' => by
                rw [← hsn]
                constructor
                · rintro (h | ⟨h1, h2, h3⟩)
                  · exact .inl (.inl h)
                  · rcases Zap.1 h2 with h | h
                    · exact .inl (.inr ⟨h1, h, h3⟩)
                    · simp only [Zmc, Znn, or_false] at h
                      exact .inr ⟨h, h1⟩
                · rintro ((h | ⟨h1, h2, h3⟩) | ⟨h1, h2⟩)
                  · exact .inl h
                  · exact .inr ⟨h1, List.mem_append_left _ h2, h3⟩
                  · exact .inr ⟨h2, List.mem_append_right _ (by rw [h1]; simp), by rw [h1, HE.out.2.2.2.1]; exact hqo⟩)
               have HN := Zhd (Zan hK11 (Zan hK4 hmiss)); clear hK11 hK4 hmiss hfr hnew hsn hqr hrw hL11 hL4 hn hqo
               go_wp2_with (first
                | (refine wl_upd (kv := tpV (t, n)) (vv := .agg #[]) 1 rfl rfl rfl rfl rfl keyT_tp Tryz.underlying431 (hst7.blk (.cells #[.string t, .int .i32 n] 384)) rfl ⟨_, _, rfl⟩ ?_
                   intro w11 hst8
                   simp only [Zs0, Zs1] at hst8
                   have cb := hst8.cell2 0 rfl
                   have cb2 := hst8.cell2a 0 rfl)
                | (refine wl_lkN2 (kv := tpV (t, n)) (vv := .agg #[]) rfl rfl rfl rfl keyT_tp Tryz.underlying431 (show MapAt w11 isTp r8 L8 from hst8.m 3 rfl) ⟨_, _, rfl⟩ HN.out.2.2 (Tryz.zeroValue433 _) ?_)
                | (refine wl_upd (kv := tpV (t, n)) (vv := .string x.name) 5 rfl rfl rfl rfl rfl keyT_tp Tryz.underlying387 (hst8.alloc _) rfl ⟨_, _, rfl⟩ ?_
                   intro w12 hst9
                   simp only [Zs0, Zs1] at hst9)
                | fail)
               have hst10 := hst9.drop 0
               simp only [Ze0] at hst10
               have hnx : AdC S w row own r4 r5 r8 r11 p x.name (Dn.map (·.name)) Tn t xs P (Rs.row 384 2 (.slice pa k pc) k (x.parts.flatMap encTp)) (Rs.it (Rs.innerD P) r (rawT D) (rawT T1 ++ rawT T2) it4 hft) L5 L8 [itMd rm Xs (rawMd L1 ++ rawMd L2) it] (.int .i64 ((j : Nat) + 1)) w12 := ⟨j + 1, _, _, by go_num, by omega, HN.out.1, HN.out.2.1, hst10⟩
               have hle : xs.length - (intOf (.int .i64 ((j : Nat) + 1))).toNat < xs.length - (intOf (.int .i64 j)).toNat := by simp [intOf]; omega
               first
               | exact ⟨hnx, hle⟩
               | (go_frame
                  exact ⟨hnx, hle⟩)
               | (refine ⟨?_, hle⟩
                  (repeat apply Exists.intro)
                  exact ⟨hnx, rfl⟩)
           · obtain rfl : j = xs.length := by omega
             rw [List.take_length] at hL11 hL4
             have e : rawT T1 ++ rawT T2 = rawT (T1 ++ T2) := by simp [rawT]
             have e2 : topTps Tn ++ tpsOf (t, xs) = topTps (Tn ++ [(t, .slice xa xs.length xc, xs)]) := by rw [topTps_append]; simp [topTps]
             rw [e2] at hL11 hL4
             have hst8 := hst7
             simp only [e] at hst8
             have h1 : IterAt wr it4 r (rawT D) (rawT (T1 ++ T2)) := (hst8.m 6 rfl).2.1
             have h2 : IterAt wC it4 r (rawT D) _ := (hst6.m 6 rfl).2.1
             have hle : leftOf wr it4 r < leftOf wC it4 r := by
              rw [h1.leftOf, h2.leftOf]; simp [rawT]
             have hfin : AdB S w row own r it4 r4 r5 r8 r11 p x.name (Dn.map (·.name)) D P hft (Rs.row 384 2 (.slice pa k pc) k (x.parts.flatMap encTp)) L5 L8 [itMd rm Xs (rawMd L1 ++ rawMd L2) it] wr := ⟨Tn ++ [(t, .slice xa xs.length xc, xs)], T1 ++ T2, L4c, L11c, perm_step HF.out.1, hL11, hL4, hst8⟩
             have HN := Zhd (Zan hfin hle); clear hfin hle hst8 hst7 hL11 hL4 h1 h2
             go_wp2_with fail
             exact HN.out
end
end Go.Proofs.YticcnlpfmekagaaGreat
