/- Part of the proof of the row: the texts Cnt, CntW, Even, StLv, LawLv. -/
import Derived.Test.YticcnlpfmekagaaGreatRd48
import Derived.Test.YticcnlpfmekagaaGreatRd50
namespace Go.Proofs.YticcnlpfmekagaaGreat
open Go Go.Proofs Go.RowKit Go.Lib
open Classical
set_option linter.unusedVariables false
set_option linter.unusedSimpArgs false

/-! ## Counting a plan: plain Lean -/
def cntS (L : List Shr) (id : ByteArray) : Nat := (L.map fun x => if x.mem = id then x.parts.length else 0).sum
def sumP (L : List Shr) : Nat := (L.map fun x => x.parts.length).sum
def cntRow0 (Ms : List Mem) (L : List Shr) : List Value := Ms.map fun m => .int .i64 ((cntS L m.id : Nat) : Int)
def cntRow (Ms : List Mem) (L : List Shr) (mem : ByteArray) (k : Nat) : List Value := Ms.map fun m => .int .i64 ((cntS L m.id + (if m.id = mem then k else 0) : Nat) : Int)
theorem cntRow_zero (Ms : List Mem) (L : List Shr) (mem : ByteArray) : cntRow Ms L mem 0 = cntRow0 Ms L := by simp [cntRow, cntRow0]
theorem cntRow_next (Ms : List Mem) {S : List Shr} {i : Nat} {x : Shr} (hx : S[i]? = some x) : cntRow Ms (S.take i) x.mem x.parts.length = cntRow0 Ms (S.take (i + 1)) := by
  unfold cntRow cntRow0
  rw [take_snoc' hx]
  refine List.map_congr_left fun m _ => ?_
  have : cntS (S.take i ++ [x]) m.id = cntS (S.take i) m.id + if m.id = x.mem then x.parts.length else 0 := by
    simp only [cntS, List.map_append, List.sum_append, List.map_cons, List.map_nil, List.sum_cons, List.sum_nil, Nat.add_zero, eq_comm]
  rw [this]
theorem cntRow_get {Ms : List Mem} {L : List Shr} {at' k : Nat} {m : Mem} (hm : Ms[at']? = some m) : (cntRow Ms L m.id k)[at']? = some (.int .i64 ((cntS L m.id + k : Nat) : Int)) := by
  unfold cntRow
  rw [List.getElem?_map, hm]
  simp
theorem cntRow_step {Ms : List Mem} (hn : (ids Ms).Nodup) {L : List Shr} {at' k : Nat} {m : Mem} (hm : Ms[at']? = some m) : (cntRow Ms L m.id k).set at' (.int .i64 ((cntS L m.id + k + 1 : Nat) : Int)) = cntRow Ms L m.id (k + 1) := by
  apply List.ext_getElem?
  intro j
  unfold cntRow
  have hlt := (List.getElem?_eq_some_iff.1 hm).1
  rw [List.getElem?_set]
  by_cases h : at' = j
  · subst h
    simp only [if_true, List.length_map, hlt, List.getElem?_map, hm, Option.map_some]
    rfl
  · rw [if_neg h, List.getElem?_map, List.getElem?_map]
    cases hj : Ms[j]? with
    | none => rfl
    | some y =>
      have hne : y.id ≠ m.id := fun e => h (by
        have hjl := (List.getElem?_eq_some_iff.1 hj).1
        have h1 : (ids Ms)[at']? = some m.id := by unfold ids; rw [List.getElem?_map, hm]; rfl
        have h2 : (ids Ms)[j]? = some y.id := by unfold ids; rw [List.getElem?_map, hj]; rfl
        exact (List.getElem?_inj (by unfold ids; simpa using hlt) hn).1 (by rw [h1, h2, e]))
      simp [hne]
theorem sumP_snoc {S : List Shr} {i : Nat} {x : Shr} (hx : S[i]? = some x) : sumP (S.take (i + 1)) = sumP (S.take i) + x.parts.length := by
  rw [take_snoc' hx]; simp [sumP]
theorem sumP_append (A B : List Shr) : sumP (A ++ B) = sumP A + sumP B := by simp [sumP]
theorem sumP_take_le (S : List Shr) (i : Nat) : sumP (S.take i) ≤ sumP S := by
  have h := sumP_append (S.take i) (S.drop i)
  rw [List.take_append_drop] at h
  omega
theorem sumP_flat : ∀ (S : List Shr), (flatT (S.map trip)).length = sumP S := fun S => by rw [flatT_length]; simp [sumP, trip, Function.comp_def]
theorem sumP_allT : ∀ (L : List Shr), (allT L).length = sumP L
  | [] => rfl
  | x :: L => by
    have h3 : (tpsOf (topOf x)).length = x.parts.length := by simp [tpsOf, topOf]
    rw [allT_cons, List.length_append, sumP_allT L, h3]; rfl
theorem mem_flatT_of {S : List Shr} {n : Nat} {y : Shr} {v : Int} (hy : S[n]? = some y) (hv : v ∈ y.parts) : (y.top, v) ∈ flatT (S.map trip) :=
  flatT_mem.2 ⟨y.mem, y.parts, List.mem_map_of_mem (f := trip) (List.mem_of_getElem? hy), hv⟩
theorem no_dbl {S : List Shr} (hn : (flatT (S.map trip)).Nodup) {n i m k : Nat} {x y : Shr} {v z : Int} (hy : S[n]? = some y) (hx : S[i]? = some x) (hv : y.parts[m]? = some v) (hz : x.parts[k]? = some z)
    (hlt : n < i ∨ (n = i ∧ m < k)) (ht : y.top = x.top) : v ≠ z := by
  intro e
  subst e
  rcases hlt with h | ⟨rfl, h⟩
  · have hs : S = S.take i ++ S.drop i := (List.take_append_drop i S).symm
    rw [hs, List.map_append] at hn
    have hfa : flatT ((S.take i).map trip ++ (S.drop i).map trip) = flatT ((S.take i).map trip) ++ flatT ((S.drop i).map trip) := by unfold flatT; exact List.flatMap_append
    rw [hfa, List.nodup_append] at hn
    have h1 : (y.top, v) ∈ flatT ((S.take i).map trip) := mem_flatT_of (n := n) (by rw [List.getElem?_take, if_pos h]; exact hy) (List.mem_of_getElem? hv)
    have h2 : (x.top, v) ∈ flatT ((S.drop i).map trip) := mem_flatT_of (n := 0) (by rw [List.getElem?_drop]; exact hx) (List.mem_of_getElem? hz)
    exact hn.2.2 _ h1 _ h2 (by rw [ht])
  · rw [hx] at hy; cases hy
    have hp := flatT_part hn (List.mem_map_of_mem (f := trip) (List.mem_of_getElem? hx))
    have hl := (List.getElem?_eq_some_iff.1 hv).1
    have := (List.getElem?_inj hl hp).1 (show x.parts[m]? = x.parts[k]? by rw [hv, hz])
    omega
theorem rowTP_len (S : List Shr) (id : ByteArray) : (rowTP S id).length = cntS S id := by
  unfold rowTP ownOf cntS
  induction S with
  | nil => rfl
  | cons x S ih =>
    simp only [List.filter_cons, List.map_cons, List.sum_cons]
    by_cases h : x.mem = id
    · simp only [h, decide_true, if_true, List.map_cons, List.flatMap_cons, List.length_append]
      rw [ih]
      simp [tpsOf, topOf]
    · simp only [h, decide_false, Bool.false_eq_true, if_false, Nat.zero_add]
      exact ih
/-- what is asked of a plan to be counted and found even -/
structure CntOk (Ms : List Mem) (Ts S : List Shr) : Prop where
  n1 : 1 ≤ Ms.length
  nd : (ids Ms).Nodup
  mem : ∀ x ∈ S, x.mem ∈ ids Ms
  wants : ∀ x ∈ S, ∀ m ∈ Ms, x.top ∈ m.tops
  top : ∀ x ∈ S, ∀ p ∈ x.parts, (x.top, p) ∈ allT Ts
  flat : (flatT (S.map trip)).Nodup
  all : sumP S = sumP Ts
  b1 : sumP Ts ≤ 1000
  b2 : S.length ≤ 1000
  near : Near (Ms.map fun m => cntS S m.id)
theorem cnt_ok {Ms : List Mem} {Ts : List Shr} {Old : ByteArray → List TP} {A : Asg} {S : List Shr} (h1 : PlanOk (ids Ms) Old (allT Ts) A) (h2 : Shows (S.map trip) A) (h3 : Canon ltMT (S.map trip)) (hn : (ids Ms).Nodup) (hm1 : 1 ≤ Ms.length) (hT : (allT Ts).Nodup) (hl : (allT Ts).length ≤ 1000) (ha : AlikeP Ms Ts) : CntOk Ms Ts S := by
  obtain ⟨b1, b2, b3⟩ := plan_bounds h1 h2 h3 hl
  have hAn := h1.nodup hT
  have hAk : (A.map (·.1)).Nodup := h1.keys.nodup_iff.2 hn
  refine ⟨hm1, hn, fun x hx => ?_, fun x hx m hm => ?_, fun x hx p hp => ?_, h2.perm.nodup_iff.2 hAn, ?_, by rw [← sumP_allT]; exact hl, b2, ?_⟩
  · have hne := h3.full (trip x) (List.mem_map_of_mem hx)
    cases hps : x.parts with
    | nil => exact absurd hps hne
    | cons p ps =>
      have h4 : Holds (S.map trip) x.mem x.top p := ⟨x.parts, List.mem_map_of_mem (f := trip) hx, by rw [hps]; simp⟩
      exact h1.keyIn ((h2.iff _ _ _).1 h4)
  · obtain ⟨t, ht, e⟩ := List.mem_map.1 (b1 x hx).1
    rw [← e]; exact ha t ht m hm
  · have h4 : Holds (S.map trip) x.mem x.top p := ⟨x.parts, List.mem_map_of_mem (f := trip) hx, hp⟩
    exact h1.all.mem_iff.1 (allOf_mem.2 ⟨_, (h2.iff _ _ _).1 h4⟩)
  · rw [← sumP_flat, ← sumP_allT, h2.perm.length_eq, h1.all.length_eq]
  · have hrow : ∀ m ∈ Ms, ∃ xs, (m.id, xs) ∈ A ∧ cntS S m.id = xs.length := fun m hm => by
      obtain ⟨r, hr, e⟩ := List.mem_map.1 (h1.keys.mem_iff.2 (List.mem_map_of_mem (f := fun m : Mem => m.id) hm))
      exact ⟨r.2, by rw [← e]; exact hr, by rw [← rowTP_len, (rowTP_perm h2 hAn hAk (by rw [← e]; exact hr)).length_eq]⟩
    intro a ha b hb
    obtain ⟨m1, hm1, rfl⟩ := List.mem_map.1 ha
    obtain ⟨m2, hm2, rfl⟩ := List.mem_map.1 hb
    obtain ⟨x1, q1, q2⟩ := hrow m1 hm1
    obtain ⟨x2, q3, q4⟩ := hrow m2 hm2
    rw [q2, q4]
    exact h1.near _ (List.mem_map_of_mem (f := fun r : ByteArray × List TP => r.2.length) q1) _ (List.mem_map_of_mem (f := fun r : ByteArray × List TP => r.2.length) q3)
end Go.Proofs.YticcnlpfmekagaaGreat
namespace Go.Proofs.YticcnlpfmekagaaGreat
open Go Go.Proofs Go.RowKit Go.Lib
set_option linter.unusedVariables false
set_option linter.unusedSimpArgs false

/-! ## Counted (17) -/
section
variable {P : Program} {ops : Array Oper} {o : Oper} {a : Act} {w : World} {rest : List Oper} {Q : Exit → Act → World → Prop}
variable {T : TypeId} {x y : Operand} {S : List Nat} {w0 : World} {M R : List Res} {E bytes : Nat} {z : Value}
theorem wl_mkzero (c : Nat) {kl kc : IntKind} (hgd : o.guard = none) (hop : o.op = .makeSlice T x y) (hx : a.eval x = .int kl (c : Int)) (hy : a.eval y = .int kc (c : Int)) (el : Elem P T E 1 bytes z) (hz1 : z.cells = #[z]) (hst : St S w0 w M R) (hb : bytes * c ≤ 281474976710656) (hc : c ≤ maxLen)
    (hK : ∀ g w', St S w0 w' (Rs.row E 1 (.slice (some ⟨g, 0, none⟩) c c) c (List.replicate c z) :: M) R → w.heap.size ≤ g → wpList P ops Q rest (a.put o.dst (.slice (some ⟨g, 0, none⟩) c c)) w') : wpList P ops Q (o :: rest) a w := by
  obtain ⟨i, hi, hz, hsz, hby⟩ := el.info
  subst hby
  have hc' : (c : Int) ≤ 9223372036854775807 := by unfold maxLen at hc; omega
  have hb' : (i.bytes : Int) * (c : Int) ≤ 281474976710656 := by
    have h : ((i.bytes * c : Nat) : Int) ≤ 281474976710656 := by omega
    rwa [Int.natCast_mul] at h
  have hrun := run_make (P := P) w T E i z el.und hi hz kl kc c c (by omega) (Int.le_refl _) hb' hc'
  simp only [Int.toNat_natCast] at hrun
  have hrep : (madeCells z.cells (c * i.size)).toList = List.replicate c z := by rw [hz1, hsz, Nat.mul_one]; exact toList_madeCells_one z c
  refine wl_val (v := .slice (some ⟨w.heap.size, 0, none⟩) c c) (w' := w.alloc (.cells (madeCells z.cells (c * i.size)) E)) hgd ?_ (hK _ _ ?_ (Nat.le_refl _))
  · simp only [execOp, hop, hx, hy, Sem.run_bind, hrun, Result.andThen_ok]; rfl
  · have := hst.made E 1 c (madeCells z.cells (c * i.size)).toList (by rw [hrep]; simp) hc
    rw [← hrep]
    simpa using this
end
theorem cntS_le (L : List Shr) (id : ByteArray) : cntS L id ≤ sumP L := by
  unfold cntS sumP
  induction L with
  | nil => simp
  | cons x L ih =>
    simp only [List.map_cons, List.sum_cons]
    split <;> omega
def CntPost (w : World) (N : Nat) (Ms : List Mem) (S : List Shr) (e : Ending) (w' : World) : Prop :=
  ∃ g, e = .returned (.tuple #[.slice (some ⟨g, 0, none⟩) N N, .int .i64 0, .bool true]) ∧ w'.ownsRow 0 3 1 (.slice (some ⟨g, 0, none⟩) N N) N (cntRow0 Ms S) ∧ Kept [] w w'
def C1 (w2 : World) (Ts : List Shr) (nt : Nat) (t i : Value) (wr : World) : Prop := wr = w2 ∧ ∃ k : Nat, i = .int .i64 k ∧ k ≤ nt ∧ t = .int .i64 ((sumP (Ts.take k) : Nat) : Int)
def C2 (w : World) (g N : Nat) (Ms : List Mem) (Ts S : List Shr) (np : Nat) (u t i : Value) (wr : World) : Prop :=
  u = .slice (some ⟨g, 0, none⟩) N N ∧ ∃ k : Nat, i = .int .i64 k ∧ k ≤ np ∧ t = .int .i64 ((sumP Ts : Int) - (sumP (S.take k) : Int)) ∧ St [] w wr [Rs.row 3 1 (.slice (some ⟨g, 0, none⟩) N N) N (cntRow0 Ms (S.take k))] []
def C3 (B : World) (jx N : Nat) (t i : Value) (V : World) : Prop := Kept [] B V ∧ ∃ k : Nat, i = .int .i64 k ∧ k ≤ N ∧ t = .int .i64 (if jx < k then (jx : Int) else -1)

def C4 (w B : World) (g N : Nat) (Ms : List Mem) (L : List Shr) (mem : ByteArray) (T0 : Int) (pn : Nat) (u t i : Value) (V : World) : Prop :=
  u = .slice (some ⟨g, 0, none⟩) N N ∧ ∃ k : Nat, i = .int .i64 k ∧ k ≤ pn ∧ t = .int .i64 (T0 - k) ∧ St [] w V [Rs.row 3 1 (.slice (some ⟨g, 0, none⟩) N N) N (cntRow Ms L mem k)] [] ∧ Kept [g] B V
def C5 (V0 : World) (Ts : List Shr) (nt : Nat) (t : ByteArray) (z : Int) (f i : Value) (V : World) : Prop := Kept [] V0 V ∧ ∃ n : Nat, i = .int .i64 n ∧ n ≤ nt ∧ ∃ b : Bool, f = .bool b ∧ ((t, z) ∈ allT (Ts.take n) → b = true)
def C6 (V0 : World) (Ts : List Shr) (n : Nat) (y : Shr) (yn : Nat) (t : ByteArray) (z : Int) (f i : Value) (V : World) : Prop := Kept [] V0 V ∧ ∃ m : Nat, i = .int .i64 m ∧ m ≤ yn ∧ ∃ b : Bool, f = .bool b ∧ ((t, z) ∈ allT (Ts.take n) → b = true) ∧ (y.top = t → z ∈ y.parts.take m → b = true)
def C7 (V0 : World) (c l : Value) (b : Nat) (u t i : Value) (V : World) : Prop := u = c ∧ t = l ∧ Kept [] V0 V ∧ ∃ n : Nat, i = .int .i64 n ∧ n ≤ b
theorem allT_snoc {Ts : List Shr} {n : Nat} {y : Shr} (hy : Ts[n]? = some y) (t : ByteArray) (z : Int) : (t, z) ∈ allT (Ts.take (n + 1)) ↔ (t, z) ∈ allT (Ts.take n) ∨ (y.top = t ∧ z ∈ y.parts) := by
  rw [take_snoc' hy, allT_mem, allT_mem]
  constructor
  · rintro ⟨x, hx, h1, h2⟩
    rcases List.mem_append.1 hx with hx | hx
    · exact .inl ⟨x, hx, h1, h2⟩
    · simp only [List.mem_cons, List.not_mem_nil, or_false] at hx
      subst hx; exact .inr ⟨h1, h2⟩
  · rintro (⟨x, hx, h1, h2⟩ | ⟨h1, h2⟩)
    · exact ⟨x, List.mem_append_left _ hx, h1, h2⟩
    · exact ⟨y, List.mem_append_right _ (by simp), h1, h2⟩

set_option maxRecDepth 100000 in
set_option maxHeartbeats 8000000 in
theorem counted_any (am : Option Addr) (N cm : Nat) (Ms : List Mem) (at' : Option Addr) (nt ct : Nat) (Ts : List Shr) (ap : Option Addr) (np cp : Nat) (S : List Shr) (w : World) (hm : MemsAt w (.slice am N cm) Ms) (hN : Ms.length = N) (ht : ShrsAt w (.slice at' nt ct) Ts) (hT : Ts.length = nt)
    (hS : ShrsAt w (.slice ap np cp) S) (hn : S.length = np) (hok : CntOk Ms Ts S) (hb : N ≤ 1000 ∧ nt ≤ 1000) (hbt : ∀ m ∈ Ms, m.tops.length ≤ maxLen) (hpt : ∀ x ∈ Ts, x.parts.length ≤ 1000) :
    Calls Tryz.prog 17 #[.slice am N cm, .slice at' nt ct, .slice ap np cp] w (CntPost w N Ms S) := by
  have hst0 : St [] w w [] [] := St.start0 (Ow.nil w)
  have hb1 := hok.b1
  have hb2 := hok.b2
  rw [hn] at hb2
  have hsT : ∀ k, sumP (Ts.take k) ≤ 1000 := fun k => by have := sumP_take_le Ts k; omega
  have hsS : ∀ k, sumP (S.take k) ≤ sumP Ts := fun k => by have := sumP_take_le S k; have := hok.all; omega
  have HM := Lib.hid (And.intro hm (And.intro hN (And.intro ht (And.intro hT (And.intro hS (And.intro hn (And.intro hok (And.intro hbt hpt)))))))); clear hm hN ht hT hS hn hok hbt hpt
  go_enter Tryz.func17, Tryz.ntmps17
  go_upto_region 2 with (first
    | (refine wl_mkzero N rfl rfl rfl rfl elInt rfl hst0 (by omega) (by unfold maxLen; omega) ?_
       intro g w2 hst2 hg2)
    | fail)
  have hz0 : List.replicate N (Value.int .i64 0) = cntRow0 Ms [] := by
    apply List.ext_getElem?
    intro j
    unfold cntRow0
    rw [List.getElem?_map, List.getElem?_replicate]
    have := HM.out.2.1
    by_cases h : j < N
    · rw [if_pos h, List.getElem?_eq_getElem (by omega)]; rfl
    · rw [if_neg h, List.getElem?_eq_none (by omega)]; rfl
  rw [hz0] at hst2
  have H2 := Lib.hid hst2; clear hst2 hz0 hst0
  go_wp2_with fail
  go_loopw [7, 9] (fun t i wr => C1 w2 Ts nt t i wr) (fun _ i _ => nt - (intOf i).toNat)
  case atStart => exact ⟨rfl, 0, rfl, Nat.zero_le _, by simp [sumP]⟩
  case round =>
    obtain ⟨rfl, k, rfl, hk, rfl⟩ := hrel
    by_cases hkn : k < nt
    · obtain ⟨t, htk⟩ : ∃ t, Ts[k]? = some t := ⟨_, List.getElem?_eq_getElem (by have := HM.out.2.2.2.1; omega)⟩
      obtain ⟨gt, ot, va, vc, rfl, hv, hct⟩ := shr_at HM.out.2.2.1 HM.out.2.2.2.1 htk
      obtain ⟨d0, d1, d2⟩ := hct _ H2.out.kept
      have hsn := sumP_snoc htk
      have h1 := hsT k
      have h2 := hsT (k + 1)
      have hki : (k : Int) < (nt : Int) := by omega
      have hw : IntKind.i64.wrap (((sumP (Ts.take k) : Nat) : Int) + (t.parts.length : Int)) = ((sumP (Ts.take (k + 1)) : Nat) : Int) := by rw [IntWalk.i64_in _ (by omega)]; omega
      generalize t.parts.length = tn at *
      generalize sumP (Ts.take k) = s0 at *
      clear hct hv htk
      go_wp2_with fail
      exact ⟨⟨rfl, k + 1, by go_num, by omega, by congr 1; omega⟩, by simp [intOf]; omega⟩
    · obtain rfl : nt = k := by omega
      have hall : sumP (Ts.take nt) = sumP Ts := by rw [List.take_of_length_le (by have := HM.out.2.2.2.1; omega)]
      rw [hall]
      clear hall
      have h20 : C2 w g N Ms Ts S np (.slice (some ⟨g, 0, none⟩) N N) (.int .i64 (sumP Ts : Int)) (.int .i64 0) wr := ⟨rfl, 0, rfl, Nat.zero_le _, by simp [sumP], H2.out⟩
      have H20 := Lib.hid h20; clear h20
      go_wp2_with fail
      go_loopw [6, 7, 10] (fun u t i wr => C2 w g N Ms Ts S np u t i wr) (fun _ _ i _ => np - (intOf i).toNat)
      case atStart => exact H20.out
      case round =>
        clear H20
        obtain ⟨rfl, i, rfl, hi, rfl, hst⟩ := hrel
        by_cases hin : i < np
        · obtain ⟨x, hx⟩ : ∃ x, S[i]? = some x := ⟨_, List.getElem?_eq_getElem (by have := HM.out.2.2.2.2.2.1; omega)⟩
          obtain ⟨gp, op, va, vc, rfl, hv, hcx⟩ := shr_at HM.out.2.2.2.2.1 HM.out.2.2.2.2.2.1 hx
          have hxS := List.mem_of_getElem? hx
          obtain ⟨m, hmM, hmx⟩ := List.mem_map.1 (HM.out.2.2.2.2.2.2.1.mem x hxS)
          obtain ⟨jx, hjx⟩ := List.mem_iff_getElem?.1 hmM
          have hjN : jx < N := by have := (List.getElem?_eq_some_iff.1 hjx).1; have := HM.out.2.1; omega
          obtain ⟨d0, d1, d2⟩ := hcx wr hst.kept
          have hii : (i : Int) < (np : Int) := by omega
          have hps := HM.out.2.2.2.2.1.parts x hxS
          have hrow0 := cntRow_zero Ms (S.take i) x.mem
          have hrow1 := cntRow_next Ms hx
          have hsn := sumP_snoc hx
          obtain ⟨pn, hpn⟩ : ∃ pn, x.parts.length = pn := ⟨_, rfl⟩
          rw [hpn] at d2 hcx hrow1 hsn
          have k1 := fun o => (Kept.refl [] wr).alloc o
          have f0 := fun o => (k1 o).cell d0 (by simp)
          have f1 := fun o => (k1 o).cell d1 (by simp)
          have f2 := fun o => (k1 o).cell d2 (by simp)
          have HX := Lib.hid (And.intro hx (And.intro hcx (And.intro hv (And.intro hxS (And.intro hjx (And.intro hmx (And.intro hps (And.intro hrow0 (And.intro hrow1 (And.intro hsn (And.intro hpn hst))))))))))); clear hx hcx hv hxS hjx hmx hps hrow0 hrow1 hsn hpn hst hmM k1
          have hstB := HX.out.2.2.2.2.2.2.2.2.2.2.2.alloc (.cells #[.string x.mem, .string x.top, .slice va pn vc] 33)
          have hgb : g < wr.heap.size := by
            rcases (show wr.ownsRow 0 3 1 (.slice (some ⟨g, 0, none⟩) N N) N (cntRow0 Ms (S.take i)) from HX.out.2.2.2.2.2.2.2.2.2.2.2.m 0 rfl).2 with ⟨h, _⟩ | ⟨g', cap, cur, h, _, h2, _⟩
            · cases h
            · cases h; exact (Array.getElem?_eq_some_iff.1 h2).1
          have bx0 : (wr.alloc (.cells #[.string x.mem, .string x.top, .slice va pn vc] 33)).cell? ⟨wr.heap.size, 0, none⟩ = some (.string x.mem) := by simp [go_sem]
          have bx1 : (wr.alloc (.cells #[.string x.mem, .string x.top, .slice va pn vc] 33)).cell? ⟨wr.heap.size, 1, none⟩ = some (.string x.top) := by simp [go_sem]
          have bx2 : (wr.alloc (.cells #[.string x.mem, .string x.top, .slice va pn vc] 33)).cell? ⟨wr.heap.size, 2, none⟩ = some (.slice va pn vc) := by simp [go_sem]
          go_upto_region 10 with fail
          generalize wr.alloc (.cells #[.string x.mem, .string x.top, .slice va pn vc] 33) = B at *
          generalize wr.heap.size = b at *
          have HB := Lib.hid (And.intro hstB (And.intro hgb (And.intro bx0 (And.intro bx1 bx2)))); clear hstB hgb bx0 bx1 bx2 f0 f1 f2 d0 d1 d2
          go_wp2_with fail
          go_loopw [12, 13] (fun t i V => C3 B jx N t i V) (fun _ i _ => N - (intOf i).toNat)
          case atStart => exact ⟨Kept.refl _ _, 0, rfl, Nat.zero_le _, by simp⟩
          case round =>
            obtain ⟨hkV, k, rfl, hk2, rfl⟩ := hrel
            by_cases hkN : k < N
            · obtain ⟨mk, hmk⟩ : ∃ mk, Ms[k]? = some mk := ⟨_, List.getElem?_eq_getElem (by have := HM.out.2.1; omega)⟩
              obtain ⟨gm, om, ta, tc, da, dc, oa, oc, rfl, _, _, _, hcm⟩ := mem_at HM.out.1 HM.out.2.1 hmk
              have c0 := (hcm wr (HB.out.1.kept.trans hkV (by simp) (by simp))).1
              have b0 := hkV.cell HB.out.2.2.1 (by simp)
              have hkN' : (k : Int) < (N : Int) := by omega
              by_cases hkj : k = jx
              · subst hkj
                have e : mk.id = x.mem := by
                  have := HX.out.2.2.2.2.1
                  rw [hmk] at this; cases this; exact HX.out.2.2.2.2.2.1
                have hse : (mk.id.toList == x.mem.toList) = true := beq_iff_eq.2 (by rw [e])
                have e2 : (if k < k + 1 then (k : Int) else -1) = (k : Int) := if_pos (by omega)
                clear hmk hcm
                go_wp2_with fail
                go_quiet (fail)
                go_wp2_with fail
                exact ⟨⟨hkV.drewN _, k + 1, by go_num, by omega, by rw [e2]⟩, by simp [intOf]; omega⟩
              · have e : mk.id ≠ x.mem := fun e => hkj (by
                  have h1 : (ids Ms)[k]? = some mk.id := by unfold ids; rw [List.getElem?_map, hmk]; rfl
                  have h2 : (ids Ms)[jx]? = some m.id := by unfold ids; rw [List.getElem?_map, HX.out.2.2.2.2.1]; rfl
                  exact (List.getElem?_inj (by unfold ids; rw [List.length_map]; have := HM.out.2.1; omega) HM.out.2.2.2.2.2.2.1.nd).1 (by rw [h1, h2, e, HX.out.2.2.2.2.2.1]))
                have hse : (mk.id.toList == x.mem.toList) = false := beq_eq_false_iff_ne.2 (fun h => e ((ba_inj _ _).1 h))
                have e2 : (if jx < k + 1 then (jx : Int) else -1) = (if jx < k then (jx : Int) else -1) := by
                  by_cases h : jx < k
                  · rw [if_pos h, if_pos (by omega)]
                  · rw [if_neg h, if_neg (by omega)]
                clear hmk hcm
                generalize (if jx < k then (jx : Int) else -1) = atv at *
                go_wp2_with fail
                go_quiet (fail)
                go_wp2_with fail
                exact ⟨⟨hkV.drewN _, k + 1, by go_num, by omega, by rw [e2]⟩, by simp [intOf]; omega⟩
            · obtain rfl : N = k := by omega
              rw [if_pos hjN]
              go_upto_region 16 with fail
              go_cut [73] (fun t W => t = .bool false ∧ Kept [] B W)
              case first =>
--<A
                obtain ⟨gm, om, ta, tc, da, dc, oa, oc, rfl, e1, e2, e3, hcm⟩ := mem_at HM.out.1 HM.out.2.1 HX.out.2.2.2.2.1
                have hmM := List.mem_of_getElem? HX.out.2.2.2.2.1
                have hwt := fun w' (k' : Kept [] w w') => wants_yes m x.top w' ((HM.out.1.each m hmM).kept0 k') (HM.out.2.2.2.2.2.2.2.1 m hmM) (HM.out.2.2.2.2.2.2.1.wants x HX.out.2.2.2.1 m hmM)
                have hkw := HB.out.1.kept.trans hkV (U := []) (by simp) (by simp)
                have hcs := fun W (hW : Kept [] wr W) => And.intro (hcm W (hkw.trans hW (U := []) (by simp) (by simp))) (hW.cell (hkV.cell HB.out.2.2.2.1 (by simp)) (by simp))
                have HCS := Lib.hid hcs; clear hcs hcm hmM
                have hneg : decide ((jx : Int) < 0) = false := decide_eq_false (by omega)
                clear HX HM HB H2
                obtain ⟨id, ver, tv, tops, dv, data, ov, owned, gen, rack, has⟩ := m
                simp only at e1 e2 e3 HCS hwt
                subst e1 e2 e3
                simp only [memCells] at hwt
                have HW := Lib.hid hwt; clear hwt
                generalize tops.length = tn at *
                generalize data.length = dn at *
                generalize owned.length = on at *
                obtain ⟨⟨c0, c1, c2, c3, c4, c5, c6, c7⟩, ct1⟩ := HCS.out wr (Kept.refl _ _)
                go_region_law
                  (first
                    | (go_simp
                       go_at_call 42
                       refine (HW.out _ hkw.drew).mono ?_
                       rintro e w1 ⟨rfl, hk1⟩
                       have hk1' : Kept [] wr w1 := hk1.of_drew
                       go_wp2_with fail)
                    | fail)
                all_goals
                  go_wp2_with fail
                  go_meet
                  exact ⟨rfl, hkV.trans hk1' (by simp) (by simp)⟩
--A>
              case rest =>
                obtain ⟨rfl, hkB⟩ := hcut
                have h40 : C4 w B g N Ms (S.take i) x.mem ((sumP Ts : Int) - (sumP (S.take i) : Int)) pn (.slice (some ⟨g, 0, none⟩) N N) (.int .i64 ((sumP Ts : Int) - (sumP (S.take i) : Int))) (.int .i64 0) wc :=
                  ⟨rfl, 0, rfl, Nat.zero_le _, by simp, by rw [HX.out.2.2.2.2.2.2.2.1]; exact HB.out.1.kept0 hkB, hkB.mono (by simp)⟩
                have H40 := Lib.hid h40; clear h40 hkB hkV
                go_wp2_with fail
                go_loopw [6, 7, 14] (fun u t i' V => C4 w B g N Ms (S.take i) x.mem ((sumP Ts : Int) - (sumP (S.take i) : Int)) pn u t i' V) (fun _ _ i' _ => pn - (intOf i').toNat)
                case atStart => exact H40.out
                case round =>
                  clear H40
                  obtain ⟨rfl, k3, rfl, hk3, rfl, hst, hkg⟩ := hrel
                  have hbg : b ∉ [g] := by have := HB.out.2.1; simp; omega
                  have bx1 := hkg.cell HB.out.2.2.2.1 hbg
                  have bx2 := hkg.cell HB.out.2.2.2.2 hbg
                  have hkw := hst.kept
                  by_cases hkp : k3 < pn
                  · obtain ⟨z, hz⟩ : ∃ z, x.parts[k3]? = some z := ⟨_, List.getElem?_eq_getElem (by have := HX.out.2.2.2.2.2.2.2.2.2.2.1; omega)⟩
                    obtain ⟨bv, ov, cv, hva, hclv⟩ : ∃ b off cap, Value.slice va pn vc = .slice (some ⟨b, off, none⟩) pn cap ∧ ∀ j u, (i32s x.parts)[j]? = some u → w.cell? ⟨b, off + j, none⟩ = some u := by
                      have h := HX.out.2.2.2.2.2.2.1.2.1.2.2
                      rw [HX.out.2.2.2.2.2.2.2.2.2.2.1, HX.out.2.2.1, HX.out.2.2.2.2.2.2.2.2.2.2.1] at h
                      rcases h with ⟨_, _, _, h0⟩ | h
                      · omega
                      · exact h
                    simp only [Value.slice.injEq] at hva
                    obtain ⟨rfl, _, rfl⟩ := hva
                    have ez := hkw.cell (hclv k3 (.int .i32 z) (by simp [i32s, hz])) (by simp)
                    have hkp' : (k3 : Int) < (pn : Int) := by omega
                    generalize wr = V0 at *
                    have hzt := HM.out.2.2.2.2.2.2.1.top x HX.out.2.2.2.1 z (List.mem_of_getElem? hz)
                    have hbf : ∀ V, Kept [] V0 V → V.cell? ⟨b, 1, none⟩ = some (.string x.top) ∧ V.cell? ⟨b, 2, none⟩ = some (.slice (some ⟨bv, ov, none⟩) pn vc) ∧ V.cell? ⟨bv, ov + k3, none⟩ = some (.int .i32 z) := fun V hV => ⟨hV.cell bx1 (by simp), hV.cell bx2 (by simp), hV.cell ez (by simp)⟩
                    have HK := Lib.hid (And.intro hst (And.intro hkg (And.intro hz (And.intro hzt (And.intro hbf hkw))))); clear hst hkg hz hzt hbf hkw bx1 bx2 ez hclv
                    obtain ⟨e1, e2, e3⟩ := HK.out.2.2.2.2.1 V0 (Kept.refl _ _)
                    go_upto_block 8 with fail
                    clear e1 e2 e3
                    go_cut [15] (fun f V => f = .bool true ∧ Kept [] V0 V)
                    case first =>
--<B
                      go_wp2_with fail
                      go_loopw [15, 16] (fun f n V => C5 V0 Ts nt x.top z f n V) (fun _ n _ => nt - (intOf n).toNat)
                      case atStart => exact ⟨Kept.refl _ _, 0, rfl, Nat.zero_le _, false, rfl, by simp [allT]⟩
                      case round =>
                        obtain ⟨hkV, n, rfl, hn, fb, rfl, hfb⟩ := hrel
                        by_cases hnn : n < nt
                        · obtain ⟨y, hy⟩ : ∃ y, Ts[n]? = some y := ⟨_, List.getElem?_eq_getElem (by have := HM.out.2.2.2.1; omega)⟩
                          obtain ⟨gt, ot, ya, yc, rfl, hv, hct⟩ := shr_at HM.out.2.2.1 HM.out.2.2.2.1 hy
                          have hnn' : (n : Int) < (nt : Int) := by omega
                          have hyp := HM.out.2.2.1.parts y (List.mem_of_getElem? hy)
                          have hyb := HM.out.2.2.2.2.2.2.2.2 y (List.mem_of_getElem? hy)
                          have hsn := allT_snoc hy x.top z
                          obtain ⟨yn, hyn⟩ : ∃ yn, y.parts.length = yn := ⟨_, rfl⟩
                          rw [hyn] at hct hyb
                          have hcy := fun V (hV : Kept [] V0 V) => hct V (HK.out.2.2.2.2.2.trans hV (U := []) (by simp) (by simp))
                          have HY := Lib.hid (And.intro hcy (And.intro hyp (And.intro hsn (And.intro hyn hv)))); clear hcy hyp hsn hyn hct hv hy
                          go_wp2_with fail
                          go_loopw [15, 17] (fun f m V => C6 V0 Ts n y yn x.top z f m V) (fun _ m _ => yn - (intOf m).toNat)
                          case atStart => exact ⟨hkV, 0, rfl, Nat.zero_le _, fb, rfl, hfb, by simp⟩
                          case round =>
                            clear hkV hfb
                            obtain ⟨hkV, m', rfl, hm', fb', rfl, hf1, hf2⟩ := hrel
                            obtain ⟨q0, q1, q2⟩ := HY.out.1 wr hkV
                            obtain ⟨bx1, bx2, ez⟩ := HK.out.2.2.2.2.1 wr hkV
                            by_cases hmy : m' < yn
                            · obtain ⟨v, hv⟩ : ∃ v, y.parts[m']? = some v := ⟨_, List.getElem?_eq_getElem (by have := HY.out.2.2.2.1; omega)⟩
                              obtain ⟨by', oy, cy, hvy, hcly⟩ : ∃ b off cap, Value.slice ya yn yc = .slice (some ⟨b, off, none⟩) yn cap ∧ ∀ j u, (i32s y.parts)[j]? = some u → w.cell? ⟨b, off + j, none⟩ = some u := by
                                have h := HY.out.2.1.2.1.2.2
                                rw [HY.out.2.2.2.1, HY.out.2.2.2.2, HY.out.2.2.2.1] at h
                                rcases h with ⟨_, _, _, h0⟩ | h
                                · omega
                                · exact h
                              simp only [Value.slice.injEq] at hvy
                              obtain ⟨rfl, _, rfl⟩ := hvy
                              have ev := (HK.out.2.2.2.2.2.trans hkV (U := []) (by simp) (by simp)).cell (hcly m' (.int .i32 v) (by simp [i32s, hv])) (by simp)
                              have hmy' : (m' : Int) < (yn : Int) := by omega
                              have htk := take_snoc' hv
                              have HF := Lib.hid (And.intro hf1 (And.intro hf2 htk)); clear hf1 hf2 htk hcly hv
                              cases fb' with
                              | true =>
                                go_wp2_with fail
                                go_quiet (fail)
                                go_wp2_with fail
                                exact ⟨⟨hkV.drewN _, m' + 1, by go_num, by omega, true, rfl, fun _ => rfl, fun _ _ => rfl⟩, by simp [intOf]; omega⟩
                              | false =>
                                by_cases het : y.top = x.top
                                · have hse : (y.top.toList == x.top.toList) = true := beq_iff_eq.2 (by rw [het])
                                  go_wp2_with fail
                                  go_quiet (fail)
                                  go_wp2_with fail
                                  refine ⟨⟨hkV.drewN _, m' + 1, by go_num, by omega, (v == z), rfl, fun h => absurd (HF.out.1 h) (by simp), fun h1 h2 => ?_⟩, by simp [intOf]; omega⟩
                                  rw [HF.out.2.2] at h2
                                  rcases List.mem_append.1 h2 with h2 | h2
                                  · exact absurd (HF.out.2.1 h1 h2) (by simp)
                                  · simp only [List.mem_cons, List.not_mem_nil, or_false] at h2
                                    simp [h2]
                                · have hse : (y.top.toList == x.top.toList) = false := beq_eq_false_iff_ne.2 (fun h => het ((ba_inj _ _).1 h))
                                  go_wp2_with fail
                                  go_quiet (fail)
                                  go_wp2_with fail
                                  exact ⟨⟨hkV.drewN _, m' + 1, by go_num, by omega, false, rfl, fun h => absurd (HF.out.1 h) (by simp), fun h1 _ => absurd h1 het⟩, by simp [intOf]; omega⟩
                            · obtain rfl : yn = m' := by omega
                              have hnx : (x.top, z) ∈ allT (Ts.take (n + 1)) → fb' = true := fun h => by
                                rcases HY.out.2.2.1.1 h with h | ⟨h1, h2⟩
                                · exact hf1 h
                                · exact hf2 h1 (by rw [List.take_of_length_le (by have := HY.out.2.2.2.1; omega)]; exact h2)
                              have HNX := Lib.hid hnx; clear hnx hf1 hf2
                              go_wp2_with fail
                              exact ⟨⟨hkV, n + 1, by go_num, by omega, fb', rfl, HNX.out⟩, by simp [intOf]; omega⟩
                        · obtain rfl : nt = n := by omega
                          have : fb = true := hfb (by rw [List.take_of_length_le (by have := HM.out.2.2.2.1; omega)]; exact HK.out.2.2.2.1)
                          subst this
                          go_wp2_with fail
                          go_meet
                          exact ⟨rfl, hkV⟩
--B>
                    case rest =>
                      obtain ⟨rfl, hk1⟩ := hcut
                      go_upto_block 12 with fail
                      go_cut [6, 7] (fun u t V => u = .slice (some ⟨g, 0, none⟩) N N ∧ t = .int .i64 ((sumP Ts : Int) - (sumP (S.take i) : Int) - (k3 : Int)) ∧ Kept [] V0 V)
                      case first =>
--<C
                        go_wp2_with fail
                        go_loopw [6, 7, 18] (fun u t n V => C7 V0 (.slice (some ⟨g, 0, none⟩) N N) (.int .i64 ((sumP Ts : Int) - (sumP (S.take i) : Int) - (k3 : Int))) (i + 1) u t n V) (fun _ _ n _ => i + 1 - (intOf n).toNat)
                        case atStart => exact ⟨rfl, rfl, hk1, 0, rfl, Nat.zero_le _⟩
                        case round =>
                          clear hk1
                          obtain ⟨rfl, rfl, hkV, n, rfl, hn⟩ := hrel
                          by_cases hni : n ≤ i
                          · obtain ⟨y, hy⟩ : ∃ y, S[n]? = some y := ⟨_, List.getElem?_eq_getElem (by have := HM.out.2.2.2.2.2.1; omega)⟩
                            obtain ⟨gp2, op2, ya, yc, hpe, hv, hcy0⟩ := shr_at HM.out.2.2.2.2.1 HM.out.2.2.2.2.2.1 hy
                            cases hpe
                            have hni' : (n : Int) ≤ (i : Int) := by omega
                            have hyp := HM.out.2.2.2.2.1.parts y (List.mem_of_getElem? hy)
                            have hnd := fun m' v hv hlt ht => no_dbl (n := n) (i := i) (m := m') (k := k3) (x := x) (y := y) (v := v) (z := z) HM.out.2.2.2.2.2.2.1.flat hy HX.out.1 hv HK.out.2.2.1 hlt ht
                            obtain ⟨yn, hyn⟩ : ∃ yn, y.parts.length = yn := ⟨_, rfl⟩
                            rw [hyn] at hcy0
                            have hcy := fun V (hV : Kept [] V0 V) => hcy0 V (HK.out.2.2.2.2.2.trans hV (U := []) (by simp) (by simp))
                            have hynb : yn ≤ 1000 := by
                              have h1 := sumP_take_le S (n + 1)
                              have h2 := sumP_snoc hy
                              have h3 := HM.out.2.2.2.2.2.2.1.all
                              omega
                            have HY := Lib.hid (And.intro hcy (And.intro hyp (And.intro hnd (And.intro hyn hv)))); clear hcy hyp hnd hyn hcy0 hv hy
                            go_wp2_with fail
                            clear hni'
                            go_loopw [6, 7, 19] (fun u t m V => C7 V0 (.slice (some ⟨g, 0, none⟩) N N) (.int .i64 ((sumP Ts : Int) - (sumP (S.take i) : Int) - (k3 : Int))) yn u t m V) (fun _ _ m _ => yn - (intOf m).toNat)
                            case atStart => exact ⟨rfl, rfl, hkV, 0, rfl, Nat.zero_le _⟩
                            case round =>
                              clear hkV
                              obtain ⟨rfl, rfl, hkV, m', rfl, hm'⟩ := hrel
                              obtain ⟨q0, q1, q2⟩ := HY.out.1 wr hkV
                              obtain ⟨bx1, bx2, ez⟩ := HK.out.2.2.2.2.1 wr hkV
                              by_cases hgo : m' < yn
                              · obtain ⟨v, hv⟩ : ∃ v, y.parts[m']? = some v := ⟨_, List.getElem?_eq_getElem (by have := HY.out.2.2.2.1; omega)⟩
                                obtain ⟨by', oy, cy, hvy, hcly⟩ : ∃ b off cap, Value.slice ya yn yc = .slice (some ⟨b, off, none⟩) yn cap ∧ ∀ j u, (i32s y.parts)[j]? = some u → w.cell? ⟨b, off + j, none⟩ = some u := by
                                  have h := HY.out.2.1.2.1.2.2
                                  rw [HY.out.2.2.2.1, HY.out.2.2.2.2, HY.out.2.2.2.1] at h
                                  rcases h with ⟨_, _, _, h0⟩ | h
                                  · omega
                                  · exact h
                                simp only [Value.slice.injEq] at hvy
                                obtain ⟨rfl, _, rfl⟩ := hvy
                                have ev := (HK.out.2.2.2.2.2.trans hkV (U := []) (by simp) (by simp)).cell (hcly m' (.int .i32 v) (by simp [i32s, hv])) (by simp)
                                have hmy' : (m' : Int) < (yn : Int) := by omega
                                have hvz : (n < i ∨ m' < k3) → y.top = x.top → v ≠ z := fun h => HY.out.2.2.1 m' v hv (by omega)
                                have HV := Lib.hid hvz; clear hvz hcly hv
                                by_cases hlt : n < i
                                · have hlt' : (n : Int) < (i : Int) := by omega
                                  by_cases het : y.top = x.top
                                  · have hse : (y.top.toList == x.top.toList) = true := beq_iff_eq.2 (by rw [het])
                                    have hne : (v == z) = false := beq_eq_false_iff_ne.2 (HV.out (.inl hlt) het)
                                    clear het
                                    go_wp2_with fail
                                    go_quiet (fail)
                                    go_wp2_with fail
                                    exact ⟨⟨rfl, rfl, hkV.drewN _, m' + 1, by go_num, by omega⟩, by simp [intOf]; omega⟩
                                  · have hse : (y.top.toList == x.top.toList) = false := beq_eq_false_iff_ne.2 (fun h => het ((ba_inj _ _).1 h))
                                    clear het
                                    go_wp2_with fail
                                    go_quiet (fail)
                                    go_wp2_with fail
                                    exact ⟨⟨rfl, rfl, hkV.drewN _, m' + 1, by go_num, by omega⟩, by simp [intOf]; omega⟩
                                · have hlt' : ¬ (n : Int) < (i : Int) := by omega
                                  by_cases hmk : m' < k3
                                  · have hmk' : (m' : Int) < (k3 : Int) := by omega
                                    by_cases het : y.top = x.top
                                    · have hse : (y.top.toList == x.top.toList) = true := beq_iff_eq.2 (by rw [het])
                                      have hne : (v == z) = false := beq_eq_false_iff_ne.2 (HV.out (.inr hmk) het)
                                      clear het
                                      go_wp2_with fail
                                      go_quiet (fail)
                                      go_wp2_with fail
                                      exact ⟨⟨rfl, rfl, hkV.drewN _, m' + 1, by go_num, by omega⟩, by simp [intOf]; omega⟩
                                    · have hse : (y.top.toList == x.top.toList) = false := beq_eq_false_iff_ne.2 (fun h => het ((ba_inj _ _).1 h))
                                      clear het
                                      go_wp2_with fail
                                      go_quiet (fail)
                                      go_wp2_with fail
                                      exact ⟨⟨rfl, rfl, hkV.drewN _, m' + 1, by go_num, by omega⟩, by simp [intOf]; omega⟩
                                  · have hmk' : ¬ (m' : Int) < (k3 : Int) := by omega
                                    go_wp2_with fail
                                    exact ⟨⟨rfl, rfl, hkV, n + 1, by go_num, by omega⟩, by simp [intOf]; omega⟩
                              · have hmy' : ¬ (m' : Int) < (yn : Int) := by omega
                                go_wp2_with fail
                                exact ⟨⟨rfl, rfl, hkV, n + 1, by go_num, by omega⟩, by simp [intOf]; omega⟩
                          · go_wp2_with fail
                            go_meet
                            exact ⟨rfl, rfl, hkV⟩
--C>
                      case rest =>
                        obtain ⟨rfl, rfl, hk2⟩ := hcut
                        have hst2 := HK.out.1.kept0 hk2
                        have hcell := own_cell (j := jx) (hst2.m 0 rfl) (by rw [← HX.out.2.2.2.2.2.1]; exact cntRow_get HX.out.2.2.2.2.1)
                        obtain ⟨hc1, hc2⟩ := hcell
                        have hst3 := hst2.setRow 0 rfl jx (.int .i64 ((cntS (S.take i) m.id + k3 + 1 : Nat) : Int))
                        simp only [List.set_cons_zero] at hst3
                        rw [← HX.out.2.2.2.2.2.1, cntRow_step HM.out.2.2.2.2.2.2.1.nd HX.out.2.2.2.2.1, HX.out.2.2.2.2.2.1] at hst3
                        have hkg2 := (HK.out.2.1.trans hk2 (U := [g]) (by simp) (by simp)).setCell (p := ⟨g, jx, none⟩) (.int .i64 ((cntS (S.take i) m.id + k3 + 1 : Nat) : Int)) (by simp)
                        rw [HX.out.2.2.2.2.2.1] at hkg2 hc1
                        have hcv : ((cntS (S.take i) x.mem + k3 + 1 : Nat) : Int) = (cntS (S.take i) x.mem : Int) + (k3 : Int) + 1 := by omega
                        rw [hcv] at hst3 hkg2
                        clear hcv
                        have hcb : cntS (S.take i) x.mem ≤ 1000 := by
                          have h1 : cntS (S.take i) x.mem ≤ sumP (S.take i) := cntS_le _ _
                          have := hsS i
                          omega
                        have hkb := hsS (i + 1)
                        have hsn := HX.out.2.2.2.2.2.2.2.2.2.1
                        have HN := Lib.hid (And.intro hst3 hkg2); clear hst3 hkg2 hst2 hk2
                        generalize cntS (S.take i) x.mem = c0 at *
                        go_wp2_with fail
                        refine ⟨⟨rfl, k3 + 1, by go_num, by omega, ?_, ?_, ?_⟩, by simp [intOf]; omega⟩
                        · congr 1; omega
                        · exact HN.out.1
                        · exact HN.out.2
                  · obtain rfl : k3 = pn := by omega
                    have hfin : C2 w g N Ms Ts S np (.slice (some ⟨g, 0, none⟩) N N) (.int .i64 ((sumP Ts : Int) - (sumP (S.take i) : Int) - (k3 : Int))) (.int .i64 ((i + 1 : Nat) : Int)) wr := ⟨rfl, i + 1, rfl, by omega, by rw [HX.out.2.2.2.2.2.2.2.2.2.1]; congr 1; omega, by rw [← HX.out.2.2.2.2.2.2.2.2.1]; exact hst⟩
                    have HFN := Lib.hid hfin; clear hfin hst
                    go_wp2_with fail
                    first | exact ⟨HFN.out, by simp [intOf]; omega⟩ | (refine ⟨?_, by simp [intOf]; omega⟩; simpa using HFN.out)
        · obtain rfl : i = np := by omega
          have hall : sumP (S.take i) = sumP Ts := by rw [List.take_of_length_le (by have := HM.out.2.2.2.2.2.1; omega)]; exact HM.out.2.2.2.2.2.2.1.all
          rw [List.take_of_length_le (by have := HM.out.2.2.2.2.2.1; omega)] at hst
          rw [hall, Int.sub_self]
          clear hall
          have hfin : CntPost w N Ms S (.returned (.tuple #[.slice (some ⟨g, 0, none⟩) N N, .int .i64 0, .bool true])) wr := ⟨g, rfl, hst.m 0 rfl, hst.kept⟩
          have HFN := Lib.hid hfin; clear hfin hst
          go_wp2_with fail
          go_ret3
          exact HFN.out
end Go.Proofs.YticcnlpfmekagaaGreat
namespace Go.Proofs.YticcnlpfmekagaaGreat
open Go Go.Proofs Go.RowKit Go.Lib
set_option linter.unusedVariables false
set_option linter.unusedSimpArgs false

/-! ## even (25) -/
/-- the least and the most so far -/
def EvRel (w : World) (L : List Nat) (N : Nat) (a b i : Value) (wr : World) : Prop := Kept [] w wr ∧ ∃ k : Nat, i = .int .i64 k ∧ k ≤ N ∧ ∃ x ∈ L, ∃ y ∈ L, a = .int .i64 (x : Int) ∧ b = .int .i64 (y : Int)
set_option maxRecDepth 100000 in
set_option maxHeartbeats 8000000 in
theorem even_any (am : Option Addr) (N cm : Nat) (Ms : List Mem) (at' : Option Addr) (nt ct : Nat) (Ts : List Shr) (ap : Option Addr) (np cp : Nat) (S : List Shr) (w : World) (hm : MemsAt w (.slice am N cm) Ms) (hN : Ms.length = N) (ht : ShrsAt w (.slice at' nt ct) Ts) (hT : Ts.length = nt)
    (hS : ShrsAt w (.slice ap np cp) S) (hn : S.length = np) (hok : CntOk Ms Ts S) (hb : N ≤ 1000 ∧ nt ≤ 1000) (hbt : ∀ m ∈ Ms, m.tops.length ≤ maxLen) (hpt : ∀ x ∈ Ts, x.parts.length ≤ 1000) :
    Calls Tryz.prog 25 #[.slice am N cm, .slice at' nt ct, .slice ap np cp] w fun e w' => e = .returned (.bool true) ∧ Kept [] w w' := by
  have hc := counted_any am N cm Ms at' nt ct Ts ap np cp S w hm hN ht hT hS hn hok hb hbt hpt
  have hcb : ∀ m : Mem, cntS S m.id ≤ 1000 := fun m => by have := cntS_le S m.id; have := hok.all; have := hok.b1; omega
  have hN1 : 1 ≤ N := by have := hok.n1; omega
  have HC := Lib.hid (And.intro hc (And.intro hN (And.intro hok.near hcb))); clear hc hm hN ht hT hS hn hok hbt hpt hcb
  go_enter Tryz.func25, Tryz.ntmps25
  go_upto_region 4 with (first
    | (go_at_call 17
       refine HC.out.1.mono ?_
       rintro e w1 ⟨g, rfl, hrow, hk1⟩)
    | fail)
  have hcell : ∀ (j : Nat) m, Ms[j]? = some m → ∀ V, Kept [] w1 V → V.cell? ⟨g, j, none⟩ = some (.int .i64 ((cntS S m.id : Nat) : Int)) := fun j m hj V hV => hV.cell (own_cell (j := j) hrow (by unfold cntRow0; rw [List.getElem?_map, hj]; rfl)).1 (by simp)
  obtain ⟨m0, hm0⟩ : ∃ m, Ms[0]? = some m := ⟨_, List.getElem?_eq_getElem (by have := HC.out.2.1; omega)⟩
  have c0 := hcell 0 m0 hm0 w1 (Kept.refl _ _)
  have h0m := List.mem_of_getElem? hm0
  have HX := Lib.hid (And.intro hcell (And.intro hk1 h0m)); clear hcell hk1 h0m hrow hm0
  go_region
  all_goals
    have hN0 : (0 : Int) < (N : Int) := by omega
    have h20 : EvRel w1 (Ms.map fun m => cntS S m.id) N (.int .i64 ((cntS S m0.id : Nat) : Int)) (.int .i64 ((cntS S m0.id : Nat) : Int)) (.int .i64 0) w1.drew := ⟨(Kept.refl [] w1).drew, 0, rfl, Nat.zero_le _, _, List.mem_map_of_mem (f := fun m : Mem => cntS S m.id) HX.out.2.2, _, List.mem_map_of_mem (f := fun m : Mem => cntS S m.id) HX.out.2.2, rfl, rfl⟩
    have H20 := Lib.hid h20; clear h20 c0
    go_wp2_with fail
    go_loopw [10, 11, 12] (fun a b i wr => EvRel w1 (Ms.map fun m => cntS S m.id) N a b i wr) (fun _ _ i _ => N - (intOf i).toNat)
    case atStart => exact H20.out
    case round =>
      clear H20
      obtain ⟨hkw, k, rfl, hk, x, hx, y, hy, rfl, rfl⟩ := hrel
      by_cases hkn : k < N
      · obtain ⟨m, hmk⟩ : ∃ m, Ms[k]? = some m := ⟨_, List.getElem?_eq_getElem (by have := HC.out.2.1; omega)⟩
        have hki : (k : Int) < (N : Int) := by omega
        have ck := HX.out.1 k m hmk wr hkw
        have hmM := List.mem_map_of_mem (f := fun m : Mem => cntS S m.id) (List.mem_of_getElem? hmk)
        have HM := Lib.hid (And.intro hx (And.intro hy hmM)); clear hx hy hmM
        generalize cntS S m.id = v at *
        go_upto_region 8 with fail
        go_quiet (fail)
        go_wp2_with fail
        refine ⟨⟨hkw.drewN _, k + 1, by go_num, by omega, min x v, ?_, max y v, ?_, by congr 1; omega, by congr 1; omega⟩, by simp [intOf]; omega⟩
        · rcases Nat.le_total x v with h | h
          · rw [Nat.min_eq_left h]; exact HM.out.1
          · rw [Nat.min_eq_right h]; exact HM.out.2.2
        · rcases Nat.le_total y v with h | h
          · rw [Nat.max_eq_right h]; exact HM.out.2.2
          · rw [Nat.max_eq_left h]; exact HM.out.2.1
      · obtain rfl : k = N := by omega
        have h1 := HC.out.2.2.1 x hx y hy
        have h2 := HC.out.2.2.1 y hy x hx
        have hx1 : x ≤ 1000 := by obtain ⟨m, _, rfl⟩ := List.mem_map.1 hx; exact HC.out.2.2.2 m
        have hy1 : y ≤ 1000 := by obtain ⟨m, _, rfl⟩ := List.mem_map.1 hy; exact HC.out.2.2.2 m
        have hdec : decide ((y : Int) - (x : Int) ≤ 1) = true := decide_eq_true (by omega)
        have HD := Lib.hid hdec; clear hdec h1 h2
        go_wp2_with fail
        go_ret
        exact ⟨congrArg (fun b : Bool => Ending.returned (.bool b)) HD.out, HX.out.2.1.trans hkw (by simp) (by simp)⟩
end Go.Proofs.YticcnlpfmekagaaGreat
namespace Go.Proofs.YticcnlpfmekagaaGreat
open Go Go.Proofs Go.RowKit Go.Lib
open Classical
set_option linter.unusedVariables false
set_option linter.unusedSimpArgs false

/-! ## A member leaves, a topic comes: plain Lean -/
section
variable {Ms : List Mem} {Ts : List Shr} {Old : ByteArray → List TP} {Gen : ByteArray → Int}
theorem flatMap_sub {α β : Type} (f : α → List β) {R L : List α} (h : R.Sublist L) : (R.flatMap f).Sublist (L.flatMap f) := by
  induction h with
  | slnil => exact List.Sublist.refl _
  | cons a _ ih => rw [List.flatMap_cons]; exact ih.trans (List.sublist_append_right _ _)
  | cons_cons a _ ih => rw [List.flatMap_cons, List.flatMap_cons]; exact (List.Sublist.refl _).append ih
theorem StIn.part (h : StIn Ms Ts Old Gen) {R : List Mem} (hs : R.Sublist Ms) (h1 : 1 ≤ R.length) : StIn R Ts Old Gen := by
  have hm : ∀ m ∈ R, m ∈ Ms := fun m hm => hs.subset hm
  refine ⟨h1, Nat.le_trans hs.length_le h.m2, h.ids.sublist (hs.map _), fun m k => h.ok m (hm m k), fun m k => h.tops m (hm m k), fun m k => h.data m (hm m k), h.tk, h.tl, h.tn, h.t0, h.t1, h.nd.sublist (flatMap_sub _ hs), fun m k => h.sub m (hm m k), ?_⟩
  intro a ha b hb
  obtain ⟨m1, k1, rfl⟩ := List.mem_map.1 ha
  obtain ⟨m2, k2, rfl⟩ := List.mem_map.1 hb
  exact h.near _ (List.mem_map_of_mem (f := fun m : Mem => (Old m.id).length) (hm m1 k1)) _ (List.mem_map_of_mem (f := fun m : Mem => (Old m.id).length) (hm m2 k2))
theorem StIn.alike (h : StIn Ms Ts Old Gen) : AlikeP Ms Ts := fun t ht m hm => (h.tops m hm).mem_iff.2 (List.mem_map_of_mem ht)
/-- what stands when a member has left -/
def LeftP (R : List Mem) (Ts L : List Shr) (Old' : ByteArray → List TP) : Prop :=
  ∀ L2 A2, PlanOk (ids R) Old' (allT Ts) A2 → Shows (L2.map trip) A2 → Canon ltMT (L2.map trip) → CntOk R Ts L2 ∧ (L2.length ≤ 1000 ∧ ∀ x ∈ L2, x.parts.length ≤ 1000) ∧ ∀ m ∈ R, keptT m.id (L.map trip) (L2.map trip) = true
theorem PlanL.leave (h : FitA Ms Ts) {L : List Shr} (hl : PlanL Ms Ts L) {gen : Int} (hg : isI32 gen) {Ms' : List Mem} (hn : Ms'.length = Ms.length) (ht : ∀ (j : Nat) m m', Ms[j]? = some m → Ms'[j]? = some m' → ToldM L gen m m') {R : List Mem} (hs : R.Sublist Ms') (hr1 : 1 ≤ R.length) :
    ∃ Old', StIn R Ts Old' (fun _ => gen) ∧ LeftP R Ts L Old' := by
  obtain ⟨A, h1, h2, h3⟩ := hl
  have hi32 : ∀ x ∈ L, ∀ p ∈ x.parts, isI32 p := fun x hx p hp => by
    have h4 : Holds (L.map trip) x.mem x.top p := ⟨x.parts, List.mem_map_of_mem (f := trip) hx, hp⟩
    have h5 : (x.top, p) ∈ allT Ts := h1.all.mem_iff.1 (allOf_mem.2 ⟨_, (h2.iff _ _ _).1 h4⟩)
    obtain ⟨y, hy, _, hp2⟩ := allT_mem.1 h5
    have := (h.g.tops y hy).part hp2
    unfold isI32; omega
  obtain ⟨Old', q1, q2, q3⟩ := told_stin h.stin h1 h2 h3 (fun t ht => by have := (h.g.tops t ht).size; omega) hi32 hg hn ht
  have hsr := q1.part hs hr1
  refine ⟨Old', hsr, fun L2 A2 g1 g2 g3 => ⟨cnt_ok g1 g2 g3 hsr.ids hsr.m1 hsr.tn hsr.t1 hsr.alike, ?_, fun m hm => ?_⟩⟩
  · obtain ⟨b1, b2, _⟩ := plan_bounds g1 g2 g3 hsr.t1
    exact ⟨b2, fun x hx => (b1 x hx).2⟩
  · have hm' : m.id ∈ ids Ms := by rw [← q2]; exact List.mem_map_of_mem (f := fun m : Mem => m.id) (hs.subset hm)
    exact kept_fwd h2 g2 g1 hsr.tn (List.mem_map_of_mem (f := fun m : Mem => m.id) hm) (q3 m.id hm')
/-- a member who has subscribed to other topics -/
def subM (tv : Value) (ts : List ByteArray) (m : Mem) : Mem := { m with tv := tv, tops := ts }
theorem ids_sub (tv : Value) (ts : List ByteArray) (L : List Mem) : ids (L.map (subM tv ts)) = ids L := by simp [ids, subM, Function.comp_def]
theorem FitA.sub (h : FitA Ms Ts) (tv : Value) {k : Nat} (h1 : 1 ≤ k) (h2 : k ≤ Ts.length) : FitA (Ms.map (subM tv ((Ts.take k).map (·.top)))) (Ts.take k) := by
  have hl : (Ts.take k).length = k := by rw [List.length_take]; omega
  have hr : RisesS (Ts.take k) := List.Pairwise.sublist (List.take_sublist k Ts) h.g.rises
  have h6 := h.g.t6
  refine ⟨⟨by rw [List.length_map]; exact h.g.m1, by rw [List.length_map]; exact h.g.m6, by omega, by omega, fun x hx => h.g.tops x (List.mem_of_mem_take hx), hr, fun m hm => ?_, by rw [ids_sub]; exact h.g.ids⟩, fun t ht m hm => ?_, fun m hm => ?_⟩
  · obtain ⟨y, hy, rfl⟩ := List.mem_map.1 hm
    have h0 := h.g.mems y hy
    exact ⟨by simp only [subM, List.length_map]; omega, hr.nodup, h0.data, h0.owned⟩
  · obtain ⟨y, hy, rfl⟩ := List.mem_map.1 hm
    exact List.mem_map_of_mem (f := fun x : Shr => x.top) ht
  · obtain ⟨y, hy, rfl⟩ := List.mem_map.1 hm
    simp [subM]
theorem ToldM.sub {S : List Shr} {gen : Int} {m m' : Mem} (h : ToldM S gen m m') (tv : Value) (ts : List ByteArray) : ToldM S gen (subM tv ts m) (subM tv ts m') := by
  obtain ⟨dv, data, e⟩ := h.same
  exact ⟨⟨dv, data, by rw [e]; rfl⟩, h.data⟩
/-- what stands when a topic has come -/
def GrownP (Ms : List Mem) (Ms' : List Mem) (Ts L : List Shr) (Old' : ByteArray → List TP) : Prop :=
  ∀ L2 A2, PlanOk (ids Ms') Old' (allT Ts) A2 → Shows (L2.map trip) A2 → Canon ltMT (L2.map trip) → CntOk Ms Ts L2 ∧ (L2.length ≤ 1000 ∧ ∀ x ∈ L2, x.parts.length ≤ 1000) ∧ ∀ m ∈ Ms, keptT m.id (L.map trip) (L2.map trip) = true
theorem PlanL.grow (h : FitA Ms Ts) {tv : Value} {k : Nat} (hk1 : 1 ≤ k) (hk2 : k ≤ Ts.length) {L : List Shr} (hl : PlanL (Ms.map (subM tv ((Ts.take k).map (·.top)))) (Ts.take k) L) {gen : Int} (hg : isI32 gen) {Ms' : List Mem} (hn : Ms'.length = Ms.length) (ht : ∀ (j : Nat) m m', Ms[j]? = some m → Ms'[j]? = some m' → ToldM L gen m m') :
    ∃ Old', StIn Ms' Ts Old' (fun _ => gen) ∧ GrownP Ms Ms' Ts L Old' := by
  have hf := h.sub tv hk1 hk2
  obtain ⟨A, h1, h2, h3⟩ := hl
  have hi32 : ∀ x ∈ L, ∀ p ∈ x.parts, isI32 p := fun x hx p hp => by
    have h4 : Holds (L.map trip) x.mem x.top p := ⟨x.parts, List.mem_map_of_mem (f := trip) hx, hp⟩
    have h5 := h1.all.mem_iff.1 (allOf_mem.2 ⟨_, (h2.iff _ _ _).1 h4⟩)
    obtain ⟨y, hy, _, hp2⟩ := allT_mem.1 h5
    have := (hf.g.tops y hy).part hp2
    unfold isI32; omega
  obtain ⟨Old', q1, q2, q3⟩ := told_stin (Ms' := Ms'.map (subM tv ((Ts.take k).map (·.top)))) hf.stin h1 h2 h3 (fun t ht => by have := (hf.g.tops t ht).size; omega) hi32 hg (by rw [List.length_map, List.length_map]; exact hn) (fun j m m' hj hj' => by
    rw [List.getElem?_map] at hj hj'
    obtain ⟨y, hy, rfl⟩ := Option.map_eq_some_iff.1 hj
    obtain ⟨y', hy', rfl⟩ := Option.map_eq_some_iff.1 hj'
    exact (ht j y y' hy hy').sub _ _)
  rw [ids_sub, ids_sub] at q2
  have h0 := h.stin
  have hpair : ∀ m' ∈ Ms', ∃ m ∈ Ms, ToldM L gen m m' := fun m' hm' => by
    obtain ⟨j, hj⟩ := List.mem_iff_getElem?.1 hm'
    obtain ⟨m, h1⟩ : ∃ m, Ms[j]? = some m := ⟨_, List.getElem?_eq_getElem (by have := (List.getElem?_eq_some_iff.1 hj).1; omega)⟩
    exact ⟨m, List.mem_of_getElem? h1, ht j m m' h1 hj⟩
  have hin : ∀ m' ∈ Ms', subM tv ((Ts.take k).map (·.top)) m' ∈ Ms'.map (subM tv ((Ts.take k).map (·.top))) := fun m' hm' => List.mem_map_of_mem hm'
  have hst : StIn Ms' Ts Old' (fun _ => gen) := by
    refine ⟨by rw [hn]; exact h0.m1, by rw [hn]; exact h0.m2, by rw [q2]; exact h0.ids, fun m' hm' => ?_, fun m' hm' => ?_, fun m' hm' => (by have h := q1.data _ (hin m' hm'); exact h), h0.tk, h0.tl, h0.tn, h0.t0, h0.t1, ?_, fun m' hm' p hp => ?_, ?_⟩
    · obtain ⟨m, hm, htm⟩ := hpair m' hm'
      obtain ⟨dv, data, e⟩ := htm.same
      have o0 := h0.ok m hm
      have o1 := (q1.ok _ (hin m' hm')).data
      exact ⟨by rw [e]; exact o0.tops, o1, by rw [e]; exact o0.olen, by rw [e]; exact o0.oparts⟩
    · obtain ⟨m, hm, htm⟩ := hpair m' hm'
      obtain ⟨dv, data, e⟩ := htm.same
      rw [e]; exact h0.tops m hm
    · have := q1.nd
      rw [List.flatMap_map] at this
      exact this
    · have h5 := q1.sub _ (hin m' hm') p hp
      obtain ⟨t, q⟩ := p
      obtain ⟨x, hx, e, hq⟩ := allT_mem.1 h5
      exact allT_mem.2 ⟨x, List.mem_of_mem_take hx, e, hq⟩
    · have := q1.near
      rw [List.map_map] at this
      exact this
  refine ⟨Old', hst, fun L2 A2 g1 g2 g3 => ⟨?_, ?_, fun m hm => ?_⟩⟩
  · rw [q2] at g1
    exact cnt_ok g1 g2 g3 h0.ids h0.m1 h0.tn h0.t1 h.a.1
  · obtain ⟨b1, b2, _⟩ := plan_bounds g1 g2 g3 h0.t1
    exact ⟨b2, fun x hx => (b1 x hx).2⟩
  · have hmi : m.id ∈ ids Ms := List.mem_map_of_mem (f := fun m : Mem => m.id) hm
    exact kept_fwd h2 g2 g1 h0.tn (by rw [q2]; exact hmi) (q3 m.id (by rw [ids_sub]; exact hmi))
end
end Go.Proofs.YticcnlpfmekagaaGreat
namespace Go.Proofs.YticcnlpfmekagaaGreat
open Go Go.Proofs Go.RowKit Go.Lib
set_option linter.unusedVariables false
set_option linter.unusedSimpArgs false

/-! ## FnStickyLeaves (8) -/
theorem SlAt.part {w : World} {sz b off n cap : Nat} {cs : List Value} (h : SlAt w sz (.slice (some ⟨b, off, none⟩) n cap) n cs) {i k : Nat} (hik : i + k ≤ n) (c : Nat) : SlAt w sz (.slice (some ⟨b, off + i * sz, none⟩) k c) k ((cs.drop (i * sz)).take (k * sz)) := by
  have hl := h.1
  have h1 : i * sz + k * sz ≤ n * sz := by rw [← Nat.add_mul]; exact Nat.mul_le_mul_right sz hik
  refine ⟨by rw [List.length_take, List.length_drop, hl]; omega, fun u hu => h.2.1 u (List.mem_of_mem_drop (List.mem_of_mem_take hu)), .inr ⟨b, off + i * sz, c, rfl, fun j u hj => ?_⟩⟩
  have hjk : j < k * sz := by
    have := (List.getElem?_eq_some_iff.1 hj).1
    rw [List.length_take] at this; omega
  rw [List.getElem?_take_of_lt hjk, List.getElem?_drop] at hj
  have := h.cell hj
  rw [Nat.add_assoc]; exact this
theorem SlAt.none {w : World} {sz : Nat} (a : Option Addr) (c : Nat) : SlAt w sz (.slice a 0 c) 0 [] := ⟨by simp, by simp, .inl ⟨a, c, rfl, rfl⟩⟩
theorem mem_take8 : ∀ (L : List Mem) (k : Nat), (L.flatMap memCells).take (k * 8) = (L.take k).flatMap memCells
  | [], k => by simp
  | x :: L, 0 => by simp
  | x :: L, k + 1 => by
    rw [List.flatMap_cons, List.take_succ_cons, List.flatMap_cons, ← mem_take8 L k]
    have : (memCells x).length = 8 := rfl
    rw [List.take_append, this, List.take_of_length_le (by rw [this]; omega), show (k + 1) * 8 - 8 = k * 8 by omega]
theorem mem_drop8 : ∀ (L : List Mem) (k : Nat), (L.flatMap memCells).drop (k * 8) = (L.drop k).flatMap memCells
  | [], k => by simp
  | x :: L, 0 => by simp
  | x :: L, k + 1 => by
    rw [List.flatMap_cons, List.drop_succ_cons, ← mem_drop8 L k]
    have : (memCells x).length = 8 := rfl
    rw [List.drop_append, this, List.drop_of_length_le (by rw [this]; omega), show (k + 1) * 8 - 8 = k * 8 by omega, List.nil_append]

set_option maxRecDepth 100000 in
set_option maxHeartbeats 8000000 in
theorem law_leaves (am : Option Addr) (N cm : Nat) (Ms : List Mem) (at' : Option Addr) (nt ct : Nat) (Ts : List Shr) (q : Nat) (gen : Int) (w0 : World) (hm : MemsAt w0 (.slice am N cm) Ms) (hN : Ms.length = N) (ht : ShrsAt w0 (.slice at' nt ct) Ts) (hT : Ts.length = nt)
    (hg : isI32 gen) (hq : q < 256) (hmd : ∀ m ∈ Ms, MemRd w0 m) (htd : ∀ t ∈ Ts, t.top.size ≤ maxLen) (hb : N ≤ maxLen ∧ nt ≤ maxLen) :
    Calls Tryz.prog 8 #[.slice am N cm, .slice at' nt ct, .int .u8 q, .int .i32 gen] w0 fun e w' => e = .returned (.bool true) ∧ Kept [] w0 w' := by
  have hmx : maxLen = 9223372036854775807 := rfl
  have hf2 := fits2_any am N cm Ms w0 hm hN hb.1 (fun m hmM => ⟨(hmd m hmM).ln.1, (hmd m hmM).ln.2.2⟩)
  have hf5 := fun W (k : Kept [] w0 W) => fits5 (.slice at' nt ct) Ts W (ht.kept k (by simp) (by simp)) (by omega)
  have hgf := fun W (k : Kept [] w0 W) => groupFits_any am N cm Ms at' nt ct Ts W (hm.keptW k) hN (ht.kept k (by simp) (by simp)) hT (fun m hmM => (hmd m hmM).kept0 k) htd ⟨hb.1, hb.2⟩
  have hak := fun W (k : Kept [] w0 W) (h : GFit Ms Ts) => ask_any am N cm Ms at' nt ct Ts W (hm.keptW k) hN (ht.kept k (by simp) (by simp)) hT (by have := h.m6; have := h.t6; omega) (fun m hmM => (hmd m hmM).ln.1)
  have HC := Lib.hid (And.intro hf2 (And.intro hf5 (And.intro hgf hak))); clear hf2 hf5 hgf hak
  have HAL := Lib.hid alive
  have HM0 := Lib.hid (And.intro hm (And.intro hN (And.intro ht (And.intro hT (And.intro hg hmd))))); clear hm hN ht hT hg hmd htd
  by_cases h2n : (N : Int) < 2
  · go_enter Tryz.func8, Tryz.ntmps8
    go_wp2_with (first
      | (go_at_call 12; refine HC.out.1.mono ?_; rintro e w1 ⟨⟨b1, rfl⟩, hk1⟩; cases b1)
      | (go_at_call 13; refine (HC.out.2.1 _ hk1).mono ?_; rintro e w2 ⟨⟨b2, rfl⟩, hk2⟩; have hk3 := hk1.trans hk2 (U := []) (by simp) (by simp); cases b2)
      | (go_at_call 15; refine (HC.out.2.2.1 _ hk3).mono ?_; rintro e w4 ⟨⟨rfl, hg⟩ | rfl, hk4⟩ <;> have hk5 := hk3.trans hk4 (U := []) (by simp) (by simp))
      | (go_at_call 16; refine (HC.out.2.2.2 _ hk5 hg).mono ?_; rintro e w6 ⟨⟨rfl, ha⟩ | rfl, hk6⟩ <;> have hk7 := hk5.trans hk6 (U := []) (by simp) (by simp))
      | (go_at_call 14; refine (HAL.out _).mono ?_; rintro e w8 ⟨rfl, hk8⟩; first | have hk9 := hk7.trans hk8 (U := []) (by simp) (by simp) | have hk9 := hk5.trans hk8 (U := []) (by simp) (by simp))
      | fail)
    all_goals
      go_ret
      first | exact ⟨rfl, hk9⟩ | exact ⟨rfl, hk3⟩ | exact ⟨rfl, hk1⟩
  by_cases hneg : gen < 0
  · go_enter Tryz.func8, Tryz.ntmps8
    go_wp2_with (first
      | (go_at_call 12; refine HC.out.1.mono ?_; rintro e w1 ⟨⟨b1, rfl⟩, hk1⟩; cases b1)
      | (go_at_call 13; refine (HC.out.2.1 _ hk1).mono ?_; rintro e w2 ⟨⟨b2, rfl⟩, hk2⟩; have hk3 := hk1.trans hk2 (U := []) (by simp) (by simp); cases b2)
      | (go_at_call 15; refine (HC.out.2.2.1 _ hk3).mono ?_; rintro e w4 ⟨⟨rfl, hg⟩ | rfl, hk4⟩ <;> have hk5 := hk3.trans hk4 (U := []) (by simp) (by simp))
      | (go_at_call 16; refine (HC.out.2.2.2 _ hk5 hg).mono ?_; rintro e w6 ⟨⟨rfl, ha⟩ | rfl, hk6⟩ <;> have hk7 := hk5.trans hk6 (U := []) (by simp) (by simp))
      | (go_at_call 14; refine (HAL.out _).mono ?_; rintro e w8 ⟨rfl, hk8⟩; first | have hk9 := hk7.trans hk8 (U := []) (by simp) (by simp) | have hk9 := hk5.trans hk8 (U := []) (by simp) (by simp))
      | fail)
    all_goals
      go_ret
      first | exact ⟨rfl, hk9⟩ | exact ⟨rfl, hk3⟩ | exact ⟨rfl, hk1⟩
  · go_enter Tryz.func8, Tryz.ntmps8
    go_upto_region 3 with (first
      | (go_at_call 12; refine HC.out.1.mono ?_; rintro e w1 ⟨⟨b1, rfl⟩, hk1⟩; cases b1)
      | (go_at_call 13; refine (HC.out.2.1 _ hk1).mono ?_; rintro e w2 ⟨⟨b2, rfl⟩, hk2⟩; have hk3 := hk1.trans hk2 (U := []) (by simp) (by simp); cases b2)
      | fail)
    · go_wp2
      go_ret
      exact ⟨rfl, hk1⟩
    · go_wp2
      go_ret
      exact ⟨rfl, hk3⟩
    go_upto_region 5 with (first
      | (go_at_call 15; refine (HC.out.2.2.1 _ hk3).mono ?_; rintro e w4 ⟨⟨rfl, hg⟩ | rfl, hk4⟩ <;> have hk5 := hk3.trans hk4 (U := []) (by simp) (by simp))
      | (go_at_call 16; refine (HC.out.2.2.2 _ hk5 hg).mono ?_; rintro e w6 ⟨⟨rfl, ha⟩ | rfl, hk6⟩ <;> have hk7 := hk5.trans hk6 (U := []) (by simp) (by simp))
      | fail)
    rotate_left
    all_goals try
      go_wp2_with (first
        | (go_at_call 14; refine (HAL.out _).mono ?_; rintro e w8 ⟨rfl, hk8⟩; first | have hk9 := hk7.trans hk8 (U := []) (by simp) (by simp) | have hk9 := hk5.trans hk8 (U := []) (by simp) (by simp))
        | fail)
      go_ret
      exact ⟨rfl, hk9⟩
    have hfa : FitA Ms Ts := ⟨hg, ha⟩
    clear HC hg ha hk1 hk2 hk3 hk4 hk5 hk6
    have hN := HM0.out.2.1
    have hT := HM0.out.2.2.2.1
    have hgs := group_sticky am cm Ms at' ct Ts (fun _ => []) (fun _ => 0) w6 (by rw [hN]; exact HM0.out.1.keptW hk7) (by rw [hT]; exact HM0.out.2.2.1.kept hk7 (by simp) (by simp)) hfa.stin
    rw [hN, hT] at hgs
    have HG := Lib.hid hgs; clear hgs
    go_upto_region 6 with (first
      | (go_at_call 18
         refine HG.out.mono ?_
         rintro e w ⟨A, S, ap, cp, rfl, hA1, hA2, hA3, hL, _, _, hk8⟩
         have hk9 := hk7.trans hk8 (U := []) (by simp) (by simp)
         obtain ⟨np, hn⟩ : ∃ n, S.length = n := ⟨_, rfl⟩
         rw [hn] at hL ⊢)
      | fail)
    have hpl : PlanL Ms Ts S := ⟨A, hA1, hA2, hA3⟩
    have hpb := hpl.len hfa
    have hN6 : N ≤ 6 := by have := hfa.g.m6; omega
    have hnt6 : nt ≤ 6 := by have := hfa.g.t6; omega
    have hN2 : 2 ≤ N := by omega
    have hto := told_any am N cm Ms ap np cp S gen w (HM0.out.1.keptW hk9) hN hL hn HM0.out.2.2.2.2.1 ⟨by omega, by omega, by have := hpb.1; omega⟩ (fun m _ => hpl.own hfa _ _)
    have HT := Lib.hid hto; clear hto HG
    go_upto_region 7 with (first
      | (go_at_call 24
         refine HT.out.mono ?_
         rintro e w3 ⟨Ms', a5, c5, rfl, hm', hN', hNc, hfr, htl, hk3⟩)
      | fail)
    have hkw3 := hk9.trans hk3 (U := []) (by simp) (by simp)
    -- who leaves
    obtain ⟨jw, hjw⟩ : ∃ jw, q % N = jw := ⟨_, rfl⟩
    have hjwN : jw < N := by rw [← hjw]; exact Nat.mod_lt _ (by omega)
    have hlv := hpl.leave hfa HM0.out.2.2.2.2.1 (hN'.trans hN.symm) htl (R := Ms'.eraseIdx jw) (List.eraseIdx_sublist _ _) (by rw [List.length_eraseIdx_of_lt (by omega)]; omega)
    have hsl := hm'.cells
    rw [hN'] at hsl
    obtain ⟨gb, go, rfl⟩ : ∃ gb go, a5 = some ⟨gb, go, none⟩ := by
      rcases hsl.2.2 with ⟨_, _, _, h0⟩ | ⟨b, off, cap, h1, _⟩
      · omega
      · simp only [Value.slice.injEq] at h1
        exact ⟨b, off, h1.1⟩
    have HLV := Lib.hid (And.intro hlv (And.intro hsl (And.intro hm' (And.intro hN' (And.intro hkw3 (And.intro hpb (And.intro hpl (And.intro hL (And.intro hn hk3))))))))); clear hlv hsl hm' hN' hfr htl HT hA1 hA2 hA3 hpl hL hk8 hk7 hpb hn hk3 hkw3 hk9
    have hmodi : (q : Int) % (N : Int) = ((jw : Nat) : Int) := by rw [← hjw]; exact (Int.natCast_emod q N).symm
    have hNne : ¬ ((N : Int) = 0) := by omega
    go_upto_region 10 with fail
    have b0 : (0 : Int) ≤ (jw : Int) := by omega
    have b6 : (jw : Int) ≤ (c5 : Int) := by omega
    have b7 : (jw : Int) ≤ (N : Int) := by omega
    have b1 : (0 : Int) ≤ (jw : Int) + 1 := by omega
    have b2 : (jw : Int) + 1 ≤ (N : Int) := by omega
    have b3 : (N : Int) ≤ (c5 : Int) := by omega
    have b4 : IntKind.i64.wrap ((jw : Int) + 1) = (jw : Int) + 1 := by rw [IntKind.wrap_i64]; omega
    have b5 : ((jw : Int) + 1).toNat = jw + 1 := by omega
    have hst1 := ((St.start0 (Ow.nil w3)).drew).made 30 8 0 [] rfl (by decide)
    have hsA : ∀ W, Kept [] w3 W → Src Tryz.prog 8 22 (.slice (some ⟨gb, go, none⟩) jw c5) jw ((Ms'.take jw).flatMap memCells) W := fun W hW => by
      have h1 := (HLV.out.2.1.kept hW (by simp)).part (i := 0) (k := jw) (by omega) c5
      rw [Nat.zero_mul, List.drop_zero, Nat.add_zero, mem_take8] at h1
      exact h1.src Tryz.underlying22
    have hsB : ∀ W, Kept [] w3 W → Src Tryz.prog 8 22 (.slice (if c5 = jw + 1 then some ⟨gb, go, none⟩ else some ⟨gb, go + (jw + 1) * 8, none⟩) (N - (jw + 1)) (c5 - (jw + 1))) (N - (jw + 1)) ((Ms'.drop (jw + 1)).flatMap memCells) W := fun W hW => by
      split
      · have h0 : N - (jw + 1) = 0 := by omega
        rw [h0, List.drop_of_length_le (by have := HLV.out.2.2.2.1; omega)]
        exact (SlAt.none _ _).src Tryz.underlying22
      · have h1 := (HLV.out.2.1.kept hW (by simp)).part (i := jw + 1) (k := N - (jw + 1)) (by omega) (c5 - (jw + 1))
        rw [mem_drop8, List.take_of_length_le (by rw [memCells_len, List.length_drop, HLV.out.2.2.2.1]; omega)] at h1
        exact h1.src Tryz.underlying22
    have HSR := Lib.hid (And.intro hsA hsB); clear hsA hsB
    go_region_held3 (fun W => True) (trivial)
      (first
        | (refine sl_push 0 rfl rfl elMem rfl rfl hst2 rfl (HSR.out.2 _ hst2.kept) (by omega) (by omega) ?_
           intro v2 w5 hst3
           simp only [List.set_cons_zero] at hst3)
        | (refine sl_push 0 rfl rfl elMem rfl rfl hst1 rfl (HSR.out.1 _ hst1.kept) (by omega) (by omega) ?_
           intro v1 w4 hst2
           simp only [List.set_cons_zero, List.nil_append, Nat.zero_add] at hst2)
        | fail)
    all_goals
      generalize (if c5 = jw + 1 then some (⟨gb, go, none⟩ : Addr) else some ⟨gb, go + (jw + 1) * 8, none⟩) = zz at *
      obtain ⟨K, hK⟩ : ∃ K, jw + (N - (jw + 1)) = K := ⟨_, rfl⟩
      rw [hK, ← List.flatMap_append, ← List.eraseIdx_eq_take_drop_succ] at hst3
      have hrow : w5.ownsRow 0 30 8 v2 K ((Ms'.eraseIdx jw).flatMap memCells) := hst3.m 0 rfl
      obtain ⟨a6, n6, c6, rfl⟩ := own_form hrow
      obtain rfl : K = n6 := by first | exact own_len hrow | exact (own_len hrow).symm
      have hkw5 : Kept [] w3 w5 := hst3.kept
      have hRl : (Ms'.eraseIdx jw).length = K := by rw [List.length_eraseIdx_of_lt (by have := HLV.out.2.2.2.1; omega), HLV.out.2.2.2.1]; omega
      have hmR : MemsAt w5 (.slice a6 K c6) (Ms'.eraseIdx jw) := by
        have he : ∀ m ∈ Ms'.eraseIdx jw, MemAt w5 m := fun m hm => (HLV.out.2.2.1.each m (List.mem_of_mem_eraseIdx hm)).kept0 hkw5
        refine ⟨⟨_, _, by rw [hRl]⟩, ?_, he⟩
        rw [hRl]
        exact own_sl hrow (fun u hu => by
          obtain ⟨m', hm', hu⟩ := List.mem_flatMap.1 hu
          exact mem_one (he m' hm') u hu)
      obtain ⟨Old', hsi, hlp⟩ := HLV.out.1
      have hkw05 := HLV.out.2.2.2.2.1.trans hkw5 (U := []) (by simp) (by simp)
      have hL5 := HLV.out.2.2.2.2.2.2.2.1.kept (HLV.out.2.2.2.2.2.2.2.2.2.trans hkw5 (U := []) (by simp) (by simp)) (by simp) (by simp)
      have hgs := group_sticky a6 c6 (Ms'.eraseIdx jw) at' ct Ts Old' (fun _ => gen) w5 (by rw [hRl]; exact hmR) (by rw [hT]; exact HM0.out.2.2.1.kept hkw05 (by simp) (by simp)) hsi
      rw [hRl, hT] at hgs
      generalize Ms'.eraseIdx jw = R at *
      have HG := Lib.hid (And.intro hgs (And.intro hsi (And.intro hlp (And.intro hmR (And.intro hRl (And.intro hkw05 hL5)))))); clear hgs hsi hlp hmR hRl hkw05 hL5 hrow hst1 hst2 hst3 hkw5
      go_upto_region 12 with (first
        | (go_at_call 18
           refine HG.out.1.mono ?_
           rintro e w6 ⟨A2, S2, a2, c2, rfl, hB1, hB2, hB3, hL2, _, _, hk6⟩
           obtain ⟨n2, hn2⟩ : ∃ n, S2.length = n := ⟨_, rfl⟩
           rw [hn2] at hL2 ⊢)
        | fail)
      obtain ⟨hce, hb2n, hkt⟩ := HG.out.2.2.1 S2 A2 hB1 hB2 hB3
      have hkw6 := HG.out.2.2.2.2.2.1.trans hk6 (U := []) (by simp) (by simp)
      have hKN : K ≤ 1000 := by omega
      have hev := even_any a6 K c6 R at' nt ct Ts a2 n2 c2 S2 w6 (HG.out.2.2.2.1.keptW hk6) HG.out.2.2.2.2.1 (HM0.out.2.2.1.kept hkw6 (by simp) (by simp)) hT hL2 hn2 hce ⟨hKN, by omega⟩
        (fun m hm => by have h1 := (HG.out.2.1.tops m hm).length_eq; rw [List.length_map, hT] at h1; omega) (fun x hx => by have := (hfa.g.tops x hx).p2; omega)
      have hL6 := HG.out.2.2.2.2.2.2.kept hk6 (by simp) (by simp)
      have HE := Lib.hid (And.intro hev (And.intro hkt (And.intro hb2n (And.intro hL2 (And.intro hn2 (And.intro hkw6 hL6)))))); clear hev hkt hb2n hL2 hn2 hkw6 hL6 hce hB1 hB2 hB3
      go_upto_region 14 with (first
        | (go_at_call 25
           refine HE.out.1.mono ?_
           rintro e w7 ⟨rfl, hk7⟩)
        | fail)
      have hpn := HLV.out.2.2.2.2.2.1
      have hn := HLV.out.2.2.2.2.2.2.2.2.1
      have hmR7 := HG.out.2.2.2.1.keptW (hk6.trans hk7 (U := []) (by simp) (by simp))
      have hkk : ∀ m ∈ R, ∀ W, Kept [] w7 W → Calls Tryz.prog 26 #[.string m.id, .slice ap np cp, .slice a2 n2 c2] W fun e w' => e = .returned (.bool true) ∧ Kept [] W w' := fun m hm W hW =>
        have h7 := hk7.trans hW (U := []) (by simp) (by simp)
        kept_any m.id ap np cp S a2 n2 c2 S2 W (HE.out.2.2.2.2.2.2.kept h7 (by simp) (by simp)) hn (HE.out.2.2.2.1.kept h7 (by simp) (by simp)) HE.out.2.2.2.2.1 ⟨by have := hpn.1; omega, by have := HE.out.2.2.1.1; have := HE.out.2.2.2.2.1; omega⟩ (fun x hx => by have := hpn.2 x hx; omega) (fun x hx => by have := HE.out.2.2.1.2 x hx; omega) (HE.out.2.1 m hm)
      have hkw7 := HE.out.2.2.2.2.2.1.trans hk7 (U := []) (by simp) (by simp)
      have HK := Lib.hid (And.intro hkk (And.intro hmR7 (And.intro HG.out.2.2.2.2.1 hkw7))); clear hkk hmR7 hkw7 hpn hn hk6 hk7 HE HG HLV
      go_wp2_with fail
      go_loopw [16] (fun i wr => KR1 w7 K i wr) (fun i _ => K - (intOf i).toNat)
      case atStart => exact ⟨Kept.refl _ _, 0, rfl, Nat.zero_le _⟩
      case round =>
        obtain ⟨hkr, j, rfl, hj⟩ := hrel
        by_cases hjn : j < K
        · obtain ⟨m, hmj⟩ : ∃ m, R[j]? = some m := ⟨_, List.getElem?_eq_getElem (by have := HK.out.2.2.1; omega)⟩
          obtain ⟨gm, off, ta, tc, da, dc, oa, oc, rfl, e1, e2, e3, hcm⟩ := mem_at HK.out.2.1 HK.out.2.2.1 hmj
          have c0 := (hcm wr hkr).1
          have hjk : (j : Int) < (K : Int) := by omega
          have HJ := Lib.hid (HK.out.1 m (List.mem_of_getElem? hmj)); clear hmj e1 e2 e3 hcm
          generalize m.id = mid at *
          go_wp2_with (first
            | (go_at_call 26
               refine (HJ.out _ hkr).mono ?_
               rintro e w8 ⟨rfl, hk8⟩
               have hk9 := hkr.trans hk8 (U := []) (by simp) (by simp))
            | fail)
          exact ⟨⟨hk9, j + 1, by go_num, by omega⟩, by simp [intOf]; omega⟩
        · obtain rfl : j = K := by omega
          go_wp2_with (first
            | (go_at_call 14; refine (HAL.out _).mono ?_; rintro e w8 ⟨rfl, hk8⟩)
            | fail)
          go_ret
          exact ⟨rfl, (HK.out.2.2.2.trans hkr (U := []) (by simp) (by simp)).trans hk8 (by simp) (by simp)⟩
theorem law_leaves_row (am : Option Addr) (cm : Nat) (Ms : List Mem) (at' : Option Addr) (ct : Nat) (Ts : List Shr) (who gen : Int) (w : World) (hm : MemsAt w (.slice am Ms.length cm) Ms) (hml : Ms.length ≤ maxLen) (hmd : ∀ z ∈ Ms, MemRd w z) (ht : ShrsAt w (.slice at' Ts.length ct) Ts) (htl : Ts.length ≤ maxLen)
    (htd : ∀ z ∈ Ts, z.mem.size ≤ maxLen ∧ z.top.size ≤ maxLen ∧ z.parts.length ≤ maxLen) (hw : (Lit.int .u8 who).wf = true) (hg : (Lit.int .i32 gen).wf = true) :
    Calls Tryz.prog 8 #[.slice am Ms.length cm, .slice at' Ts.length ct, .int .u8 who, .int .i32 gen] w fun e w' => e = .returned (.bool true) ∧ Kept [] w w' := by
  simp [Lit.wf, IntKind.min, IntKind.max, IntKind.signed, IntKind.bits] at hg hw
  obtain ⟨q, rfl⟩ : ∃ q : Nat, who = q := ⟨who.toNat, by omega⟩
  exact law_leaves am _ cm Ms at' _ ct Ts q gen w hm rfl ht rfl (by unfold isI32; omega) (by omega) hmd (fun t h => (htd t h).2.1) ⟨hml, htl⟩
end Go.Proofs.YticcnlpfmekagaaGreat
