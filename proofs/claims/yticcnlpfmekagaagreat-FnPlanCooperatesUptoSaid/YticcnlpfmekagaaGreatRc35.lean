/- Part 35 of the proof of the row: PlanJp, DelIt, Sco, Cpc. -/
import Derived.Test.YticcnlpfmekagaaGreatRc00
import Derived.Test.YticcnlpfmekagaaGreatRc28
import Derived.Test.YticcnlpfmekagaaGreatRc34
import Derived.Test.YticcnlpfmekagaaGreatRc08
import Derived.Test.YticcnlpfmekagaaGreatRc13
set_option linter.unusedVariables false
set_option linter.unusedSimpArgs false
set_option maxRecDepth 100000
set_option maxHeartbeats 8000000
namespace Go.Proofs.YticcnlpfmekagaaGreat
section
open Go Go.Proofs Go.RowKit Go.Lib
open Classical
structure PlInJ (Xs : List Md) (D : Tops) (nw : ByteArray) : Prop where
 n1 : 1 ≤ Xs.length
 n2 : Xs.length ≤ 1000
 dk : (D.map (·.1)).Nodup
 tn : (topTps D).Nodup
 t0 : 0 < (topTps D).length
 t1 : (topTps D).length ≤ 1000
 dl : D.length ≤ 1000
 all : (Xs.flatMap (·.parts)).Perm (topTps D)
 nwIn : ∃ x ∈ Xs, x.name = nw ∧ x.parts = []
 near : ∀ x ∈ Xs, ∀ y ∈ Xs, x.name ≠ nw → y.name ≠ nw → x.parts.length ≤ y.parts.length + 1
section
variable {Xs : List Md} {D : Tops} {nw : ByteArray}
theorem PlInJ.nd (h : PlInJ Xs D nw) : (Xs.flatMap (·.parts)).Nodup := h.all.nodup_iff.2 h.tn
theorem PlInJ.sub (h : PlInJ Xs D nw) : ∀ x ∈ Xs, ∀ p ∈ x.parts, p ∈ topTps D := fun x hx p hp => h.all.mem_iff.1 (List.mem_flatMap.2 ⟨x, hx, hp⟩)
theorem PlInJ.plen (h : PlInJ Xs D nw) : (Xs.flatMap (·.parts)).length ≤ (topTps D).length := by rw [h.all.length_eq]; exact Nat.le_refl _
theorem St.sub {S : List Nat} {w0 w : World} {M M' R : List Res} (h : St S w0 w M R) (p : M'.Sublist M) : St S w0 w M' R :=
 ⟨h.kept, h.ow.sub (p.append (List.Sublist.refl _)), fun g hg => by
   obtain ⟨X, hX, hg⟩ := List.mem_flatMap.1 hg
   exact h.turn g (foots_mem (p.subset hX) g hg)⟩
theorem St.newmap {S : List Nat} {w0 w : World} {M R : List Res} (h : St S w0 w M R) (V : Value → Prop) : St S w0 (w.alloc (.map #[] 0)) (Rs.map w.heap.size V [] :: M) R :=
 h.push ((Kept.refl _ _).alloc _) (MapAt.new w V) (by simp [Rs.map])
def LqOk (A : List Rw) (lq : List (Value × Value)) : Prop := ∀ x ∈ A, ∀ p ∈ x.2.2, (tpV p, Value.string x.1) ∈ lq
theorem LqOk.zero {Dn : List Rw} {lq : List (Value × Value)} {m : ByteArray} {ps : List TP} {v : Value} (h : LqOk Dn lq) : LqOk (Dn ++ [(m, v, ps.take 0)]) lq := fun x hx p hp => by
 rcases Zap.1 hx with hx | hx
 · exact h x hx p hp
 · simp only [Zmc, Znn, or_false] at hx
   subst hx; simp at hp
theorem LqOk.val {Dn : List Rw} {lq : List (Value × Value)} {m : ByteArray} {ps : List TP} {v v' : Value} (h : LqOk (Dn ++ [(m, v, ps)]) lq) : LqOk (Dn ++ [(m, v', ps)]) lq := fun x hx p hp => by
 rcases Zap.1 hx with hx | hx
 · exact h x (by simp [hx]) p hp
 · simp only [Zmc, Znn, or_false] at hx
   subst hx
   exact h (m, v, ps) (by simp) p hp
theorem LqOk.step {Dn : List Rw} {lq : List (Value × Value)} {m : ByteArray} {ps : List TP} {v : Value} {k : Nat} {q : TP} (h : LqOk (Dn ++ [(m, v, ps.take k)]) lq) (hq : ps[k]? = some q) (hn : q ∉ Dn.flatMap (·.2.2) ++ ps.take k) : LqOk (Dn ++ [(m, v, ps.take (k + 1))]) (putE lq (tpV q) (.string m)) := fun x hx p hp => by
 obtain ⟨h1, h2⟩ := List.getElem?_eq_some_iff.1 hq
 rcases Zap.1 hx with hx | hx
 · refine mem_putE_oth (h x (by simp [hx]) p hp) fun e => hn ?_
   rw [← tpV_inj e]
   exact List.mem_append_left _ (List.mem_flatMap.2 ⟨x, hx, hp⟩)
 · simp only [Zmc, Znn, or_false] at hx
   subst hx
   simp only at hp
   rw [List.take_succ_eq_append_getElem h1, h2] at hp
   rcases Zap.1 hp with hp | hp
   · refine mem_putE_oth (h (m, v, ps.take k) (by simp) p hp) fun e => hn ?_
     rw [← tpV_inj e]
     exact List.mem_append_right _ hp
   · simp only [Zmc, Znn, or_false] at hp
     subst hp
     exact mem_putE_self _ _ _
theorem LqOk.fin {Dn A1 A2 : List Rw} {lq : List (Value × Value)} (h : LqOk Dn lq) (hp : Dn.Perm A1) (ha : asgT A2 = asgT A1) : LqOk A2 lq := fun x hx p hp2 => by
 have h1 : (x.1, x.2.2) ∈ asgT A1 := by rw [← ha]; exact List.mem_map.2 ⟨x, hx, rfl⟩
 obtain ⟨y, hy, e⟩ := List.mem_map.1 h1
 rw [Prod.mk.injEq] at e
 rw [← e.1]
 exact h y (hp.mem_iff.2 hy) p (by rw [e.2]; exact hp2)
end
end
section
open Go Go.Proofs Go.RowKit Go.Lib
open Classical
section
variable {P : Program} {w : World} {V : Value → Prop} {r it : Nat} {l left : List (Value × Value)} {T kT eT : TypeId}
theorem map_delete_iter (h : MapAt w V r l) (K : KeyT P kT V) (hT : P.underlying T = some (.map kT eT)) {k : Value} (hVk : V k) (ty t2 : TypeId) (hi : IterAt w it r l left) (hne : it ≠ r) (hin : ∃ u, (k, u) ∈ l) (hout : ∀ u, (k, u) ∉ left) :
 ∃ w', (Builtin.delete_ #[T, t2] ty #[.map (some r), k]).run P w = .ok (.tuple #[]) w' ∧ MapAt w' V r (delE l k) ∧ Kept [r] w w' ∧ w'.heap.size = w.heap.size ∧ IterAt w' it r (delE l k) left := by
 obtain ⟨w', hrun, hm, hk, hs⟩ := map_delete h K hT hVk ty t2
 refine ⟨w', hrun, hm, hk, hs, ?_⟩
 obtain ⟨es, c, hr, hl, hb, hc, hV, hn⟩ := h
 obtain ⟨es', c', si, se, la, hit, hr', hl', hb', i1, i2, i3, hleft⟩ := hi
 rw [hr] at hr'
 cases hr'
 have hes : ∀ e ∈ es.toList, V e.key := fun e he => hV (e.key, e.val) (by rw [← hl]; exact List.mem_map_of_mem (f := fun e : MapEntry => (e.key, e.val)) he)
 cases hf : findVal k es.toList 0 with
 | none =>
   obtain ⟨u, hu⟩ := hin
   rw [← hl] at hu
   exact absurd hu (findVal_none hf u)
 | some p =>
   obtain ⟨j, u⟩ := p
   obtain ⟨l1, e, l2, h1, h2, h3, h4, h5⟩ := findVal_some hf
   have hj : j = l1.length := by omega
   subst hj
   have hl2 : l = l1.map (fun e => (e.key, e.val)) ++ (k, u) :: l2.map (fun e => (e.key, e.val)) := by rw [← hl, h1]; simp [h3, h4]
   have hrun2 : (Builtin.delete_ #[T, t2] ty #[.map (some r), k]).run P w = .ok (.tuple #[]) { w with heap := w.heap.setIfInBounds r (.map (es.eraseIdxIfInBounds l1.length) c) } := by
    simp [Builtin.delete_, Sem.run_bind, run_underlying hT, Result.andThen_ok, run_getMap hr, K.check _ _ _ hVk, K.find _ _ _ hVk hes, hf, run_setMap hr]
   rw [hrun2] at hrun
   cases hrun
   have hmod : (es.eraseIdxIfInBounds l1.length).toList = l1 ++ l2 := by
    rw [Array.eraseIdxIfInBounds_eq, dif_pos (by rw [← Array.length_toList, h1]; simp), Array.toList_eraseIdx, h1]
    rw [List.eraseIdx_append_of_length_le (by simp)]; simp
   rw [hl2] at hn
   have hseen : se.contains e.born = true := by
    cases hcs : se.contains e.born
    · exfalso
      apply hout u
      rw [hleft]
      exact List.mem_map.2 ⟨e, List.mem_filter.2 ⟨by rw [h1]; simp, by rw [hcs]; rfl⟩, by rw [h3, h4]⟩
    · rfl
   refine ⟨_, c, si, se, la, (setBlk_kept w r _).heap hit (by simpa using hne), setBlk_at w _ hr, ?_, ?_, ?_, ?_, ?_, ?_⟩
   · rw [hl2, delE_hit hn, hmod]; simp
   · rw [hmod]; rw [h1] at hb'
     refine hb'.sublist ?_
     simp
   all_goals try
    (intro x hx
     rw [hmod] at hx
     rw [h1] at i1 i2 i3
     rcases Zap.1 hx with hx | hx
     · first | exact i1 x (by simp [hx]) | exact i2 x (by simp [hx]) | exact i3 x (by simp [hx])
     · first | exact i1 x (by simp [hx]) | exact i2 x (by simp [hx]) | exact i3 x (by simp [hx]))
   rw [hleft, hmod, h1]
   simp only [List.filter_append, List.filter_cons, hseen, Bool.not_true, Bool.false_eq_true, if_false]
end
section
variable {P : Program} {ops : Array Oper} {o : Oper} {a : Act} {w : World} {rest : List Oper} {Q : Exit → Act → World → Prop}
variable {V : Value → Prop} {r it : Nat} {l left : List (Value × Value)} {T kT eT : TypeId} {m x : Operand} {kv : Value}
variable {S : List Nat} {w0 : World} {M R : List Res}
theorem wl_delit (i : Nat) {T2 : TypeId} (hr : r ∈ (Rs.map r V l).foot) (hr' : r ∈ (Rs.map r V (delE l kv)).foot) (hgd : o.guard = none) (hop : o.op = .call { callee := .builtin .delete, args := #[m, x], argTypes := #[T, T2] }) (hm : a.eval m = .map (some r)) (hk : a.eval x = kv) (K0 : KeyT P kT V) (hT : P.underlying T = some (.map kT eT)) (hst : St S w0 w M R)
 (hi : M[i]? = some (Rs.it (Rs.map r V l) r l left it hr)) (hV : V kv) (hin : ∃ u, (kv, u) ∈ l) (hout : ∀ u, (kv, u) ∉ left)
 (hK : ∀ w', St S w0 w' (M.set i (Rs.it (Rs.map r V (delE l kv)) r (delE l kv) left it hr')) R → wpList P ops Q rest (a.put o.dst (.tuple #[])) w') : wpList P ops Q (o :: rest) a w := by
 obtain ⟨hmap, hiter, hni⟩ : MapAt w V r l ∧ IterAt w it r l left ∧ it ∉ (Rs.map r V l).foot := hst.m i hi
 have hne : it ≠ r := fun e => hni (by rw [e]; exact hr)
 obtain ⟨w', hrun, h1, h2, h3, h4⟩ := map_delete_iter (P := P) hmap K0 hT hV o.type T2 hiter hne hin hout
 refine wl_val (v := .tuple #[]) (w' := w') hgd ?_ (hK w' (hst.set i hi h2 (fun g hg _ => ?_) ⟨h1, h4, by simpa [Rs.map] using hni⟩ (fun g hg => .inl (by simpa [Rs.it, Rs.map] using hg))))
 · simp [execOp, hop, resolve, invoke, builtin, hm, hk, hrun, Result.andThen]
 · simp only [Zmc, Znn, or_false] at hg
   subst hg
   exact List.mem_append_left [it] hr
end
end
section
open Go Go.Proofs Go.RowKit Go.Lib
open Classical
theorem run_fadd (P : Program) (p q : Nat) (w : World) : ∃ c w', (Op.floatArith .add .f64 p q).run P w = .ok (.float .f64 c) w' ∧ Kept [] w w' := by
 unfold Op.floatArith
 cases h : FloatKind.f64.format.add p q with
 | some r => exact ⟨r, w, by simp [Sem.run_bind, h], Kept.refl _ _⟩
 | none =>
   by_cases hf : (Question.nanBits FloatKind.f64 p q).forced = true
   · exact ⟨_, w, by simp [Sem.run_bind, h, hf]; rfl, Kept.refl _ _⟩
   · exact ⟨_, w.drew, by simp [Sem.run_bind, h, hf]; rfl, (Kept.refl _ _).drew⟩
theorem run_f2i (P : Program) (b : Nat) (w : World) : ∃ n w', (Conv.floatToInt .f64 b .i64).run P w = .ok (.int .i64 n) w' ∧ Kept [] w w' := by
 have hany : ∃ n w', (do pure (Value.int .i64 (IntKind.i64.wrap (← choose (.floatToInt .f64 b .i64)))) : Sem Value).run P w = .ok (.int .i64 n) w' ∧ Kept [] w w' := by
  by_cases hf : (Question.floatToInt FloatKind.f64 b IntKind.i64).forced = true
  · exact ⟨_, w, by simp [Sem.run_bind, hf]; rfl, Kept.refl _ _⟩
  · exact ⟨_, w.drew, by simp [Sem.run_bind, hf]; rfl, (Kept.refl _ _).drew⟩
 unfold Conv.floatToInt
 cases h : (FloatKind.f64.decode b).toInt .zero with
 | some r =>
   simp only [h]
   split
   · exact ⟨r, w, rfl, Kept.refl _ _⟩
   · exact hany
 | none =>
   simp only [h]
   exact hany
section
variable {P : Program} {ops : Array Oper} {o : Oper} {a : Act} {w : World} {rest : List Oper} {Q : Exit → Act → World → Prop}
variable {x y : Operand} {T U : TypeId}
theorem wl_fadd {p q : Nat} (hgd : o.guard = none) (hop : o.op = .binOp .add T x y U) (hx : a.eval x = .float .f64 p) (hy : a.eval y = .float .f64 q)
 (hK : ∀ c w', Kept [] w w' → wpList P ops Q rest (a.put o.dst (.float .f64 c)) w') : wpList P ops Q (o :: rest) a w := by
 obtain ⟨c, w', hrun, hk⟩ := run_fadd P p q w
 refine wl_val (v := .float .f64 c) (w' := w') hgd ?_ (hK c w' hk)
 simp [execOp, hop, eqGuard, binOp, hx, hy, hrun, Result.andThen, Sem.run_bind]
theorem wl_f2i {b : Nat} (hgd : o.guard = none) (hop : o.op = .convert T U x) (hT : P.underlying T = some (.float .f64)) (hU : P.underlying U = some (.int .i64)) (hx : a.eval x = .float .f64 b)
 (hK : ∀ n w', Kept [] w w' → wpList P ops Q rest (a.put o.dst (.int .i64 n)) w') : wpList P ops Q (o :: rest) a w := by
 obtain ⟨c, w', hrun, hk⟩ := run_f2i P b w
 refine wl_val (v := .int .i64 c) (w' := w') hgd ?_ (hK c w' hk)
 simp [execOp, hop, convert, run_underlying hT, run_underlying hU, hx, hrun, Result.andThen, Sem.run_bind]
end
def IsFl (v : Value) : Prop := ∃ c, v = .float .f64 c
theorem abs_any (b : Nat) (w : World) : Calls Tryz.prog 136 #[.float .f64 b] w fun e w' => (∃ v, e = .returned v ∧ IsFl v) ∧ w' = w := by
 have h1 : ∀ b w, (callFunc 138 #[.float .f64 b]).run Tryz.prog w = .ok (.value (.int .u64 b)) w := fun b w => by kernel_rfl
 have h2 : ∀ n w, (callFunc 137 #[.int .u64 n]).run Tryz.prog w = .ok (.value (.float .f64 n.toNat)) w := fun n w => by kernel_rfl
 go_enter Tryz.func136, Tryz.ntmps136
 go_wp2
 go_ret
 exact ⟨⟨_, rfl, _, rfl⟩, rfl⟩
theorem mem_putE {l : List (Value × Value)} {k v : Value} {p : Value × Value} (h : p ∈ putE l k v) : p ∈ l ∨ p = (k, v) := by
 unfold putE at h
 split at h
 · obtain ⟨q, hq, e⟩ := List.mem_map.1 h
   split at e
   · exact .inr e.symm
   · subst e; exact .inl hq
 · rcases Zap.1 h with h | h
   · exact .inl h
   · simp only [Zmc, Znn, or_false] at h
     exact .inr h
def ScoL (L : List (Value × Value)) : Prop := ∀ p ∈ L, (∃ s, p.1 = .string s) ∧ ∃ n : Int, p.2 = .int .i64 n
theorem ScoL.put {L : List (Value × Value)} (h : ScoL L) (s : ByteArray) (n : Int) : ScoL (putE L (.string s) (.int .i64 n)) := fun p hp => by
 rcases mem_putE hp with e | e
 · exact h p e
 · subst e; exact ⟨⟨s, rfl⟩, n, rfl⟩
def Sco1 (w : World) (r r' it : Nat) (A : List Rw) (wr : World) : Prop :=
 ∃ (Dn Lf : List Rw) (L : List (Value × Value)), (Dn ++ Lf).Perm A ∧ ScoL L ∧ St [] w wr [Rs.map r' isStr L] [Rs.it (Rs.cur r A) r (rawR (rowsT A)) (rawR (rowsT Lf)) it (cur_foot r A)]
theorem sco_foot (r : Nat) (V : Value → Prop) (L : List (Value × Value)) : r ∈ (Rs.map r V L).foot := by simp [Rs.map]
abbrev itL (r : Nat) (L : List (Value × Value)) (it : Nat) : Res := Rs.it (Rs.map r isStr L) r L L it (sco_foot r isStr L)
theorem itL_foot (r : Nat) (L : List (Value × Value)) (it : Nat) : r ∈ (itL r L it).foot := List.mem_append_left _ (sco_foot r isStr L)
def Sco2 (w : World) (r' it : Nat) (R : List Res) (v : Value) (wr : World) : Prop :=
 ∃ (L : List (Value × Value)) (b : Nat), v = .float .f64 b ∧ ScoL L ∧ St [] w wr [itL r' L it] R
def Sco3 (w : World) (r' it it3 : Nat) (L : List (Value × Value)) (R : List Res) (v : Value) (wr : World) : Prop :=
 ∃ (lf : List (Value × Value)) (b : Nat), v = .float .f64 b ∧ (∀ p ∈ lf, p ∈ L) ∧ St [] w wr [Rs.it (itL r' L it) r' L lf it3 (itL_foot r' L it)] R
def ScoPost (w : World) (e : Ending) (w' : World) : Prop := ∃ n : Int, e = .returned (.int .i64 n) ∧ Kept [] w w'
theorem score_any (r : Nat) (A : List Rw) (w : World) (how : Ow w [Rs.cur r A]) : Calls Tryz.prog 254 #[.map (some r)] w (ScoPost w) := by
 have hst0 : St [] w w [] [Rs.cur r A] := St.start0 how
 have HLN := Zhd (raw_len (A := A))
 go_enter Tryz.func254, Tryz.ntmps254
 go_wp2_with (first
  | (refine wl_len rfl rfl rfl Tryz.underlying378 (hst0.r 0 rfl).map ?_)
  | (refine wl_mkmapN (V := isStr) rfl rfl rfl Tryz.underlying444 hst0 ?_
     intro r' w1 hst1 hr1)
  | (refine wl_rngR 0 rfl rfl rfl Tryz.underlying378 hst1 rfl (by simp [Rs.cur, Rs.rows]) (hst1.r 0 rfl).map ?_
     intro it w2 hst2 hit)
  | fail)
 simp only [Zs0] at hst2
 have hfit : w.heap.size ≤ it := by have := hst1.size; omega
 have HFIT := Zhd hfit; clear hfit hit hr1 hst1 hst0 how
 go_frame
 go_loopw [4] (fun _ wr => Sco1 w r r' it A wr) (fun _ wr => leftOf wr it r)
 case atStart => exact ⟨[], A, [], List.Perm.refl _, by simp [ScoL], hst2⟩
 case round =>
  obtain ⟨Dn, Lf, L, hperm, hL, hst⟩ := hrel
  have HL := Zhd (Zan hperm hL); clear hperm hL hst2
  by_cases hlf : rawR (rowsT Lf) = []
  · have hLf := rawR_nil hlf
    subst hLf
    have hit0 : IterAt wr it r (rawR (rowsT A)) [] := (hst.r 0 rfl).2.1
    have hstn := hst.noR
    have hltR := hst.kept.size
    go_wp2_with (first
     | (refine wl_nx0 rfl rfl rfl hit0 ?_)
     | (refine wl_rng 0 rfl rfl rfl Tryz.underlying444 hstn rfl (sco_foot r' isStr L) (hstn.m 0 rfl) ?_
        intro it2 w3 hst3 hit2
        simp only [Zs0] at hst3)
     | fail)
    have h20 : Sco2 w r' it2 [] (.float .f64 0) w3 := ⟨L, 0, rfl, HL.out.2, hst3⟩
    have H20 := Zhd h20; clear h20 hst3 hstn hst hit0 hit2 hltR
    try go_frame
    go_loopw [6] (fun v wr => Sco2 w r' it2 [] v wr) (fun _ wr => leftOf wr it2 r')
    case atStart => exact H20.out
    case round =>
     obtain ⟨L2, b, rfl, hL2, hst⟩ := hrel
     clear H20
     by_cases hlf2 : L2 = []
     · subst hlf2
       have hit0 : IterAt wr it2 r' [] [] := (hst.m 0 rfl).2.1
       have hkw := hst.kept
       clear hst
       go_wp2_with (first
        | (refine wl_nx0 rfl rfl rfl hit0 ?_)
        | (refine wl_f2i rfl rfl Tryz.underlying161 Tryz.underlying3 rfl ?_
           intro n w4 hk4)
        | fail)
       go_ret
       exact ⟨n, rfl, hkw.trans hk4 (by simp) (by simp)⟩
     · obtain ⟨wB, rfl⟩ : ∃ wB, wB = wr := ⟨_, rfl⟩
       have hnd := (show MapAt wB isStr r' L2 from (hst.m 0 rfl).1).nodup
       go_wp2_with (first
        | (refine wl_nx1 0 (sco_foot r' isStr L2) rfl rfl rfl hst rfl hlf2 ?_
           intro k v l1 l2 w3 hsp hst2 hent
           simp only [Zs0] at hst2
           subst hsp
           obtain ⟨⟨s, hs⟩, n, hn⟩ := hL2 (k, v) (by simp)
           simp only at hs hn
           subst hs hn
           have hdel : delE (l1 ++ (.string s, .int .i64 n) :: l2) (.string s) = l1 ++ l2 := delE_hit hnd
           have hout : ∀ u, (Value.string s, u) ∉ l1 ++ l2 := fun u hu => by
            have h1 := hnd
            rw [List.map_append, List.map_cons, List.nodup_append] at h1
            obtain ⟨h2, h3, h4⟩ := h1
            rw [List.nodup_cons] at h3
            rcases Zap.1 hu with h | h
            · exact h4 (.string s) (List.mem_map.2 ⟨_, h, rfl⟩) (.string s) (by simp) rfl
            · exact h3.1 (List.mem_map.2 ⟨_, h, rfl⟩))
        | (refine wl_entry rfl rfl rfl hent ?_)
        | (refine wl_delit (kv := .string s) 0 (sco_foot r' isStr _) (sco_foot r' isStr _) rfl rfl rfl rfl (keyT_str Tryz.underlying9) Tryz.underlying444 hst2 rfl ⟨_, rfl⟩ ⟨.int .i64 n, by simp⟩ hout ?_
           intro w4 hst3
           simp only [Zs0] at hst3)
        | (refine wl_rng 0 rfl rfl rfl Tryz.underlying444 hst3 rfl (List.mem_append_left _ (sco_foot r' isStr _)) (show MapAt w4 isStr r' (delE (l1 ++ (.string s, .int .i64 n) :: l2) (.string s)) from (hst3.m 0 rfl).1) ?_
           intro it3 w5 hst4 hit3
           simp only [Zs0] at hst4)
        | fail)
       have hst5 : St [] w w5 [Rs.it (itL r' (l1 ++ l2) it2) r' (l1 ++ l2) (l1 ++ l2) it3 (itL_foot r' (l1 ++ l2) it2)] [] := by
        have h1 := hst4
        simp only [hdel] at h1
        exact h1
       have hlo : leftOf wB it2 r' = (l1 ++ l2).length + 1 := by
        have h2 : IterAt wB it2 r' _ _ := (hst.m 0 rfl).2.1
        rw [h2.leftOf]; simp; omega
       have hL3 : ScoL (l1 ++ l2) := fun p hp => hL2 p (by
        rcases Zap.1 hp with h | h
        · simp [h]
        · simp [h])
       have h30 : Sco3 w r' it2 it3 (l1 ++ l2) [] (.float .f64 b) w5 := ⟨l1 ++ l2, b, rfl, fun _ h => h, hst5⟩
       have H30 := Zhd (Zan h30 (Zan hL3 hlo)); clear h30 hst5 hst4 hst3 hst2 hst hL3 hlo hdel hout hnd hent hL2
       generalize l1 ++ l2 = L3 at *
       try go_frame
       go_loopw [6] (fun v wr => Sco3 w r' it2 it3 L3 [] v wr) (fun _ wr => leftOf wr it3 r')
       case atStart => exact H30.out.1
       case round =>
        obtain ⟨lf, b3, rfl, hlf3, hst⟩ := hrel
        by_cases hl0 : lf = []
        · subst hl0
          have hit0 : IterAt wr it3 r' L3 [] := (hst.m 0 rfl).2.1
          have hst6 := hst.weak 0 rfl (X' := itL r' L3 it2) (fun h => h.1) (fun g hg => List.mem_append_left _ hg)
          simp only [Zs0] at hst6
          have hlo2 : leftOf wr it2 r' = L3.length := (show IterAt wr it2 r' L3 L3 from (hst6.m 0 rfl).2.1).leftOf
          clear hst
          go_wp2_with (first
           | (refine wl_nx0 rfl rfl rfl hit0 ?_)
           | fail)
          exact ⟨⟨L3, b3, rfl, H30.out.2.1, hst6⟩, by rw [hlo2, H30.out.2.2]; omega⟩
        · obtain ⟨wC, rfl⟩ : ∃ wC, wC = wr := ⟨_, rfl⟩
          go_wp2_with (first
           | (refine wl_nx1 0 (itL_foot r' L3 it2) rfl rfl rfl hst rfl hl0 ?_
              intro k v l3 l4 w6 hsp hst6 hent
              simp only [Zs0] at hst6
              subst hsp
              obtain ⟨_, n3, hn3⟩ := H30.out.2.1 (k, v) (hlf3 _ (by simp))
              simp only at hn3
              subst hn3)
           | (refine wl_entry rfl rfl rfl hent ?_)
           | (go_at_call 136
              refine (abs_any _ _).mono ?_
              rintro e w7 ⟨⟨v7, rfl, c7, rfl⟩, rfl⟩)
           | (refine wl_fadd rfl rfl rfl rfl ?_
              intro c8 w8 hk8)
           | fail)
          have hst8 := hst6.kept0 hk8
          have h1 : IterAt w8 it3 r' L3 (l3 ++ l4) := (hst8.m 0 rfl).2.1
          have h2 : IterAt wC it3 r' L3 _ := (hst.m 0 rfl).2.1
          refine ⟨⟨l3 ++ l4, _, rfl, fun p hp => hlf3 p (by
           rcases Zap.1 hp with h | h
           · simp [h]
           · simp [h]), hst8⟩, ?_⟩
          rw [h1.leftOf, h2.leftOf]
          simp
  · obtain ⟨wB, rfl⟩ : ∃ wB, wB = wr := ⟨_, rfl⟩
    go_wp2_with (first
     | (refine wl_nx1R 0 (cur_foot r A) rfl rfl rfl hst rfl hlf HFIT.out ?_
        intro k v l1 l2 w2 hsp hst2 hent
        simp only [Zs0] at hst2
        obtain ⟨L1, x, L2, rfl, rfl, rfl, rfl, rfl⟩ := rawR_split hsp
        have hxA : x ∈ A := HL.out.1.mem_iff.1 (by simp)
        obtain ⟨hrow, xa, xc, hxv⟩ := cur_row (hst2.r 0 rfl).1 hxA
        obtain ⟨m, xv, ps⟩ := x
        simp only at hxv hrow
        subst hxv
        have hpst := perm_step HL.out.1
        have HSP := Zhd (Zan hsp hpst); clear hsp hpst hrow)
     | (refine wl_entry rfl rfl rfl hent ?_)
     | (refine wl_upd (kv := .string m) (vv := .int .i64 ps.length) 0 rfl rfl rfl rfl rfl (keyT_str Tryz.underlying9) Tryz.underlying444 hst2 rfl ⟨_, rfl⟩ ?_
        intro w3 hst3
        simp only [Zs0] at hst3)
     | fail)
    have h1 : IterAt w3 it r (rawR (rowsT A)) (rawR (rowsT L1) ++ rawR (rowsT L2)) := (hst3.r 0 rfl).2.1
    have h2 : IterAt wB it r (rawR (rowsT A)) _ := (hst.r 0 rfl).2.1
    refine ⟨⟨Dn ++ [(m, .slice xa ps.length xc, ps)], L1 ++ L2, _, HSP.out.2, HL.out.2.put m ps.length, ?_⟩, ?_⟩
    · have e : rawR (rowsT L1) ++ rawR (rowsT L2) = rawR (rowsT (L1 ++ L2)) := by rw [rowsT_append, rawR_append]
      have h3 := hst3
      simp only [e] at h3
      exact h3
    · rw [h1.leftOf, h2.leftOf, HSP.out.1]
      simp
end
section
open Go Go.Proofs Go.RowKit Go.Lib
open Classical
section
variable {P : Program} {ops : Array Oper} {o : Oper} {a : Act} {w : World} {rest : List Oper} {Q : Exit → Act → World → Prop}
variable {V : Value → Prop} {r : Nat} {l : List (Value × Value)} {T kT eT : TypeId} {m : Operand}
variable {S : List Nat} {w0 : World} {M R : List Res}
theorem map_clear (h : MapAt w V r l) (hT : P.underlying T = some (.map kT eT)) (ty : TypeId) :
 ∃ w', (Builtin.clear_ #[T] ty #[.map (some r)]).run P w = .ok (.tuple #[]) w' ∧ MapAt w' V r [] ∧ Kept [r] w w' ∧ w'.heap.size = w.heap.size := by
 obtain ⟨es, c, hr, _⟩ := h
 refine ⟨{ w with heap := w.heap.setIfInBounds r (.map #[] c) }, ?_, ⟨_, _, setBlk_at w _ hr, by simp [MapObj]⟩, setBlk_kept _ _ _, by simp⟩
 simp [Builtin.clear_, Sem.run_bind, run_underlying hT, Result.andThen_ok, run_getMap hr, run_setMap hr]
theorem wl_clear (i : Nat) (hgd : o.guard = none) (hop : o.op = .call { callee := .builtin .clear, args := #[m], argTypes := #[T] }) (hm : a.eval m = .map (some r)) (hT : P.underlying T = some (.map kT eT)) (hst : St S w0 w M R) (hi : M[i]? = some (Rs.map r V l))
 (hK : ∀ w', St S w0 w' (M.set i (Rs.map r V [])) R → wpList P ops Q rest (a.put o.dst (.tuple #[])) w') : wpList P ops Q (o :: rest) a w := by
 obtain ⟨w', hrun, h1, h2, h3⟩ := map_clear (P := P) (hst.m i hi) hT o.type
 refine wl_val (v := .tuple #[]) (w' := w') hgd ?_ (hK w' (hst.set i hi h2 (by simp [Rs.map]) h1 (fun g hg => .inl hg)))
 simp [execOp, hop, resolve, invoke, builtin, hm, hrun, Result.andThen]
end
def CpcInv (S : List Nat) (w : World) (r r2 it : Nat) (l2 : List (Value × Value)) (wr : World) : Prop :=
 ∃ l lf : List (Value × Value), (∀ p ∈ lf, p ∈ l2) ∧ St S w wr [Rs.map r isTp l] [Rs.it (Rs.map r2 isTp l2) r2 l2 lf it (by simp [Rs.map])]
def CpcPost (S : List Nat) (w : World) (r : Nat) (e : Ending) (w' : World) : Prop := ∃ l, e = .returned (.tuple #[]) ∧ St S w w' [Rs.map r isTp l] []
theorem copy_cpc (r r2 : Nat) (l l2 : List (Value × Value)) (w : World) (how : Ow w ([Rs.map r isTp l] ++ [Rs.map r2 isTp l2])) :
 Calls Tryz.prog 255 #[.map (some r), .map (some r2)] w (CpcPost (foots [Rs.map r isTp l]) w r) := by
 have hst0 : St (foots [Rs.map r isTp l]) w w [Rs.map r isTp l] [Rs.map r2 isTp l2] := St.start how
 generalize foots [Rs.map r isTp l] = S at *
 have hkeys := (show MapAt w isTp r2 l2 from hst0.r 0 rfl).keys
 have HK := Zhd hkeys; clear hkeys how
 go_enter Tryz.func255, Tryz.ntmps255
 go_wp2_with (first
  | (refine wl_rngR 0 rfl rfl rfl Tryz.underlying387 hst0 rfl (by simp [Rs.map]) (hst0.r 0 rfl) ?_
     intro it w2 hst2 hit)
  | fail)
 simp only [Zs0] at hst2
 have HFIT := Zhd hit; clear hit hst0
 have h0 : CpcInv S w r r2 it l2 w2 := ⟨l, l2, fun _ h => h, hst2⟩
 have H0 := Zhd h0; clear h0 hst2
 try go_frame
 go_loopw [5] (fun _ wr => CpcInv S w r r2 it l2 wr) (fun _ wr => leftOf wr it r2)
 case atStart => exact H0.out
 case round =>
  obtain ⟨l', lf, hlf0, hst⟩ := hrel
  clear H0
  by_cases hlf : lf = []
  · subst hlf
    have hit0 := (hst.r 0 rfl).2.1
    go_wp2_with (first | (refine wl_nx0 rfl rfl rfl hit0 ?_) | fail)
    go_end0
    exact ⟨l', rfl, hst.noR⟩
  · obtain ⟨wB, rfl⟩ : ∃ wB, wB = wr := ⟨_, rfl⟩
    go_wp2_with (first
     | (refine wl_nx1R 0 (by simp [Rs.map]) rfl rfl rfl hst rfl hlf HFIT.out ?_
        intro k v l1 l2' w2 hsp hst2 hent
        simp only [Zs0] at hst2
        have hkt := HK.out (k, v) (hlf0 _ (by rw [hsp]; simp))
        obtain ⟨s, n, rfl⟩ : ∃ s n, k = .agg #[.string s, .int .i32 n] := hkt)
     | (refine wl_entry rfl rfl rfl hent ?_)
     | (refine wl_upd (kv := .agg #[.string s, .int .i32 n]) (vv := v) 0 rfl rfl rfl rfl rfl keyT_tp Tryz.underlying387 (hst2.alloc _) rfl ⟨_, _, rfl⟩ ?_
        intro w3 hst3
        simp only [Zs0] at hst3)
     | fail)
    have h1 := (show IterAt w3 it r2 l2 (l1 ++ l2') from (hst3.r 0 rfl).2.1).leftOf
    have h2 := (show IterAt wB it r2 l2 lf from (hst.r 0 rfl).2.1).leftOf
    go_frame
    go_roundw
    case rel =>
     refine ⟨_, l1 ++ l2', fun p hp => hlf0 p ?_, hst3⟩
     rw [hsp]
     rcases Zap.1 hp with h | h <;> simp [h]
    rw [h1, h2, hsp]; simp
end
end Go.Proofs.YticcnlpfmekagaaGreat
