/- Part 7 of the proof of the row: StOps, StOps2. -/
import Derived.Test.YticcnlpfmekagaaGreatRj00
import Derived.Test.YticcnlpfmekagaaGreatRj06
import Derived.Laws.MakeOwn
set_option linter.unusedVariables false
set_option linter.unusedSimpArgs false
set_option maxRecDepth 100000
set_option maxHeartbeats 8000000
namespace Go.Proofs.YticcnlpfmekagaaGreat
section
open Go Go.RowKit
open Classical
theorem own_made1 {w : World} (E sz n : Nat) (cs : List Value) (hl : cs.length = n * sz) (hn : n ≤ maxLen) :
 (w.alloc (.cells cs.toArray E)).ownsRow 0 E sz (.slice (some ⟨w.heap.size, 0, none⟩) n n) n cs :=
 ⟨hl, .inr ⟨w.heap.size, n, cs.toArray, rfl, Nat.zero_le _, heap_alloc_new w _, Nat.le_refl _, hn, by simpa using hl, by rw [List.take_of_length_le]; rw [hl]; exact Nat.le_refl _⟩⟩
section
variable {P : Program} {ops : Array Oper} {o : Oper} {a : Act} {w : World} {rest : List Oper} {Q : Exit → Act → World → Prop}
variable {V : Value → Prop} {r : Nat} {l : List (Value × Value)} {T kT eT : TypeId} {m x y : Operand} {kv vv : Value}
variable {S : List Nat} {w0 : World} {M R : List Res}
theorem wl_lk (hgd : o.guard = none) (hop : o.op = .lookup T m x false) (hm : a.eval m = .map (some r)) (hk : a.eval x = kv) (K0 : KeyT P kT V) (hT : P.underlying T = some (.map kT eT)) (h : MapAt w V r l) (hin : (kv, vv) ∈ l)
 (hK : wpList P ops Q rest (a.put o.dst vv) w) : wpList P ops Q (o :: rest) a w := by
 refine wl_val (v := vv) (w' := w) hgd ?_ hK
 have := map_lookup_hit h K0 hT hin false
 simp only [execOp, hop, hm, hk, Sem.run_bind, this, Result.andThen_ok]; rfl
theorem wl_lk2 (hgd : o.guard = none) (hop : o.op = .lookup T m x true) (hm : a.eval m = .map (some r)) (hk : a.eval x = kv) (K0 : KeyT P kT V) (hT : P.underlying T = some (.map kT eT)) (h : MapAt w V r l) (hin : (kv, vv) ∈ l)
 (hK : wpList P ops Q rest (a.put o.dst (.tuple #[vv, .bool true])) w) : wpList P ops Q (o :: rest) a w := by
 refine wl_val (v := .tuple #[vv, .bool true]) (w' := w) hgd ?_ hK
 have := map_lookup_hit h K0 hT hin true
 simp only [execOp, hop, hm, hk, Sem.run_bind, this, Result.andThen_ok]; rfl
theorem wl_lkN (hgd : o.guard = none) (hop : o.op = .lookup T m x false) (hm : a.eval m = .map (some r)) (hk : a.eval x = kv) (K0 : KeyT P kT V) (hT : P.underlying T = some (.map kT eT)) (h : MapAt w V r l) (hV : V kv) (hno : ∀ v, (kv, v) ∉ l) (hz : (zeroValue eT).run P w = .ok vv w)
 (hK : wpList P ops Q rest (a.put o.dst vv) w) : wpList P ops Q (o :: rest) a w := by
 refine wl_val (v := vv) (w' := w) hgd ?_ hK
 have := map_lookup_miss h K0 hT hV hno hz false
 simp only [execOp, hop, hm, hk, Sem.run_bind, this, Result.andThen_ok]; rfl
theorem wl_lkN2 (hgd : o.guard = none) (hop : o.op = .lookup T m x true) (hm : a.eval m = .map (some r)) (hk : a.eval x = kv) (K0 : KeyT P kT V) (hT : P.underlying T = some (.map kT eT)) (h : MapAt w V r l) (hV : V kv) (hno : ∀ v, (kv, v) ∉ l) (hz : (zeroValue eT).run P w = .ok vv w)
 (hK : wpList P ops Q rest (a.put o.dst (.tuple #[vv, .bool false])) w) : wpList P ops Q (o :: rest) a w := by
 refine wl_val (v := .tuple #[vv, .bool false]) (w' := w) hgd ?_ hK
 have := map_lookup_miss h K0 hT hV hno hz true
 simp only [execOp, hop, hm, hk, Sem.run_bind, this, Result.andThen_ok]; rfl
theorem wl_len (hgd : o.guard = none) (hop : o.op = .call { callee := .builtin .len, args := #[m], argTypes := #[T] }) (hm : a.eval m = .map (some r)) (hT : P.underlying T = some (.map kT eT)) (h : MapAt w V r l)
 (hK : wpList P ops Q rest (a.put o.dst (.int .i64 l.length)) w) : wpList P ops Q (o :: rest) a w := by
 refine wl_val (v := .int .i64 l.length) (w' := w) hgd ?_ hK
 have := map_len (P := P) h hT o.type
 simp [execOp, hop, resolve, invoke, builtin, hm, this, Result.andThen]
theorem wl_mkmap (hgd : o.guard = none) (hop : o.op = .makeMap T none) (hst : St S w0 w M R)
 (hK : ∀ r w', St S w0 w' (Rs.map r V [] :: M) R → w.heap.size ≤ r → wpList P ops Q rest (a.put o.dst (.map (some r))) w') : wpList P ops Q (o :: rest) a w := by
 refine wl_val (v := .map (some w.heap.size)) (w' := w.alloc (.map #[] 0)) hgd ?_ (hK _ _ (hst.push ((Kept.refl _ _).alloc _) (MapAt.new w V) (by simp [Rs.map])) (Nat.le_refl _))
 simp only [execOp, hop, Option.map_none, Sem.run_bind, run_makeMap, Result.andThen_ok]; rfl
theorem wl_mkmapN {n : Int} {q : IntKind} (hgd : o.guard = none) (hop : o.op = .makeMap T (some x)) (hx : a.eval x = .int q n) (hT : P.underlying T = some (.map kT eT)) (hst : St S w0 w M R)
 (hK : ∀ r w', St S w0 w' (Rs.map r V [] :: M) R → w.heap.size ≤ r → wpList P ops Q rest (a.put o.dst (.map (some r))) w') : wpList P ops Q (o :: rest) a w := by
 refine wl_val (v := .map (some w.heap.size)) (w' := w.alloc (.map #[] 0)) hgd ?_ (hK _ _ (hst.push ((Kept.refl _ _).alloc _) (MapAt.new w V) (by simp [Rs.map])) (Nat.le_refl _))
 have : (Instr.makeMap T (some (.int q n))).run P w = .ok (.map (some w.heap.size)) (w.alloc (.map #[] 0)) := by
  simp [Instr.makeMap, Sem.run_bind, run_underlying hT, asInt, asIntOf]
 simp only [execOp, hop, Option.map_some, hx, Sem.run_bind, this, Result.andThen_ok]; rfl
theorem wl_upd (i : Nat) (hgd : o.guard = none) (hop : o.op = .mapUpdate T m x y) (hm : a.eval m = .map (some r)) (hk : a.eval x = kv) (hv : a.eval y = vv) (K0 : KeyT P kT V) (hT : P.underlying T = some (.map kT eT)) (hst : St S w0 w M R) (hi : M[i]? = some (Rs.map r V l)) (hV : V kv)
 (hK : ∀ w', St S w0 w' (M.set i (Rs.map r V (putE l kv vv))) R → wpList P ops Q rest (a.put o.dst undef) w') : wpList P ops Q (o :: rest) a w :=
 wl_update hgd hop hm hk hv K0 hT (hst.m i hi) hV fun w' h1 h2 h3 => hK w' (hst.set i hi h2 (by simp [Rs.map]) h1 (fun g hg => .inl hg))
theorem wl_del (i : Nat) {T2 : TypeId} (hgd : o.guard = none) (hop : o.op = .call { callee := .builtin .delete, args := #[m, x], argTypes := #[T, T2] }) (hm : a.eval m = .map (some r)) (hk : a.eval x = kv) (K0 : KeyT P kT V) (hT : P.underlying T = some (.map kT eT)) (hst : St S w0 w M R) (hi : M[i]? = some (Rs.map r V l)) (hV : V kv)
 (hK : ∀ w', St S w0 w' (M.set i (Rs.map r V (delE l kv))) R → wpList P ops Q rest (a.put o.dst (.tuple #[])) w') : wpList P ops Q (o :: rest) a w := by
 obtain ⟨w', hrun, h1, h2, h3⟩ := map_delete (P := P) (hst.m i hi) K0 hT hV o.type T2
 refine wl_val (v := .tuple #[]) (w' := w') hgd ?_ (hK w' (hst.set i hi h2 (by simp [Rs.map]) h1 (fun g hg => .inl hg)))
 simp [execOp, hop, resolve, invoke, builtin, hm, hk, hrun, Result.andThen]
theorem wl_rng (i : Nat) {X : Res} (hgd : o.guard = none) (hop : o.op = .range T m) (hm : a.eval m = .map (some r)) (hT : P.underlying T = some (.map kT eT)) (hst : St S w0 w M R) (hi : M[i]? = some X) (hr : r ∈ X.foot) (h : MapAt w V r l)
 (hK : ∀ it w', St S w0 w' (M.set i (Rs.it X r l l it hr)) R → w.heap.size ≤ it → wpList P ops Q rest (a.put o.dst (.pointer (some ⟨it, 0, none⟩))) w') : wpList P ops Q (o :: rest) a w :=
 wl_range hgd hop hm hT h fun w' h1 h2 h3 h4 => hK _ w' (hst.set i hi h3 (by simp) ⟨X.stable _ _ _ h3 (by simp) (hst.m i hi), h1, fun hx => absurd (hst.lt i hi _ hx) (by omega)⟩ (fun g hg => by
  rcases Zap.1 hg with hg | hg
  · exact .inl hg
  · right; simp at hg; omega)) (Nat.le_refl _)
theorem wl_rngR (i : Nat) {X : Res} (hgd : o.guard = none) (hop : o.op = .range T m) (hm : a.eval m = .map (some r)) (hT : P.underlying T = some (.map kT eT)) (hst : St S w0 w M R) (hi : R[i]? = some X) (hr : r ∈ X.foot) (h : MapAt w V r l)
 (hK : ∀ it w', St S w0 w' M (R.set i (Rs.it X r l l it hr)) → w.heap.size ≤ it → wpList P ops Q rest (a.put o.dst (.pointer (some ⟨it, 0, none⟩))) w') : wpList P ops Q (o :: rest) a w :=
 wl_range hgd hop hm hT h fun w' h1 h2 h3 h4 => hK _ w' (hst.setR i hi h3 (by simp) ⟨X.stable _ _ _ h3 (by simp) (hst.r i hi), h1, fun hx => absurd (hst.ltR i hi _ hx) (by omega)⟩ (fun g hg => by
  rcases Zap.1 hg with hg | hg
  · exact .inl hg
  · right; simp at hg; omega)) (Nat.le_refl _)
variable {it : Nat} {left : List (Value × Value)}
theorem wl_nx0 (hgd : o.guard = none) (hop : o.op = .next m false) (hm : a.eval m = .pointer (some ⟨it, 0, none⟩)) (h : IterAt w it r l [])
 (hK : wpList P ops Q rest (a.put o.dst (.tuple #[.bool false])) w) : wpList P ops Q (o :: rest) a w := by
 have hne : it ≠ r := by
  obtain ⟨es, c, si, se, la, hi, hr, _⟩ := h
  rintro rfl
  rw [hi] at hr; cases hr
 exact wl_next0 hgd hop hm h hne hK
theorem iter_ne {w : World} (h : IterAt w it r l left) : it ≠ r := by
 obtain ⟨es, c, si, se, la, hi, hr, _⟩ := h
 rintro rfl
 rw [hi] at hr; cases hr
theorem wl_nx1 (i : Nat) {X : Res} (hr : r ∈ X.foot) (hgd : o.guard = none) (hop : o.op = .next m false) (hm : a.eval m = .pointer (some ⟨it, 0, none⟩)) (hst : St S w0 w M R) (hi : M[i]? = some (Rs.it X r l left it hr)) (hl : left ≠ [])
 (hK : ∀ k v l1 l2 w', left = l1 ++ (k, v) :: l2 → St S w0 w' (M.set i (Rs.it X r l (l1 ++ l2) it hr)) R → EntryAt w' it r k v → wpList P ops Q rest (a.put o.dst (.tuple #[.bool true, k, v])) w') : wpList P ops Q (o :: rest) a w := by
 obtain ⟨h1, h2, h3⟩ := hst.m i hi
 exact wl_next1 hgd hop hm h2 (iter_ne h2) hl fun k v l1 l2 w' e hit hen hk hs => hK k v l1 l2 w' e
  (hst.set i hi hk (fun g hg _ => by simp [Rs.it]; simp at hg; exact .inr hg) ⟨X.stable _ _ _ hk (fun g hg hx => by simp at hx; subst hx; exact h3 hg) h1, hit, h3⟩ (fun g hg => .inl hg)) hen
theorem wl_nx1R (i : Nat) {X : Res} (hr : r ∈ X.foot) (hgd : o.guard = none) (hop : o.op = .next m false) (hm : a.eval m = .pointer (some ⟨it, 0, none⟩)) (hst : St S w0 w M R) (hi : R[i]? = some (Rs.it X r l left it hr)) (hl : left ≠ []) (hfr : w0.heap.size ≤ it)
 (hK : ∀ k v l1 l2 w', left = l1 ++ (k, v) :: l2 → St S w0 w' M (R.set i (Rs.it X r l (l1 ++ l2) it hr)) → EntryAt w' it r k v → wpList P ops Q rest (a.put o.dst (.tuple #[.bool true, k, v])) w') : wpList P ops Q (o :: rest) a w := by
 obtain ⟨h1, h2, h3⟩ := hst.r i hi
 exact wl_next1 hgd hop hm h2 (iter_ne h2) hl fun k v l1 l2 w' e hit hen hk hs => hK k v l1 l2 w' e
  (hst.setR i hi hk (fun g hg _ => by simp at hg; subst hg; exact ⟨by simp [Rs.it], .inr hfr⟩) ⟨X.stable _ _ _ hk (fun g hg hx => by simp at hx; subst hx; exact h3 hg) h1, hit, h3⟩ (fun g hg => .inl hg)) hen
variable {E sz bytes n k : Nat} {z v xv : Value} {xs ys : List Value} {s : Operand} {tx : TypeId}
theorem wl_push (i : Nat) (hgd : o.guard = none) (ho : o.op = .call { callee := .builtin .append, args := #[s, x], argTypes := #[T, tx] }) (el : Elem P T E sz bytes z) (hs : a.eval s = v) (hx : a.eval x = xv)
 (hst : St S w0 w M R) (hi : M[i]? = some (Rs.row E sz v n xs)) (hsrc : Src P sz tx xv k ys w) (hb : (4 * (n + k) + 1024) * bytes ≤ 281474976710656) (hm : n + k ≤ 281474976710656)
 (h : ∀ v' w', St S w0 w' (M.set i (Rs.row E sz v' (n + k) (xs ++ ys))) R → wpList P ops Q rest (a.put o.dst v') w') : wpList P ops Q (o :: rest) a w :=
 wl_app hgd ho el hs hx (hst.m i hi) hsrc hb hm fun v' w' h1 h2 h3 => h v' w' (hst.set i hi h2 (fun g hg _ => hg) h1 (fun g hg => by
  rcases h3 with ⟨e1, e2⟩ | ⟨e1, e2⟩
  · left; simpa [Rs.row, e1] using hg
  · right; simp [Rs.row, e1] at hg; omega))
theorem wl_rowapp (i : Nat) {o2 : Oper} {A B : List MRow} {kx : Operand} (hgd : o.guard = none) (hgd2 : o2.guard = none) (ho : o.op = .call { callee := .builtin .append, args := #[s, x], argTypes := #[T, tx] }) (ho2 : o2.op = .mapUpdate r m kx y)
 (el : Elem P T E sz bytes z) (hs : a.eval s = v) (hx : a.eval x = xv) {rb : Nat} (hm : ∀ v', (a.put o.dst v').eval m = .map (some rb)) (hkx : ∀ v', (a.put o.dst v').eval kx = kv) (hy : ∀ v', (a.put o.dst v').eval y = v')
 (K0 : KeyT P kT V) (hT : P.underlying r = some (.map kT eT)) (hst : St S w0 w M R) (hi : M[i]? = some (Rs.rows V rb E sz (A ++ (kv, v, xs) :: B))) (hsrc : Src P sz tx xv k ys w) (hb : ∀ n, xs.length = n * sz → (4 * (n + k) + 1024) * bytes ≤ 281474976710656 ∧ n + k ≤ 281474976710656)
 (h : ∀ v' w', St S w0 w' (M.set i (Rs.rows V rb E sz (A ++ (kv, v', xs ++ ys) :: B))) R → wpList P ops Q rest ((a.put o.dst v').put o2.dst undef) w') : wpList P ops Q (o :: o2 :: rest) a w := by
 have hrows := hst.m i hi
 obtain ⟨n, hn⟩ := hrows.each (kv, v, xs) (by simp)
 obtain ⟨hb1, hb2⟩ := hb n hn.1
 have hpos := el.pos
 refine wl_app hgd ho el hs hx hn hsrc hb1 hb2 fun v' w1 h1 h2 h3 => ?_
 have hV : V kv := hrows.map.keys (kv, v) (by rw [rawR_append, rawR_cons]; simp)
 have hd := hrows.dis
 have hrv : rb ∉ v.ownBlock.toList := by
  intro hx
  rw [footR_append, footR_cons, List.nodup_cons] at hd
  apply hd.1
  simp only [Zap]; grind
 have hm1 : MapAt w1 V rb (rawR (A ++ (kv, v, xs) :: B)) := hrows.map.kept h2 hrv
 refine wl_update hgd2 ho2 (hm _) (hkx _) (hy _) K0 hT hm1 hV fun w2 h4 h5 h6 => ?_
 have hv' : ∀ g, v'.ownBlock = some g → v.ownBlock = some g ∨ w.heap.size ≤ g := by
  intro g hg
  rcases h3 with ⟨e1, e2⟩ | ⟨e1, e2⟩
  · left; rw [← e1]; exact hg
  · right; rw [e1] at hg; simp only [Option.some.injEq] at hg; omega
 obtain ⟨hput, hfoot⟩ := hrows.put h2 h1 hv' h5 h4
 have hsz1 := h2.size
 have hk12 : Kept (rb :: footR (A ++ (kv, v, xs) :: B)) w w2 := h2.trans h5 (fun g hg => by
  rw [footR_append, footR_cons]; simp only [Zmc, Zap]; exact .inr (.inr (.inl hg))) (fun g hg _ => by simp at hg; simp [hg])
 refine h v' w2 (hst.set i hi hk12 (fun g hg _ => hg) hput (fun g hg => ?_))
 rcases hfoot g hg with h7 | h7
 · exact .inl h7
 · right; omega
theorem wl_rownew (i : Nat) {L : List MRow} {kx : Operand} {rb : Nat} (hgd : o.guard = none) (ho : o.op = .mapUpdate T m kx y) (hm : a.eval m = .map (some rb)) (hkx : a.eval kx = kv) (hy : a.eval y = v)
 (K0 : KeyT P kT V) (hT : P.underlying T = some (.map kT eT)) (hV : V kv) (hst : St S w0 w (Rs.row E sz v n xs :: M) R) (hi : M[i]? = some (Rs.rows V rb E sz L)) (hno : kv ∉ L.map (·.1))
 (h : ∀ w', St S w0 w' (M.set i (Rs.rows V rb E sz (L ++ [(kv, v, xs)]))) R → wpList P ops Q rest (a.put o.dst undef) w') : wpList P ops Q (o :: rest) a w := by
 have hrow : w.ownsRow 0 E sz v n xs := hst.m 0 rfl
 have hrows : RowsAt w V rb E sz L := hst.m (i + 1) (by simpa using hi)
 obtain ⟨A, B, hM, hl⟩ := split_at hi
 have hdis : ∀ g ∈ v.ownBlock.toList, g ∉ rb :: footR L := by
  intro g hg hx
  have hd := hst.ow.dis
  rw [List.cons_append, List.pairwise_cons] at hd
  exact hd.1 (Rs.rows V rb E sz L) (by simp [List.mem_of_getElem? hi]) g hg hx
 refine wl_update hgd ho hm hkx hy K0 hT hrows.map hV fun w2 h4 h5 h6 => ?_
 have hmiss : ∀ u, (kv, u) ∉ rawR L := by
  intro u hu
  apply hno
  obtain ⟨x, hx, e⟩ := List.mem_map.1 hu
  exact List.mem_map.2 ⟨x, hx, (Prod.mk.inj e).1⟩
 rw [putE_miss hmiss] at h4
 have hd := hrows.dis
 rw [List.nodup_cons] at hd
 have hnew : RowsAt w2 V rb E sz (L ++ [(kv, v, xs)]) := by
  refine ⟨by rw [rawR_append]; exact h4, fun x hx => ?_, ?_⟩
  · rcases Zap.1 hx with hx | hx
    · obtain ⟨n', hn'⟩ := hrows.each x hx
      exact ⟨n', own_kept hn' h5 (fun g hg e => by
       simp only [Zmc, Znn, or_false] at e
       subst e
       exact hd.1 (List.mem_flatMap.2 ⟨x, hx, by simp [hg]⟩))⟩
    · simp only [Zmc, Znn, or_false] at hx
      subst hx
      exact ⟨n, own_kept hrow h5 (fun g hg e => by
       simp only [Zmc, Znn, or_false] at e
       subst e
       exact hdis g (by simp [hg]) (by simp))⟩
  · rw [footR_append, footR_cons, List.nodup_cons, List.nodup_append]
    refine ⟨fun hx => ?_, hd.2, by cases v.ownBlock <;> simp [footR], fun g hg b hb e => ?_⟩
    · simp only [footR, List.flatMap_nil, List.append_nil, Zap] at hx
      rcases hx with hx | hx
      · exact hd.1 hx
      · exact hdis rb hx (by simp)
    · subst e
      simp only [footR, List.flatMap_nil, List.append_nil] at hb
      exact hdis g hb (by simp [hg])
 have h7 : St S w0 w (Rs.row E sz v n xs :: Rs.rows V rb E sz L :: (A ++ B)) R := by
  rw [hM] at hst
  exact hst.perm (List.Perm.cons _ List.perm_middle)
 have h8 : St (foots [Rs.row E sz v n xs, Rs.rows V rb E sz L]) w w2 [Rs.rows V rb E sz (L ++ [(kv, v, xs)])] [] := by
  have hff : ∀ g ∈ (Rs.rows V rb E sz (L ++ [(kv, v, xs)])).foot, g ∈ foots [Rs.row E sz v n xs, Rs.rows V rb E sz L] := by
   intro g hg
   simp only [Rs.rows, footR_append, footR_cons, Zmc, Zap] at hg
   simp only [foots, List.flatMap_cons, List.flatMap_nil, List.append_nil, Zap, Rs.row, Rs.rows, Zmc]
   rcases hg with h1 | h1 | h1 | h1
   · exact .inr (.inl h1)
   · exact .inr (.inr h1)
   · exact .inl h1
   · simp [footR] at h1
  refine ⟨h5.mono (fun g hg _ => by simp at hg; subst hg; simp [foots, Rs.rows]), Ow.one hnew (fun g hg => ?_), fun g hg => .inl (hff g (by simpa [foots] using hg))⟩
  have := hff g hg
  rw [h6]
  exact h7.ow.lt g (by
   rw [show Rs.row E sz v n xs :: Rs.rows V rb E sz L :: (A ++ B) = [Rs.row E sz v n xs, Rs.rows V rb E sz L] ++ (A ++ B) from rfl, List.append_assoc, foots_append]
   simp only [Zap]; exact .inl this)
 have h9 : St S w0 w2 (Rs.rows V rb E sz (L ++ [(kv, v, xs)]) :: (A ++ B)) R := St.call (M1 := [Rs.row E sz v n xs, Rs.rows V rb E sz L]) (M2 := A ++ B) h7 h8
 refine h w2 ?_
 rw [hM, ← hl]
 have : (A ++ Rs.rows V rb E sz L :: B).set A.length (Rs.rows V rb E sz (L ++ [(kv, v, xs)])) = A ++ Rs.rows V rb E sz (L ++ [(kv, v, xs)]) :: B := by simp
 rw [this]
 exact h9.perm List.perm_middle.symm
end
end
section
open Go Go.RowKit
open Classical
def StampAt (w : World) (r : Nat) (k : Value) (s : Nat) : Prop :=
 ∃ es clock, w.heap[r]? = some (.map es clock) ∧ (es.toList.map MapEntry.born).Pairwise (· < ·) ∧ ∃ e ∈ es.toList, e.born = s ∧ e.key = k
theorem StampAt.kept {w w' : World} {r s : Nat} {k : Value} {S : List Nat} (h : StampAt w r k s) (kk : Kept S w w') (hs : r ∉ S) : StampAt w' r k s := by
 obtain ⟨es, c, h1, h2⟩ := h
 exact ⟨es, c, kk.heap h1 hs, h2⟩
section
variable {P : Program} {w : World} {V : Value → Prop} {r : Nat} {l : List (Value × Value)} {T kT eT : TypeId}
theorem map_mentry_hit (h : MapAt w V r l) (K : KeyT P kT V) (hT : P.underlying T = some (.map kT eT)) {k v : Value} (hk : (k, v) ∈ l) :
 ∃ w' s, (Instr.mapEntry T (.map (some r)) k).run P w = .ok (.tuple #[v, .int .i64 (s : Nat)]) w' ∧ MapAt w' V r l ∧ StampAt w' r k s ∧ Kept [r] w w' ∧ w'.heap.size = w.heap.size := by
 obtain ⟨es, c, hr, hl, hb, hc, hV, hn⟩ := h
 have hVk : V k := hV _ hk
 have hes : ∀ e ∈ es.toList, V e.key := fun e he => hV (e.key, e.val) (by rw [← hl]; exact List.mem_map_of_mem (f := fun e : MapEntry => (e.key, e.val)) he)
 obtain ⟨j, hj⟩ := findVal_hit (i := 0) (es := es.toList) (k := k) (v := v) (by rw [← hl] at hn; simpa [Function.comp_def] using hn) (by rw [hl]; exact hk)
 obtain ⟨l1, e, l2, h1, h2, h3, h4, h5⟩ := findVal_some hj
 have hj' : j = l1.length := by omega
 subst hj'
 have hei : es[l1.length]? = some e := by rw [← Array.getElem?_toList, h1]; simp
 have hmod : (es.modify l1.length fun e => { e with key := k }).toList = es.toList := by
  rw [Array.toList_modify, h1, list_modify_at]
  have : ({ e with key := k } : MapEntry) = e := by cases e; simp only at h3; subst h3; rfl
  rw [this]
 refine ⟨{ w with heap := w.heap.setIfInBounds r (.map (es.modify l1.length fun e => { e with key := k }) c) }, e.born, ?_, ⟨_, _, setBlk_at w _ hr, by rw [hmod]; exact hl, by rw [hmod]; exact hb, by rw [hmod]; exact hc, hV, hn⟩, ⟨_, _, setBlk_at w _ hr, by rw [hmod]; exact hb, e, by rw [hmod, h1]; simp, rfl, h3⟩, setBlk_kept _ _ _, by simp⟩
 simp only [Instr.mapEntry, Sem.run_bind, run_underlying hT, Result.andThen_ok, run_getMap hr, K.check _ _ _ hVk, K.find _ _ _ hVk hes, hj, hei, Option.map_some, Option.getD_some, h3, K.stay _ _ hVk, run_setMap hr]
 rfl
theorem map_mentry_miss (h : MapAt w V r l) (K : KeyT P kT V) (hT : P.underlying T = some (.map kT eT)) {k z : Value} (hVk : V k) (hno : ∀ v, (k, v) ∉ l) (hz : (zeroValue eT).run P w = .ok z w) :
 ∃ w' s, (Instr.mapEntry T (.map (some r)) k).run P w = .ok (.tuple #[z, .int .i64 (s : Nat)]) w' ∧ MapAt w' V r (l ++ [(k, z)]) ∧ StampAt w' r k s ∧ Kept [r] w w' ∧ w'.heap.size = w.heap.size := by
 have hm := h
 obtain ⟨es, c, hr, hl, hb, hc, hV, hn⟩ := h
 have hes : ∀ e ∈ es.toList, V e.key := fun e he => hV (e.key, e.val) (by rw [← hl]; exact List.mem_map_of_mem (f := fun e : MapEntry => (e.key, e.val)) he)
 have hj : findVal k es.toList 0 = none := by
  cases hf : findVal k es.toList 0 with
  | none => rfl
  | some p =>
    obtain ⟨j, u⟩ := p
    obtain ⟨l1, e, l2, h1, h2, h3, h4, h5⟩ := findVal_some hf
    exact absurd (by rw [← hl, h1]; simp [h3, h4]) (hno u)
 have hb' : ((es.push { key := k, val := z, born := c }).toList.map MapEntry.born).Pairwise (· < ·) := by
  simp only [Array.toList_push, List.map_append, List.map_cons, List.map_nil]
  refine List.pairwise_append.2 ⟨hb, by simp, ?_⟩
  intro a ha b hb'
  simp only [Zmc, Znn, or_false] at hb'
  obtain ⟨e, he, rfl⟩ := List.mem_map.1 ha
  rw [hb']; exact hc e he
 refine ⟨{ w with heap := w.heap.setIfInBounds r (.map (es.push { key := k, val := z, born := c }) (c + 1)) }, c, ?_, ⟨_, _, setBlk_at w _ hr, by simp [hl], hb', ?_, ?_, ?_⟩, ⟨_, _, setBlk_at w _ hr, hb', { key := k, val := z, born := c }, by simp, rfl, rfl⟩, setBlk_kept _ _ _, by simp⟩
 · simp only [Instr.mapEntry, Sem.run_bind, run_underlying hT, Result.andThen_ok, run_getMap hr, K.check _ _ _ hVk, K.find _ _ _ hVk hes, hj, hz, run_setMap hr]
   rfl
 · intro e he
   simp only [Array.toList_push, Zap, Zmc, Znn, or_false] at he
   rcases he with he | rfl
   · have := hc e he; omega
   · simp
 · intro p hp
   rcases Zap.1 hp with hp | hp
   · exact hV p hp
   · simp only [Zmc, Znn, or_false] at hp; subst hp; exact hVk
 · rw [List.map_append]
   refine List.nodup_append.2 ⟨hn, by simp, ?_⟩
   intro a ha b hb'
   simp only [List.map_cons, List.map_nil, Zmc, Znn, or_false] at hb'
   subst hb'
   obtain ⟨p, hp, rfl⟩ := List.mem_map.1 ha
   rintro rfl; exact hno p.2 hp
theorem find_born : ∀ (l1 : List MapEntry) (e : MapEntry) (l2 : List MapEntry), ((l1 ++ e :: l2).map MapEntry.born).Pairwise (· < ·) → (l1 ++ e :: l2).findIdx? (fun x => decide ((x.born : Int) = (e.born : Int))) = some l1.length
 | [], e, l2, h => by simp [List.findIdx?_cons]
 | x :: l1, e, l2, h => by
   simp only [List.cons_append, List.map_cons, List.pairwise_cons] at h
   have h1 := h.1 e.born (by simp)
   rw [List.cons_append, List.findIdx?_cons, if_neg (by simp; omega), find_born l1 e l2 h.2]
   simp
theorem map_estore (h : MapAt w V r l) {k : Value} {s : Nat} (hs : StampAt w r k s) (v : Value) :
 ∃ w', (Instr.entryStore T (.map (some r)) (.int .i64 s) v).run P w = .ok () w' ∧ MapAt w' V r (putE l k v) ∧ Kept [r] w w' ∧ w'.heap.size = w.heap.size := by
 obtain ⟨es, c, hr, hl, hb, hc, hV, hn⟩ := h
 obtain ⟨es', c', hr', _, e, he, rfl, rfl⟩ := hs
 rw [hr] at hr'
 cases hr'
 obtain ⟨l1, l2, h1⟩ := List.append_of_mem he
 have hf : es.findIdx? (fun x => (x.born : Int) == (e.born : Int)) = some l1.length := by
  have h2 := find_born l1 e l2 (by rw [← h1]; exact hb)
  rw [show es = (l1 ++ e :: l2).toArray from by rw [← h1], List.findIdx?_toArray, ← h2]
  congr 1
 have hmod : (es.modify l1.length fun x => { x with val := v }).toList = l1 ++ { e with val := v } :: l2 := by
  rw [Array.toList_modify, h1, list_modify_at]
 have hl' : l = l1.map (fun e => (e.key, e.val)) ++ (e.key, e.val) :: l2.map (fun e => (e.key, e.val)) := by rw [← hl, h1]; simp
 refine ⟨{ w with heap := w.heap.setIfInBounds r (.map (es.modify l1.length fun x => { x with val := v }) c) }, ?_, ⟨_, _, setBlk_at w _ hr, ?_⟩, setBlk_kept _ _ _, by simp⟩
 · simp only [Instr.entryStore, Sem.run_bind, run_getMap hr, Result.andThen_ok, asInt, asIntOf, Sem.run_pure, hf]
   exact run_setMap hr _
 · rw [hl'] at hn hV
   rw [hl', putE_hit hn]
   refine ⟨by rw [hmod]; simp, ?_, ?_, ?_, ?_⟩
   · rw [hmod]; rw [h1] at hb; simpa using hb
   · intro x hx
     rw [hmod] at hx
     rw [h1] at hc
     rcases Zap.1 hx with hx | hx
     · exact hc x (by simp [hx])
     · rcases Zmc.1 hx with rfl | hx
       · exact hc e (by simp)
       · exact hc x (by simp [hx])
   · intro p hp
     rcases Zap.1 hp with hp | hp
     · exact hV p (by simp only [Zap]; exact .inl hp)
     · rcases Zmc.1 hp with rfl | hp
       · exact hV (e.key, e.val) (by simp)
       · exact hV p (by simp only [Zap, Zmc]; exact .inr (.inr hp))
   · simpa using hn
end
section
variable {P : Program} {ops : Array Oper} {o : Oper} {a : Act} {w : World} {rest : List Oper} {Q : Exit → Act → World → Prop}
variable {V : Value → Prop} {r : Nat} {l : List (Value × Value)} {T kT eT : TypeId} {m x y : Operand} {kv vv : Value}
variable {S : List Nat} {w0 : World} {M R : List Res} {E sz bytes n k : Nat} {z v xv : Value} {xs ys : List Value} {s : Operand} {tx : TypeId}
theorem wl_mkslice (c : Nat) {kl kc : IntKind} (hgd : o.guard = none) (hop : o.op = .makeSlice T x y) (hx : a.eval x = .int kl 0) (hy : a.eval y = .int kc (c : Int)) (el : Elem P T E sz bytes z) (hst : St S w0 w M R) (hb : bytes * c ≤ 281474976710656) (hc : c ≤ maxLen)
 (hK : ∀ g w', St S w0 w' (Rs.row E sz (.slice (some ⟨g, 0, none⟩) 0 c) 0 [] :: M) R → w.heap.size ≤ g → wpList P ops Q rest (a.put o.dst (.slice (some ⟨g, 0, none⟩) 0 c)) w') : wpList P ops Q (o :: rest) a w := by
 obtain ⟨i, hi, hz, hsz, hby⟩ := el.info
 subst hby
 obtain ⟨w', hrun, hown, hg⟩ := run_make_own (P := P) (w := w) 0 T E i z sz el.und hi hz hsz kl kc c hb hc (Nat.zero_le _)
 have hk : Kept [] w w' := ⟨hg.os, hg.tape, hg.output, hg.size, fun k hk _ => hg.block k hk (by simp)⟩
 refine wl_val (v := .slice (some ⟨w.heap.size, 0, none⟩) 0 c) (w' := w') hgd ?_ (hK _ _ (hst.push hk hown (fun g hg' => ?_)) (Nat.le_refl _))
 · simp only [execOp, hop, hx, hy, Sem.run_bind, hrun, Result.andThen_ok]; rfl
 · simp only [Rs.row, Value.ownBlock, Option.toList, Zmc, Znn, or_false] at hg'
   subst hg'
   exact ⟨Nat.le_refl _, own_lt hown _ rfl⟩
theorem St.made (hst : St S w0 w M R) (E sz n : Nat) (cs : List Value) (hl : cs.length = n * sz) (hn : n ≤ maxLen) :
 St S w0 (w.alloc (.cells cs.toArray E)) (Rs.row E sz (.slice (some ⟨w.heap.size, 0, none⟩) n n) n cs :: M) R :=
 hst.push ((Kept.refl _ _).alloc _) (own_made1 E sz n cs hl hn) (fun g hg => by simp [Rs.row, Value.ownBlock] at hg; subst hg; simp)
theorem new_slN (w : World) (E sz n : Nat) (cs : List Value) (hl : cs.length = n * sz) (hn : n ≤ maxLen) (h1 : ∀ u ∈ cs, u.oneCell' = true) : SlAt (w.alloc (.cells cs.toArray E)) sz (.slice (some ⟨w.heap.size, 0, none⟩) n n) n cs :=
 own_sl (own_made1 E sz n cs hl hn) h1
theorem St.nilrow (hst : St S w0 w M R) (E sz : Nat) : St S w0 w (Rs.row E sz (.slice none 0 0) 0 [] :: M) R :=
 hst.push (Kept.refl _ _) ⟨by simp, .inl ⟨rfl, rfl⟩⟩ (fun g hg => by simp [Rs.row, Value.ownBlock] at hg)
theorem St.blk (hst : St S w0 w M R) (o : Obj) : St S w0 (w.alloc o) (Rs.blk w.heap.size o :: M) R :=
 hst.push ((Kept.refl _ _).alloc _) (heap_alloc_new w o) (fun g hg => by simp [Rs.blk] at hg; subst hg; simp)
theorem St.cell1 {b : Nat} {u : Value} {E : Nat} (h : St S w0 w M R) (i : Nat) (hi : M[i]? = some (Rs.blk b (.cells #[u] E (0, 0)))) : w.cell? ⟨b, 0, none⟩ = some u ∧ w.frozen? ⟨b, 0, none⟩ = false := by
 have h1 : w.heap[b]? = some (.cells #[u] E (0, 0)) := h.m i hi
 exact ⟨by simp [World.cell?, h1], by simp [World.frozen?, h1]⟩
theorem St.cell2 {b : Nat} {u v : Value} {E : Nat} (h : St S w0 w M R) (i : Nat) (hi : M[i]? = some (Rs.blk b (.cells #[u, v] E (0, 0)))) : w.cell? ⟨b, 0, none⟩ = some u ∧ w.cell? ⟨b, 1, none⟩ = some v := by
 have h1 : w.heap[b]? = some (.cells #[u, v] E (0, 0)) := h.m i hi
 exact ⟨by simp [World.cell?, h1], by simp [World.cell?, h1]⟩
theorem St.cell2a {b : Nat} {u v : Value} {E : Nat} (h : St S w0 w M R) (i : Nat) (hi : M[i]? = some (Rs.blk b (.cells #[u, v] E (0, 0)))) : ∀ o, (w.alloc o).cell? ⟨b, 0, none⟩ = some u ∧ (w.alloc o).cell? ⟨b, 1, none⟩ = some v := fun o => (h.alloc o).cell2 i hi
theorem St.store1 {b : Nat} {u : Value} {E : Nat} (h : St S w0 w M R) (i : Nat) (hi : M[i]? = some (Rs.blk b (.cells #[u] E (0, 0)))) (u' : Value) : St S w0 (w.setCell ⟨b, 0, none⟩ u') (M.set i (Rs.blk b (.cells #[u'] E (0, 0)))) R := by
 have h1 : w.heap[b]? = some (.cells #[u] E (0, 0)) := h.m i hi
 refine h.set i hi (T := [b]) ((Kept.refl _ _).setCell u' (by simp)) (by simp [Rs.blk]) ?_ (fun g hg => .inl hg)
 show (w.setCell ⟨b, 0, none⟩ u').heap[b]? = _
 simp [World.setCell, Array.getElem?_modify, h1]
theorem own_some {w : World} {E sz n : Nat} {v : Value} {cs : List Value} (h : w.ownsRow 0 E sz v n cs) (hn : 0 < n) : ∃ g c, v = .slice (some ⟨g, 0, none⟩) n c := by
 rcases h.2 with ⟨_, h1⟩ | ⟨g', cap, cur, h1, _⟩
 · omega
 · exact ⟨g', cap, h1⟩
theorem own_cell {w : World} {E sz g n m c j : Nat} {cs : List Value} {u : Value} (h : w.ownsRow 0 E sz (.slice (some ⟨g, 0, none⟩) n c) m cs) (hj : cs[j]? = some u) : w.cell? ⟨g, j, none⟩ = some u ∧ w.frozen? ⟨g, j, none⟩ = false := by
 rcases h.2 with ⟨h1, _⟩ | ⟨g', cap, cur, h1, _, hg, _, _, _, ht⟩
 · cases h1
 · cases h1
   subst ht
   rw [List.getElem?_take] at hj
   split at hj
   · exact ⟨by simp [World.cell?, hg, ← hj], by simp [World.frozen?, hg]⟩
   · cases hj
theorem own_set {w : World} {E g n c j : Nat} {cs : List Value} (h : w.ownsRow 0 E 1 (.slice (some ⟨g, 0, none⟩) n c) n cs) (hj : j < cs.length) (u : Value) : (w.setCell ⟨g, j, none⟩ u).ownsRow 0 E 1 (.slice (some ⟨g, 0, none⟩) n c) n (cs.set j u) := by
 refine ⟨by simpa using h.1, ?_⟩
 rcases h.2 with ⟨h1, _⟩ | ⟨g', cap, cur, h1, h0, hg, hnc, hcm, hcs, ht⟩
 · cases h1
 · cases h1
   refine .inr ⟨g, c, cur.setIfInBounds j u, rfl, h0, by simp [World.setCell, Array.getElem?_modify, hg], hnc, hcm, by simpa using hcs, ?_⟩
   rw [Array.toList_setIfInBounds, List.take_set, ht]
end
end
end Go.Proofs.YticcnlpfmekagaaGreat
