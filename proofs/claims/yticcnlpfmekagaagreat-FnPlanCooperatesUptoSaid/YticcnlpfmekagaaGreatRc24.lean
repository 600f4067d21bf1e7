/- Part 24 of the proof of the row: StIter, StDraw, PlAdd. -/
import Derived.Test.YticcnlpfmekagaaGreatRc00
import Derived.Test.YticcnlpfmekagaaGreatRc16
import Derived.Test.YticcnlpfmekagaaGreatRc20
set_option linter.unusedVariables false
set_option linter.unusedSimpArgs false
set_option maxRecDepth 100000
set_option maxHeartbeats 8000000
namespace Go.Proofs.YticcnlpfmekagaaGreat
section
open Go Go.RowKit
open Classical
section
variable {P : Program} {ops : Array Oper} {o : Oper} {a : Act} {w : World} {rest : List Oper} {Q : Exit → Act → World → Prop}
variable {V : Value → Prop} {T kT eT : TypeId} {m x y : Operand} {kv vv : Value}
variable {S : List Nat} {w0 : World} {M R : List Res} {E sz : Nat}
theorem wl_rowset (i : Nat) {A B : List MRow} {kx : Operand} {rb n it : Nat} {v v' : Value} {xs ys : List Value} {left : List (Value × Value)} {hr : rb ∈ (Rs.rows V rb E sz (A ++ (kv, v, xs) :: B)).foot} (hr' : rb ∈ (Rs.rows V rb E sz (A ++ (kv, v', ys) :: B)).foot)
 (hgd : o.guard = none) (ho : o.op = .mapUpdate T m kx y) (hm : a.eval m = .map (some rb)) (hkx : a.eval kx = kv) (hy : a.eval y = v') (K0 : KeyT P kT V) (hT : P.underlying T = some (.map kT eT))
 (hst : St S w0 w (Rs.row E sz v' n ys :: M) R) (hi : M[i]? = some (Rs.it (Rs.rows V rb E sz (A ++ (kv, v, xs) :: B)) rb (rawR (A ++ (kv, v, xs) :: B)) left it hr)) (hout : ∀ u, (kv, u) ∉ left)
 (h : ∀ w', St S w0 w' (M.set i (Rs.it (Rs.rows V rb E sz (A ++ (kv, v', ys) :: B)) rb (rawR (A ++ (kv, v', ys) :: B)) left it hr')) R → wpList P ops Q rest (a.put o.dst undef) w') : wpList P ops Q (o :: rest) a w := by
 have hrow : w.ownsRow 0 E sz v' n ys := hst.m 0 rfl
 obtain ⟨hrows, hiter, hnot⟩ : RowsAt w V rb E sz (A ++ (kv, v, xs) :: B) ∧ IterAt w it rb (rawR (A ++ (kv, v, xs) :: B)) left ∧ it ∉ (Rs.rows V rb E sz (A ++ (kv, v, xs) :: B)).foot := hst.m (i + 1) (by simpa using hi)
 obtain ⟨C, D, hM, hl⟩ := split_at hi
 have hdis : ∀ g ∈ v'.ownBlock.toList, g ∉ (rb :: footR (A ++ (kv, v, xs) :: B)) ++ [it] := by
  intro g hg hx
  have hd := hst.ow.dis
  rw [List.cons_append, List.pairwise_cons] at hd
  exact hd.1 _ (by simp only [Zap]; exact .inl (List.mem_of_getElem? hi)) g hg hx
 have hne : it ≠ rb := iter_ne hiter
 have hV : V kv := hrows.map.keys (kv, v) (by rw [rawR_append, rawR_cons]; simp)
 obtain ⟨w2, hrun, h4, h5, h6, h7⟩ := map_update_iter (P := P) hrows.map K0 hT hV v' hiter hne ⟨v, by rw [rawR_append, rawR_cons]; simp⟩ hout
 have hn := hrows.map.nodup
 rw [rawR_append, rawR_cons] at hn h4 h7
 rw [putE_hit hn, ← rawR_cons (kv, v', ys), ← rawR_append] at h4 h7
 have hd := hrows.dis
 rw [List.nodup_cons, footR_append, footR_cons] at hd
 obtain ⟨hd1, hd2⟩ := hd
 simp only [Zap, not_or] at hd1
 have hnew : RowsAt w2 V rb E sz (A ++ (kv, v', ys) :: B) := by
  have hold : ∀ x ∈ A ++ (kv, v, xs) :: B, ∃ n, w2.ownsRow 0 E sz x.2.1 n x.2.2 := fun x hx => by
   obtain ⟨n', hn'⟩ := hrows.each x hx
   exact ⟨n', own_kept hn' h5 (fun g hg e => by
    simp only [Zmc, Znn, or_false] at e
    subst e
    exact (List.nodup_cons.1 hrows.dis).1 (List.mem_flatMap.2 ⟨x, hx, by simp [hg]⟩))⟩
  have hv'1 : ∀ g ∈ v'.ownBlock.toList, g ≠ rb ∧ g ∉ footR A ∧ g ∉ footR B := fun g hg => by
   have := hdis g hg
   simp only [footR_append, footR_cons, Zap, Zmc, not_or] at this
   exact ⟨this.1.1, this.1.2.1, this.1.2.2.2⟩
  refine ⟨h4, fun x hx => ?_, ?_⟩
  · rcases Zap.1 hx with hx | hx
    · exact hold x (by simp [hx])
    · rcases Zmc.1 hx with rfl | hx
      · exact ⟨n, own_kept hrow h5 (fun g hg e => by
         simp only [Zmc, Znn, or_false] at e
         exact (hv'1 g (by simp [hg])).1 e)⟩
      · exact hold x (by simp [hx])
  · rw [footR_append, footR_cons]
    have h8 := List.nodup_append.1 hd2
    have h9 := List.nodup_append.1 h8.2.1
    refine List.nodup_cons.2 ⟨fun hx => ?_, List.nodup_append.2 ⟨h8.1, List.nodup_append.2 ⟨by cases v'.ownBlock <;> simp, h9.2.1, fun g hg b hb e => ?_⟩, fun g hg b hb e => ?_⟩⟩
    · rcases Zap.1 hx with hx | hx
      · exact hd1.1 hx
      · rcases Zap.1 hx with hx | hx
        · exact (hv'1 rb hx).1 rfl
        · exact hd1.2.2 hx
    · subst e; exact (hv'1 g hg).2.2 hb
    · subst e
      rcases Zap.1 hb with hb | hb
      · exact (hv'1 g hb).2.1 hg
      · exact h8.2.2 g hg g (by simp [hb]) rfl
 have h7' : St S w0 w (Rs.row E sz v' n ys :: Rs.it (Rs.rows V rb E sz (A ++ (kv, v, xs) :: B)) rb (rawR (A ++ (kv, v, xs) :: B)) left it hr :: (C ++ D)) R := by
  rw [hM] at hst
  exact hst.perm (List.Perm.cons _ List.perm_middle)
 have hff : ∀ g ∈ (Rs.it (Rs.rows V rb E sz (A ++ (kv, v', ys) :: B)) rb (rawR (A ++ (kv, v', ys) :: B)) left it hr').foot, g ∈ foots [Rs.row E sz v' n ys, Rs.it (Rs.rows V rb E sz (A ++ (kv, v, xs) :: B)) rb (rawR (A ++ (kv, v, xs) :: B)) left it hr] := by
  intro g hg
  simp only [Rs.it, Rs.rows, footR_append, footR_cons, Zmc, Zap, Znn, or_false] at hg
  simp only [foots, List.flatMap_cons, List.flatMap_nil, List.append_nil, Zap, Rs.row, Rs.it, Rs.rows, Zmc, footR_append, footR_cons, Znn, or_false]
  rcases hg with (h1 | h1 | h1 | h1) | h1
  · exact .inr (.inl (.inl h1))
  · exact .inr (.inl (.inr (.inl h1)))
  · exact .inl h1
  · exact .inr (.inl (.inr (.inr (.inr h1))))
  · exact .inr (.inr h1)
 have h8 : St (foots [Rs.row E sz v' n ys, Rs.it (Rs.rows V rb E sz (A ++ (kv, v, xs) :: B)) rb (rawR (A ++ (kv, v, xs) :: B)) left it hr]) w w2 [Rs.it (Rs.rows V rb E sz (A ++ (kv, v', ys) :: B)) rb (rawR (A ++ (kv, v', ys) :: B)) left it hr'] [] := by
  refine ⟨h5.mono (fun g hg _ => by simp at hg; subst hg; simp [foots, Rs.it, Rs.rows]), Ow.one ⟨hnew, h7, ?_⟩ (fun g hg => ?_), fun g hg => .inl (hff g (by simpa [foots] using hg))⟩
  · intro hx
    simp only [Rs.rows, footR_append, footR_cons, Zmc, Zap] at hx
    simp only [Rs.rows, footR_append, footR_cons, Zmc, Zap, not_or] at hnot
    rcases hx with h1 | h1 | h1 | h1
    · exact hnot.1 h1
    · exact hnot.2.1 h1
    · exact hdis it h1 (by simp)
    · exact hnot.2.2.2 h1
  · have := hff g hg
    rw [h6]
    exact h7'.ow.lt g (by
     rw [show Rs.row E sz v' n ys :: Rs.it (Rs.rows V rb E sz (A ++ (kv, v, xs) :: B)) rb (rawR (A ++ (kv, v, xs) :: B)) left it hr :: (C ++ D) = [Rs.row E sz v' n ys, Rs.it (Rs.rows V rb E sz (A ++ (kv, v, xs) :: B)) rb (rawR (A ++ (kv, v, xs) :: B)) left it hr] ++ (C ++ D) from rfl, List.append_assoc, foots_append]
     simp only [Zap]; exact .inl this)
 have h9 : St S w0 w2 (Rs.it (Rs.rows V rb E sz (A ++ (kv, v', ys) :: B)) rb (rawR (A ++ (kv, v', ys) :: B)) left it hr' :: (C ++ D)) R := St.call (M1 := [Rs.row E sz v' n ys, Rs.it (Rs.rows V rb E sz (A ++ (kv, v, xs) :: B)) rb (rawR (A ++ (kv, v, xs) :: B)) left it hr]) (M2 := C ++ D) h7' h8
 refine wl_of hgd fun _ hh => ?_
 refine wp_skip' (w' := w2) ?_ (hh _ _ (h w2 ?_))
 · simp only [execOp, ho, hm, hkx, hy, Sem.run_bind, hrun, Result.andThen_ok]; rfl
 rw [hM, ← hl]
 have : (C ++ Rs.it (Rs.rows V rb E sz (A ++ (kv, v, xs) :: B)) rb (rawR (A ++ (kv, v, xs) :: B)) left it hr :: D).set C.length (Rs.it (Rs.rows V rb E sz (A ++ (kv, v', ys) :: B)) rb (rawR (A ++ (kv, v', ys) :: B)) left it hr') = C ++ Rs.it (Rs.rows V rb E sz (A ++ (kv, v', ys) :: B)) rb (rawR (A ++ (kv, v', ys) :: B)) left it hr' :: D := by simp
 rw [this]
 exact h9.perm List.perm_middle.symm
end
def Rs.loose (E sz : Nat) (L : List MRow) : Res where
 foot := footR L
 holds := fun w => (∀ x ∈ L, ∃ n, w.ownsRow 0 E sz x.2.1 n x.2.2) ∧ (footR L).Nodup
 stable := fun w w' S k hs h => ⟨fun x hx => by
  obtain ⟨n, hn⟩ := h.1 x hx
  exact ⟨n, own_kept hn k (fun g hg => hs g (List.mem_flatMap.2 ⟨x, hx, by simp [hg]⟩))⟩, h.2⟩
def Rs.ent (r : Nat) (V : Value → Prop) (l : List (Value × Value)) (kv : Value) (s : Nat) : Res where
 foot := [r]
 holds := fun w => MapAt w V r l ∧ StampAt w r kv s
 stable := fun w w' S k hs h => ⟨h.1.kept k (hs r (by simp)), h.2.kept k (hs r (by simp))⟩
section
variable {S : List Nat} {w0 w : World} {M R : List Res} {V : Value → Prop} {r E sz n : Nat} {A B : List MRow} {kv v : Value} {xs : List Value}
theorem St.rowOut (h : St S w0 w (Rs.rows V r E sz (A ++ (kv, v, xs) :: B) :: M) R) :
 ∃ n, St S w0 w (Rs.map r V (rawR (A ++ (kv, v, xs) :: B)) :: Rs.row E sz v n xs :: Rs.loose E sz (A ++ B) :: M) R := by
 have hrows : RowsAt w V r E sz (A ++ (kv, v, xs) :: B) := h.m 0 rfl
 obtain ⟨n, hn⟩ := hrows.each (kv, v, xs) (by simp)
 have hlt := h.lt 0 (X := Rs.rows V r E sz (A ++ (kv, v, xs) :: B)) rfl
 have hd := hrows.dis
 rw [List.nodup_cons, footR_append, footR_cons] at hd
 obtain ⟨d0, d1⟩ := hd
 have d2 := List.nodup_append.1 d1
 have d3 := List.nodup_append.1 d2.2.1
 simp only [Zap, not_or] at d0
 have hff : ∀ g ∈ foots [Rs.map r V (rawR (A ++ (kv, v, xs) :: B)), Rs.row E sz v n xs, Rs.loose E sz (A ++ B)], g ∈ (Rs.rows V r E sz (A ++ (kv, v, xs) :: B)).foot := by
  intro g hg
  simp only [foots, List.flatMap_cons, List.flatMap_nil, List.append_nil, Zap, Rs.map, Rs.row, Rs.loose, footR_append, Zmc, Znn, or_false] at hg
  simp only [Rs.rows, footR_append, footR_cons, Zmc, Zap]
  grind
 refine ⟨n, St.call (M1 := [Rs.rows V r E sz (A ++ (kv, v, xs) :: B)]) (M1' := [Rs.map r V (rawR (A ++ (kv, v, xs) :: B)), Rs.row E sz v n xs, Rs.loose E sz (A ++ B)]) (G := []) (M2 := M) h ⟨Kept.refl _ _, ⟨?_, ?_, ?_⟩, fun g hg => .inl (by simpa [foots] using hff g hg)⟩⟩
 · intro X hX
   simp only [List.append_nil, Zmc, Znn, or_false] at hX
   rcases hX with rfl | rfl | rfl
   · exact hrows.map
   · exact hn
   · refine ⟨fun x hx => hrows.each x (by simp only [Zap, Zmc] at hx ⊢; grind), ?_⟩
     rw [footR_append]
     exact List.nodup_append.2 ⟨d2.1, d3.2.1, fun a ha b hb => d2.2.2 a ha b (by simp [hb])⟩
 · intro g hg
   exact hlt g (hff g (by simpa using hg))
 · simp only [List.append_nil, List.pairwise_cons, Zmc, Znn, or_false, forall_eq_or_imp, forall_eq, false_implies, implies_true, List.Pairwise.nil, and_true]
   refine ⟨⟨fun g hg hx => ?_, fun g hg hx => ?_⟩, fun g hg hx => ?_⟩
   · simp only [Rs.map, Zmc, Znn, or_false] at hg
     subst hg
     exact d0.2.1 hx
   · simp only [Rs.map, Zmc, Znn, or_false] at hg
     subst hg
     simp only [Rs.loose, footR_append, Zap] at hx
     grind
   · simp only [Rs.loose, footR_append, Zap] at hx
     rcases hx with hx | hx
     · exact d2.2.2 g hx g (by simp only [Zap]; exact .inl hg) rfl
     · exact d3.2.2 g hg g hx rfl
theorem St.rowIn (h : St S w0 w (Rs.map r V (rawR (A ++ (kv, v, xs) :: B)) :: Rs.row E sz v n xs :: Rs.loose E sz (A ++ B) :: M) R) : St S w0 w (Rs.rows V r E sz (A ++ (kv, v, xs) :: B) :: M) R := by
 have h1 : MapAt w V r (rawR (A ++ (kv, v, xs) :: B)) := h.m 0 rfl
 have h2 : w.ownsRow 0 E sz v n xs := h.m 1 rfl
 obtain ⟨h3, h4⟩ : (∀ x ∈ A ++ B, ∃ n, w.ownsRow 0 E sz x.2.1 n x.2.2) ∧ (footR (A ++ B)).Nodup := h.m 2 rfl
 have h0 : St S w0 w ([Rs.map r V (rawR (A ++ (kv, v, xs) :: B)), Rs.row E sz v n xs, Rs.loose E sz (A ++ B)] ++ M) R := h
 have how : Ow w [Rs.map r V (rawR (A ++ (kv, v, xs) :: B)), Rs.row E sz v n xs, Rs.loose E sz (A ++ B)] := h0.ow.left.left
 have hd := how.dis
 simp only [List.pairwise_cons, Zmc, Znn, or_false, forall_eq_or_imp, forall_eq, false_implies, implies_true, List.Pairwise.nil, and_true] at hd
 obtain ⟨⟨d1, d2⟩, d3⟩ := hd
 have hff : ∀ g ∈ (Rs.rows V r E sz (A ++ (kv, v, xs) :: B)).foot, g ∈ foots [Rs.map r V (rawR (A ++ (kv, v, xs) :: B)), Rs.row E sz v n xs, Rs.loose E sz (A ++ B)] := by
  intro g hg
  simp only [foots, List.flatMap_cons, List.flatMap_nil, List.append_nil, Zap, Rs.map, Rs.row, Rs.loose, footR_append, Zmc, Znn, or_false]
  simp only [Rs.rows, footR_append, footR_cons, Zmc, Zap] at hg
  grind
 have e1 : r ∉ v.ownBlock.toList := d1 r (by simp [Rs.map])
 have e2 : r ∉ footR (A ++ B) := d2 r (by simp [Rs.map])
 have e3 : ∀ g ∈ v.ownBlock.toList, g ∉ footR (A ++ B) := d3
 rw [footR_append] at h4 e2 e3
 have h5 := List.nodup_append.1 h4
 simp only [Zap, not_or] at e2
 have hrows : RowsAt w V r E sz (A ++ (kv, v, xs) :: B) := by
  refine ⟨h1, fun x hx => ?_, ?_⟩
  · rcases Zap.1 hx with hx | hx
    · exact h3 x (by simp [hx])
    · rcases Zmc.1 hx with rfl | hx
      · exact ⟨n, h2⟩
      · exact h3 x (by simp [hx])
  · rw [footR_append, footR_cons]
    refine List.nodup_cons.2 ⟨fun hx => ?_, List.nodup_append.2 ⟨h5.1, List.nodup_append.2 ⟨by cases v.ownBlock <;> simp, h5.2.1, fun g hg b hb e => ?_⟩, fun g hg b hb e => ?_⟩⟩
    · simp only [Zap] at hx
      grind
    · subst e; exact e3 g hg (by simp [hb])
    · subst e
      rcases Zap.1 hb with hb | hb
      · exact e3 g hb (by simp [hg])
      · exact h5.2.2 g hg g hb rfl
 exact St.call (M1 := [Rs.map r V (rawR (A ++ (kv, v, xs) :: B)), Rs.row E sz v n xs, Rs.loose E sz (A ++ B)]) (M1' := [Rs.rows V r E sz (A ++ (kv, v, xs) :: B)]) (G := []) (M2 := M) h0
  ⟨Kept.refl _ _, Ow.one hrows (fun g hg => how.lt g (hff g hg)), fun g hg => .inl (hff g (by simpa [foots] using hg))⟩
end
section
variable {P : Program} {ops : Array Oper} {o : Oper} {a : Act} {w : World} {rest : List Oper} {Q : Exit → Act → World → Prop}
variable {V : Value → Prop} {r s : Nat} {l : List (Value × Value)} {T kT eT : TypeId} {m x y : Operand} {kv vv z : Value}
variable {S : List Nat} {w0 : World} {M R : List Res}
theorem wl_ment (i : Nat) (hgd : o.guard = none) (hop : o.op = .mapEntry T m x) (hm : a.eval m = .map (some r)) (hk : a.eval x = kv) (K0 : KeyT P kT V) (hT : P.underlying T = some (.map kT eT)) (hst : St S w0 w M R) (hi : M[i]? = some (Rs.map r V l)) (hin : (kv, vv) ∈ l)
 (hK : ∀ (s : Nat) w', St S w0 w' (M.set i (Rs.ent r V l kv s)) R → wpList P ops Q rest (a.put o.dst (.tuple #[vv, .int .i64 s])) w') : wpList P ops Q (o :: rest) a w := by
 obtain ⟨w', s, hrun, h1, h2, h3, h4⟩ := map_mentry_hit (P := P) (hst.m i hi) K0 hT hin
 refine wl_val (v := .tuple #[vv, .int .i64 s]) (w' := w') hgd ?_ (hK s w' (hst.set i hi h3 (by simp [Rs.map]) ⟨h1, h2⟩ (fun g hg => .inl hg)))
 simp only [execOp, hop, hm, hk, Sem.run_bind, hrun, Result.andThen_ok]; rfl
theorem wl_estore (i : Nat) (hgd : o.guard = none) (hop : o.op = .entryStore T m x y) (hm : a.eval m = .map (some r)) (hs : a.eval x = .int .i64 (s : Nat)) (hv : a.eval y = vv) (hst : St S w0 w M R) (hi : M[i]? = some (Rs.ent r V l kv s))
 (hK : ∀ w', St S w0 w' (M.set i (Rs.map r V (putE l kv vv))) R → wpList P ops Q rest (a.put o.dst undef) w') : wpList P ops Q (o :: rest) a w := by
 obtain ⟨w', hrun, h1, h2, h3⟩ := map_estore (P := P) (T := T) (hst.m i hi).1 (hst.m i hi).2 vv
 refine wl_of hgd fun _ hh => ?_
 refine wp_skip' (w' := w') ?_ (hh _ _ (hK w' (hst.set i hi h2 (by simp [Rs.ent]) h1 (fun g hg => .inl hg))))
 simp only [execOp, hop, hm, hs, hv, Sem.run_bind, hrun, Result.andThen_ok]; rfl
theorem rawR_put {A B : List MRow} {kv v v' : Value} {xs ys : List Value} {w : World} {V : Value → Prop} {r : Nat} (h : MapAt w V r (rawR (A ++ (kv, v, xs) :: B))) : putE (rawR (A ++ (kv, v, xs) :: B)) kv v' = rawR (A ++ (kv, v', ys) :: B) := by
 have hn := h.nodup
 rw [rawR_append, rawR_cons] at hn ⊢
 rw [putE_hit hn, rawR_append, rawR_cons]
end
end
section
open Go Go.RowKit
open Classical
section
variable {P : Program} {ops : Array Oper} {o : Oper} {a : Act} {w : World} {K : Act → World → Prop} {Q : Exit → Act → World → Prop} {G : Prop}
variable {V : Value → Prop} {r : Nat} {l : List (Value × Value)} {T kT eT : TypeId} {m x y s : Operand} {kv vv : Value}
variable {S : List Nat} {w0 : World} {M R : List Res} {E sz bytes n k : Nat} {z v xv : Value} {xs ys : List Value} {tx : TypeId}
theorem sl_push (i : Nat) (hgd : o.guard = none) (ho : o.op = .call { callee := .builtin .append, args := #[s, x], argTypes := #[T, tx] }) (el : Elem P T E sz bytes z) (hs : a.eval s = v) (hx : a.eval x = xv)
 (hst : St S w0 w M R) (hi : M[i]? = some (Rs.row E sz v n xs)) (hsrc : Src P sz tx xv k ys w) (hb : (4 * (n + k) + 1024) * bytes ≤ 281474976710656) (hm : n + k ≤ 281474976710656)
 (h : ∀ v' w', St S w0 w' (M.set i (Rs.row E sz v' (n + k) (xs ++ ys))) R → K (a.put o.dst v') w') : if Region.wanted o (yielded ops a.tmps) = true then Oper.wp P o a w K Q else G :=
 sl_app hgd ho el hs hx (hst.m i hi) hsrc hb hm fun v' w' h1 h2 h3 => h v' w' (hst.set i hi h2 (fun g hg _ => hg) h1 (fun g hg => by
  rcases h3 with ⟨e1, e2⟩ | ⟨e1, e2⟩
  · left; simpa [Rs.row, e1] using hg
  · right; simp [Rs.row, e1] at hg; omega))
theorem up_upd (i : Nat) {f : Unit → World → Result Next} (hf : ∀ u w', f u w' = .ok .skip w') (K0 : KeyT P kT V) (hT : P.underlying T = some (.map kT eT)) (hst : St S w0 w M R) (hi : M[i]? = some (Rs.map r V l)) (hV : V kv)
 (hK : ∀ w', St S w0 w' (M.set i (Rs.map r V (putE l kv vv))) R → K (a.put o.dst undef) w') : Oper.upon P o a K Q ((Sem.run P (Instr.mapUpdate T (.map (some r)) kv vv) w).andThen f) :=
 up_update hf K0 hT (hst.m i hi) hV fun w' h1 h2 h3 => hK w' (hst.set i hi h2 (by simp [Rs.map]) h1 (fun g hg => .inl hg))
theorem St.rowJoin {L : List MRow} {n : Nat} (h : St S w0 w (Rs.map r V (rawR (L ++ [(kv, v, xs)])) :: Rs.row E sz v n xs :: Rs.loose E sz L :: M) R) : St S w0 w (Rs.rows V r E sz (L ++ [(kv, v, xs)]) :: M) R :=
 St.rowIn (A := L) (B := []) (by rw [List.append_nil]; exact h)
theorem St.oneRow {n : Nat} (h : St S w0 w (Rs.map r V [(kv, v)] :: Rs.row E sz v n xs :: M) R) : St S w0 w (Rs.rows V r E sz [(kv, v, xs)] :: M) R := by
 have h1 : St S w0 w (Rs.loose E sz [] :: Rs.map r V [(kv, v)] :: Rs.row E sz v n xs :: M) R := h.push (Kept.refl _ _) ⟨by simp, by simp [footR]⟩ (by simp [Rs.loose, footR])
 have h2 := (h1.front 1 rfl).front 2 rfl
 have h3 := h2.front 1 rfl
 exact St.rowJoin (L := []) h3
theorem St.unrowL {L : List MRow} (h : St S w0 w (Rs.rows V r E sz L :: M) R) : St S w0 w (Rs.map r V (rawR L) :: Rs.loose E sz L :: M) R := by
 have hrows : RowsAt w V r E sz L := h.m 0 rfl
 have hlt := h.lt 0 (X := Rs.rows V r E sz L) rfl
 have hd := hrows.dis
 rw [List.nodup_cons] at hd
 have hff : ∀ g ∈ foots [Rs.map r V (rawR L), Rs.loose E sz L], g ∈ (Rs.rows V r E sz L).foot := by
  intro g hg
  simp only [foots, List.flatMap_cons, List.flatMap_nil, List.append_nil, Zap, Rs.map, Rs.loose, Zmc, Znn, or_false] at hg
  simp only [Rs.rows, Zmc]
  exact hg
 refine St.call (M1 := [Rs.rows V r E sz L]) (M1' := [Rs.map r V (rawR L), Rs.loose E sz L]) (G := []) (M2 := M) h ⟨Kept.refl _ _, ⟨?_, fun g hg => hlt g (hff g (by simpa using hg)), ?_⟩, fun g hg => .inl (by simpa [foots] using hff g hg)⟩
 · intro X hX
   simp only [List.append_nil, Zmc, Znn, or_false] at hX
   rcases hX with rfl | rfl
   · exact hrows.map
   · exact ⟨hrows.each, hd.2⟩
 · simp only [List.append_nil, List.pairwise_cons, Zmc, Znn, or_false, forall_eq, false_implies, implies_true, List.Pairwise.nil, and_true]
   intro g hg hx
   simp only [Rs.map, Zmc, Znn, or_false] at hg
   subst hg
   exact hd.1 hx
end
end
section
open Go Go.Proofs Go.RowKit Go.Lib
open Classical
def rowsI (I : Tops) : List MRow := I.map fun x => (.string x.1, x.2.1, i32s x.2.2)
abbrev Rs.inn (r : Nat) (I : Tops) : Res := Rs.rows isStr r 21 1 (rowsI I)
theorem rowsI_append (A B : Tops) : rowsI (A ++ B) = rowsI A ++ rowsI B := by simp [rowsI]
theorem rowsI_keys {I : Tops} {t : ByteArray} (h : t ∉ I.map (·.1)) : Value.string t ∉ (rowsI I).map (·.1) := by
 intro hu
 obtain ⟨y, hy, e⟩ := List.mem_map.1 hu
 obtain ⟨z, hz, rfl⟩ := List.mem_map.1 hy
 simp only [Value.string.injEq] at e
 exact h (e ▸ List.mem_map_of_mem hz)
theorem rawI_miss {I : Tops} {t : ByteArray} (h : t ∉ I.map (·.1)) : ∀ u, (Value.string t, u) ∉ rawR (rowsI I) := by
 intro u hu
 obtain ⟨y, hy, e⟩ := List.mem_map.1 hu
 rw [Prod.mk.injEq] at e
 exact rowsI_keys h (List.mem_map.2 ⟨y, hy, e.1⟩)
theorem i32s_one (xs : List Int) : ∀ u ∈ i32s xs, u.oneCell' = true := by
 intro u hu
 obtain ⟨x, _, rfl⟩ := List.mem_map.1 hu
 rfl
def AddNew (p : Nat) (m t : ByteArray) (n : Int) (l : List (Value × Value)) (w : World) (e : Ending) (w' : World) : Prop :=
 e = .returned (.tuple #[]) ∧ ∃ r v, St [p] w w' [Rs.map p isStr (l ++ [(.string m, .map (some r))]), Rs.inn r [(t, v, [n])]] []
theorem add_new (p : Nat) (m t : ByteArray) (n : Int) (a : Option Addr) (c : Nat) (l : List (Value × Value)) (w : World) (how : Ow w ([Rs.map p isStr l] ++ [Rs.row 21 1 (.slice a 1 c) 1 [.int .i32 n]])) (hm : ∀ u, (Value.string m, u) ∉ l) :
 Calls Tryz.prog 93 #[.map (some p), .string m, .string t, .slice a 1 c] w (AddNew p m t n l w) := by
 have hst0 : St [p] w w [Rs.map p isStr l] [Rs.row 21 1 (.slice a 1 c) 1 [.int .i32 n]] := by
  have := St.start how
  simpa [foots, Rs.map] using this
 have hmk : ∀ w : World, (Instr.makeMap 90 (some (.int .i64 1))).run Tryz.prog w = .ok (.map (some w.heap.size)) (w.alloc (.map #[] 0)) := fun w => by
  simp [Instr.makeMap, go_sem]
 have hlk := map_lookup_miss (P := Tryz.prog) (hst0.m 0 rfl : MapAt w isStr p l) (keyT_str Tryz.underlying9) Tryz.underlying82 (k := .string m) ⟨_, rfl⟩ hm (Tryz.zeroValue90 w) true
 simp only [if_true] at hlk
 have hst1 : St [p] w (w.alloc (.map #[] 0)) [Rs.map w.heap.size isStr [], Rs.map p isStr l] [Rs.row 21 1 (.slice a 1 c) 1 [.int .i32 n]] :=
  hst0.push ((Kept.refl _ _).alloc _) (MapAt.new w isStr) (by simp [Rs.map])
 have HM := Zhd hm; clear hm how hst0
 go_enter Tryz.func93, Tryz.ntmps93
 go_upto_region 4 with (first | (refine wl_upd (kv := .string m) (vv := .map (some w.heap.size)) 1 rfl rfl rfl rfl rfl (keyT_str Tryz.underlying9) Tryz.underlying82 hst1 rfl ⟨_, rfl⟩ ?_; intro w2 hst2) | fail)
 simp only [Zs0, Zs1] at hst2
 rw [putE_miss HM.out] at hst2
 generalize w.heap.size = r at hst2 ⊢
 have hst3 := hst2.nilrow 21 1
 have hl1 : ∀ w', MapAt w' isStr p (l ++ [(.string m, .map (some r))]) → (Instr.lookup 82 (.map (some p)) (.string m) false).run Tryz.prog w' = .ok (.map (some r)) w' := fun w' h' => by
  have h1 := map_lookup_hit (P := Tryz.prog) h' (keyT_str Tryz.underlying9) Tryz.underlying82 (k := .string m) (v := .map (some r)) (by simp) false
  simpa using h1
 have hl2 := map_lookup_miss (P := Tryz.prog) (w := w2.drew) (MapAt.drew (hst2.m 0 rfl)) (keyT_str Tryz.underlying9) Tryz.underlying90 (k := .string t) ⟨_, rfl⟩ (by simp) (Tryz.zeroValue31 _) false
 simp only [Bool.false_eq_true, if_false] at hl2
 have hsl : SlAt w2.drew 1 (.slice a 1 c) 1 [.int .i32 n] := (own_sl (show w2.ownsRow 0 21 1 (.slice a 1 c) 1 [.int .i32 n] from hst2.r 0 rfl) (by intro u hu; simp at hu; subst hu; rfl)).drew
 have hsrc := hsl.src Tryz.underlying31
 have HSRC := Zhd hsrc; clear hsrc hsl
 have hm2 : MapAt w2 isStr p (l ++ [(.string m, .map (some r))]) := hst2.m 1 rfl
 have HST := Zhd hst3; clear hst3 hst2 hst1
 go_region_held3 (fun w' => MapAt w' isStr p (l ++ [(.string m, .map (some r))]))
  (first | exact hm4 | exact hm3 | exact hm2.drew | fail)
  (first
    | (refine sl_push 0 rfl rfl elI32 rfl rfl HST.out.drew rfl HSRC.out (by omega) (by omega) ?_
       intro v' w3 hst4
       simp only [Zs0, List.nil_append, Nat.zero_add] at hst4
       have hm3 : MapAt w3 isStr p (l ++ [(.string m, .map (some r))]) := hst4.m 2 rfl)
    | (refine up_upd (vv := v') 1 (fun _ _ => rfl) (keyT_str Tryz.underlying9) Tryz.underlying90 hst4 rfl ⟨_, rfl⟩ ?_
       intro w4 hst5
       simp only [Zs0, Zs1] at hst5
       have hm4 : MapAt w4 isStr p (l ++ [(.string m, .map (some r))]) := hst5.m 2 rfl)
    | fail)
 all_goals
  go_end0
  rw [putE_miss (by simp), List.nil_append] at hst5
  have h6 := hst5.front 1 rfl
  simp only [Ze0, Ze1] at h6
  have h7 := (St.oneRow h6).front 1 rfl
  simp only [Ze0, Ze1] at h7
  exact ⟨rfl, r, v', h7.noR⟩
def AddMore (p r : Nat) (t : ByteArray) (n : Int) (l : List (Value × Value)) (I : Tops) (w : World) (e : Ending) (w' : World) : Prop :=
 e = .returned (.tuple #[]) ∧ ∃ I', (topTps I').Perm (topTps I ++ [(t, n)]) ∧ (∀ y ∈ I', y.2.2 ≠ [] ∨ y ∈ I) ∧ St (foots [Rs.map p isStr l, Rs.inn r I]) w w' [Rs.map p isStr l, Rs.inn r I'] []
theorem add_more (p r : Nat) (m t : ByteArray) (n : Int) (a : Option Addr) (c : Nat) (l : List (Value × Value)) (I : Tops) (w : World) (how : Ow w ([Rs.map p isStr l, Rs.inn r I] ++ [Rs.row 21 1 (.slice a 1 c) 1 [.int .i32 n]])) (hm : (Value.string m, Value.map (some r)) ∈ l) (hb : ∀ x ∈ I, x.2.2.length ≤ 1000) :
 Calls Tryz.prog 93 #[.map (some p), .string m, .string t, .slice a 1 c] w (AddMore p r t n l I w) := by
 have hst0 : St (foots [Rs.map p isStr l, Rs.inn r I]) w w [Rs.map p isStr l, Rs.inn r I] [Rs.row 21 1 (.slice a 1 c) 1 [.int .i32 n]] := St.start how
 unfold AddMore
 generalize foots [Rs.map p isStr l, Rs.inn r I] = S at *
 have hl0 : ∀ w' ok, MapAt w' isStr p l → (Instr.lookup 82 (.map (some p)) (.string m) ok).run Tryz.prog w' = .ok (if ok then .tuple #[.map (some r), .bool true] else .map (some r)) w' := fun w' ok h' =>
  map_lookup_hit (P := Tryz.prog) h' (keyT_str Tryz.underlying9) Tryz.underlying82 hm ok
 have hlk := hl0 w true (hst0.m 0 rfl)
 simp only [if_true] at hlk
 have hl1 : ∀ w', MapAt w' isStr p l → (Instr.lookup 82 (.map (some p)) (.string m) false).run Tryz.prog w' = .ok (.map (some r)) w' := fun w' h' => by
  have := hl0 w' false h'
  simpa using this
 clear hl0
 have hm2 : MapAt w isStr p l := hst0.m 0 rfl
 have hsl : SlAt w.drew 1 (.slice a 1 c) 1 [.int .i32 n] := (own_sl (show w.ownsRow 0 21 1 (.slice a 1 c) 1 [.int .i32 n] from hst0.r 0 rfl) (by intro u hu; simp at hu; subst hu; rfl)).drew
 have hsrc := hsl.src Tryz.underlying31
 have HSRC := Zhd hsrc; clear hsrc hsl
 by_cases ht : t ∈ I.map (·.1)
 · obtain ⟨⟨t', v, xs⟩, hx, rfl⟩ := List.mem_map.1 ht
   clear ht
   have hbx := hb _ hx
   obtain ⟨A, B, rfl⟩ := List.append_of_mem hx
   clear hx hb
   simp only at hbx
   have hst1 := hst0.front 1 rfl
   simp only [Ze0, Ze1] at hst1
   have e0 : rowsI (A ++ (t', v, xs) :: B) = rowsI A ++ (.string t', v, i32s xs) :: rowsI B := by simp [rowsI]
   unfold Rs.inn at hst1
   rw [e0] at hst1
   obtain ⟨k, hst2⟩ := hst1.rowOut
   have hk : k = xs.length := by
    have h1 := (show w.ownsRow 0 21 1 v k (i32s xs) from hst2.m 1 rfl).1
    simpa [i32s] using h1.symm
   have hin : (Value.string t', v) ∈ rawR (rowsI A ++ (.string t', v, i32s xs) :: rowsI B) := by rw [rawR_append, rawR_cons]; simp
   have hmr : MapAt w isStr r (rawR (rowsI A ++ (.string t', v, i32s xs) :: rowsI B)) := hst2.m 0 rfl
   have hput := fun v' => rawR_put (v' := v') (ys := i32s xs ++ [.int .i32 n]) hmr
   have hl2 := map_lookup_hit (P := Tryz.prog) hmr.drew (keyT_str Tryz.underlying9) Tryz.underlying90 hin false
   simp only [Bool.false_eq_true, if_false] at hl2
   have hkb : k ≤ 1000 := by omega
   have HST := Zhd (Zan hst2 (Zan hk hput)); clear hst2 hst1 hst0 hk hmr hin e0 hbx hput how
   go_enter Tryz.func93, Tryz.ntmps93
   go_upto_region 4 with fail
   go_region_held3 (fun w' => MapAt w' isStr p l)
    (first | exact hm4 | exact hm3 | exact hm2.drew | fail)
    (first
      | (refine sl_push 1 rfl rfl elI32 rfl rfl HST.out.1.drew rfl HSRC.out (by omega) (by omega) ?_
         intro v' w3 hst4
         simp only [Zs0, Zs1] at hst4
         have hm3 : MapAt w3 isStr p l := hst4.m 3 rfl)
      | (refine up_upd (vv := v') 0 (fun _ _ => rfl) (keyT_str Tryz.underlying9) Tryz.underlying90 hst4 rfl ⟨_, rfl⟩ ?_
         intro w4 hst5
         simp only [Zs0, Zs1] at hst5
         have hm4 : MapAt w4 isStr p l := hst5.m 3 rfl)
      | fail)
   all_goals
    go_end0
    rw [HST.out.2.2] at hst5
    have h6 := (St.rowIn hst5).front 1 rfl
    simp only [Ze0, Ze1] at h6
    refine ⟨rfl, A ++ (t', v', xs ++ [n]) :: B, ?_, fun y hy => ?_, ?_⟩
    · simp only [topTps, List.flatMap_append, List.flatMap_cons, tpsOf, List.map_append, List.map_cons, List.map_nil, List.append_assoc]
      refine List.Perm.append_left _ (List.Perm.append_left _ ?_)
      exact List.perm_append_comm
    · rcases Zap.1 hy with hy | hy
      · exact .inr (by simp [hy])
      · rcases Zmc.1 hy with rfl | hy
        · exact .inl (by simp)
        · exact .inr (by simp [hy])
    · have e1 : rowsI (A ++ (t', v', xs ++ [n]) :: B) = rowsI A ++ (.string t', v', i32s xs ++ [.int .i32 n]) :: rowsI B := by simp [rowsI, i32s]
      unfold Rs.inn
      rw [e1]
      exact h6.noR
 · have hmiss := rawI_miss ht
   have hst1 := (hst0.front 1 rfl).unrowL.nilrow 21 1
   simp only [Ze0, Ze1] at hst1
   have hmr : MapAt w isStr r (rawR (rowsI I)) := hst1.m 1 rfl
   have hl2 := map_lookup_miss (P := Tryz.prog) hmr.drew (keyT_str Tryz.underlying9) Tryz.underlying90 (k := .string t) ⟨_, rfl⟩ hmiss (Tryz.zeroValue31 _) false
   simp only [Bool.false_eq_true, if_false] at hl2
   have HST := Zhd (Zan hst1 (Zan hmiss ht)); clear hst1 hst0 hmr hmiss ht how hb
   go_enter Tryz.func93, Tryz.ntmps93
   go_upto_region 4 with fail
   go_region_held3 (fun w' => MapAt w' isStr p l)
    (first | exact hm4 | exact hm3 | exact hm2.drew | fail)
    (first
      | (refine sl_push 0 rfl rfl elI32 rfl rfl HST.out.1.drew rfl HSRC.out (by omega) (by omega) ?_
         intro v' w3 hst4
         simp only [Zs0, List.nil_append, Nat.zero_add] at hst4
         have hm3 : MapAt w3 isStr p l := hst4.m 3 rfl)
      | (refine up_upd (vv := v') 1 (fun _ _ => rfl) (keyT_str Tryz.underlying9) Tryz.underlying90 hst4 rfl ⟨_, rfl⟩ ?_
         intro w4 hst5
         simp only [Zs0, Zs1] at hst5
         have hm4 : MapAt w4 isStr p l := hst5.m 3 rfl)
      | fail)
   all_goals
    go_end0
    rw [putE_miss HST.out.2.1] at hst5
    have e0 : rawR (rowsI I) ++ [(Value.string t, v')] = rawR (rowsI I ++ [(.string t, v', [.int .i32 n])]) := by rw [rawR_append, rawR_cons]; simp [rawR]
    rw [e0] at hst5
    have h6 := hst5.front 1 rfl
    simp only [Ze0, Ze1] at h6
    have h7 := (St.rowJoin h6).front 1 rfl
    simp only [Ze0, Ze1] at h7
    refine ⟨rfl, I ++ [(t, v', [n])], ?_, fun y hy => ?_, ?_⟩
    · simp [topTps, tpsOf]
    · rcases Zap.1 hy with hy | hy
      · exact .inr hy
      · simp only [Zmc, Znn, or_false] at hy
        subst hy; exact .inl (by simp)
    · have e1 : rowsI (I ++ [(t, v', [n])]) = rowsI I ++ [(.string t, v', [.int .i32 n])] := by simp [rowsI, i32s]
      unfold Rs.inn
      rw [e1]
      exact h7.noR
end
end Go.Proofs.YticcnlpfmekagaaGreat
