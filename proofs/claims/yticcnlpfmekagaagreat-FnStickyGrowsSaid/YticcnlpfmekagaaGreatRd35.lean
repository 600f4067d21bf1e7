/- Part 35 of 51 of the proof of the row: the texts StIter, StDraw. -/
import Derived.Test.YticcnlpfmekagaaGreatRd19
namespace Go.Proofs.YticcnlpfmekagaaGreat
open Go Go.RowKit
open Classical
set_option linter.unusedVariables false
set_option linter.unusedSimpArgs false

/-! ## A row of a map of rows replaced by a row of one's own, while the map is ranged over -/
section
variable {P : Program} {ops : Array Oper} {o : Oper} {a : Act} {w : World} {rest : List Oper} {Q : Exit → Act → World → Prop}
variable {V : Value → Prop} {T kT eT : TypeId} {m x y : Operand} {kv vv : Value}
variable {S : List Nat} {w0 : World} {M R : List Res} {E sz : Nat}
theorem wl_rowset (i : Nat) {A B : List MRow} {kx : Operand} {rb n it : Nat} {v v' : Value} {xs ys : List Value} {left : List (Value × Value)} {hr : rb ∈ (Rs.rows V rb E sz (A ++ (kv, v, xs) :: B)).foot} (hr' : rb ∈ (Rs.rows V rb E sz (A ++ (kv, v', ys) :: B)).foot)
    (hgd : o.guard = none) (ho : o.op = .mapUpdate T m kx y) (hm : a.eval m = .map (some rb)) (hkx : a.eval kx = kv) (hy : a.eval y = v') (K0 : KeyT P kT V) (hT : P.underlying T = some (.map kT eT))
    (hst : St S w0 w (Rs.row E sz v' n ys :: M) R) (hi : M[i]? = some (Rs.it (Rs.rows V rb E sz (A ++ (kv, v, xs) :: B)) rb (rawR (A ++ (kv, v, xs) :: B)) left it hr)) (hout : ∀ u, (kv, u) ∉ left)
    (h : ∀ w', St S w0 w' (M.set i (Rs.it (Rs.rows V rb E sz (A ++ (kv, v', ys) :: B)) rb (rawR (A ++ (kv, v', ys) :: B)) left it hr')) R → wpList P ops Q rest (a.put o.dst undef) w') : wpList P ops Q (o :: rest) a w := by
  have hrow : w.ownsRow 0 E sz v' n ys := hst.m 0 rfl
  obtain ⟨hrows, hiter, hnot⟩ : RowsAt w V rb E sz (A ++ (kv, v, xs) :: B) ∧ IterAt w it rb (rawR (A ++ (kv, v, xs) :: B)) left ∧ it ∉ (Rs.rows V rb E sz (A ++ (kv, v, xs) :: B)).foot := hst.m (i + 1) (by simpa using hi)
  obtain ⟨C, D, hM, hl⟩ := split_at hi
  have hdis : ∀ g ∈ v'.ownBlock.toList, g ∉ (rb :: footR (A ++ (kv, v, xs) :: B)) ++ [it] := by
    intro g hg hx
    have hd := hst.ow.dis
    rw [List.cons_append, List.pairwise_cons] at hd
    exact hd.1 _ (by simp only [List.mem_append]; exact .inl (List.mem_of_getElem? hi)) g hg hx
  have hne : it ≠ rb := iter_ne hiter
  have hV : V kv := hrows.map.keys (kv, v) (by rw [rawR_append, rawR_cons]; simp)
  obtain ⟨w2, hrun, h4, h5, h6, h7⟩ := map_update_iter (P := P) hrows.map K0 hT hV v' hiter hne ⟨v, by rw [rawR_append, rawR_cons]; simp⟩ hout
  have hn := hrows.map.nodup
  rw [rawR_append, rawR_cons] at hn h4 h7
  rw [putE_hit hn, ← rawR_cons (kv, v', ys), ← rawR_append] at h4 h7
  have hd := hrows.dis
  rw [List.nodup_cons, footR_append, footR_cons] at hd
  obtain ⟨hd1, hd2⟩ := hd
  simp only [List.mem_append, not_or] at hd1
  have hnew : RowsAt w2 V rb E sz (A ++ (kv, v', ys) :: B) := by
    have hold : ∀ x ∈ A ++ (kv, v, xs) :: B, ∃ n, w2.ownsRow 0 E sz x.2.1 n x.2.2 := fun x hx => by
      obtain ⟨n', hn'⟩ := hrows.each x hx
      exact ⟨n', own_kept hn' h5 (fun g hg e => by
        simp only [List.mem_cons, List.not_mem_nil, or_false] at e
        subst e
        exact (List.nodup_cons.1 hrows.dis).1 (List.mem_flatMap.2 ⟨x, hx, by simp [hg]⟩))⟩
    have hv'1 : ∀ g ∈ v'.ownBlock.toList, g ≠ rb ∧ g ∉ footR A ∧ g ∉ footR B := fun g hg => by
      have := hdis g hg
      simp only [footR_append, footR_cons, List.mem_append, List.mem_cons, not_or] at this
      exact ⟨this.1.1, this.1.2.1, this.1.2.2.2⟩
    refine ⟨h4, fun x hx => ?_, ?_⟩
    · rcases List.mem_append.1 hx with hx | hx
      · exact hold x (by simp [hx])
      · rcases List.mem_cons.1 hx with rfl | hx
        · exact ⟨n, own_kept hrow h5 (fun g hg e => by
            simp only [List.mem_cons, List.not_mem_nil, or_false] at e
            exact (hv'1 g (by simp [hg])).1 e)⟩
        · exact hold x (by simp [hx])
    · rw [footR_append, footR_cons]
      have h8 := List.nodup_append.1 hd2
      have h9 := List.nodup_append.1 h8.2.1
      refine List.nodup_cons.2 ⟨fun hx => ?_, List.nodup_append.2 ⟨h8.1, List.nodup_append.2 ⟨by cases v'.ownBlock <;> simp, h9.2.1, fun g hg b hb e => ?_⟩, fun g hg b hb e => ?_⟩⟩
      · rcases List.mem_append.1 hx with hx | hx
        · exact hd1.1 hx
        · rcases List.mem_append.1 hx with hx | hx
          · exact (hv'1 rb hx).1 rfl
          · exact hd1.2.2 hx
      · subst e; exact (hv'1 g hg).2.2 hb
      · subst e
        rcases List.mem_append.1 hb with hb | hb
        · exact (hv'1 g hb).2.1 hg
        · exact h8.2.2 g hg g (by simp [hb]) rfl
  have h7' : St S w0 w (Rs.row E sz v' n ys :: Rs.it (Rs.rows V rb E sz (A ++ (kv, v, xs) :: B)) rb (rawR (A ++ (kv, v, xs) :: B)) left it hr :: (C ++ D)) R := by
    rw [hM] at hst
    exact hst.perm (List.Perm.cons _ List.perm_middle)
  have hff : ∀ g ∈ (Rs.it (Rs.rows V rb E sz (A ++ (kv, v', ys) :: B)) rb (rawR (A ++ (kv, v', ys) :: B)) left it hr').foot, g ∈ foots [Rs.row E sz v' n ys, Rs.it (Rs.rows V rb E sz (A ++ (kv, v, xs) :: B)) rb (rawR (A ++ (kv, v, xs) :: B)) left it hr] := by
    intro g hg
    simp only [Rs.it, Rs.rows, footR_append, footR_cons, List.mem_cons, List.mem_append, List.not_mem_nil, or_false] at hg
    simp only [foots, List.flatMap_cons, List.flatMap_nil, List.append_nil, List.mem_append, Rs.row, Rs.it, Rs.rows, List.mem_cons, footR_append, footR_cons, List.not_mem_nil, or_false]
    rcases hg with (h1 | h1 | h1 | h1) | h1
    · exact .inr (.inl (.inl h1))
    · exact .inr (.inl (.inr (.inl h1)))
    · exact .inl h1
    · exact .inr (.inl (.inr (.inr (.inr h1))))
    · exact .inr (.inr h1)
  have h8 : St (foots [Rs.row E sz v' n ys, Rs.it (Rs.rows V rb E sz (A ++ (kv, v, xs) :: B)) rb (rawR (A ++ (kv, v, xs) :: B)) left it hr]) w w2 [Rs.it (Rs.rows V rb E sz (A ++ (kv, v', ys) :: B)) rb (rawR (A ++ (kv, v', ys) :: B)) left it hr'] [] := by
    refine ⟨h5.mono (fun g hg _ => by simp at hg; subst hg; simp [foots, Rs.it, Rs.rows]), Ow.one ⟨hnew, h7, ?_⟩ (fun g hg => ?_), fun g hg => .inl (hff g (by simpa [foots] using hg))⟩
    · intro hx
      simp only [Rs.rows, footR_append, footR_cons, List.mem_cons, List.mem_append] at hx
      simp only [Rs.rows, footR_append, footR_cons, List.mem_cons, List.mem_append, not_or] at hnot
      rcases hx with h1 | h1 | h1 | h1
      · exact hnot.1 h1
      · exact hnot.2.1 h1
      · exact hdis it h1 (by simp)
      · exact hnot.2.2.2 h1
    · have := hff g hg
      rw [h6]
      exact h7'.ow.lt g (by
        rw [show Rs.row E sz v' n ys :: Rs.it (Rs.rows V rb E sz (A ++ (kv, v, xs) :: B)) rb (rawR (A ++ (kv, v, xs) :: B)) left it hr :: (C ++ D) = [Rs.row E sz v' n ys, Rs.it (Rs.rows V rb E sz (A ++ (kv, v, xs) :: B)) rb (rawR (A ++ (kv, v, xs) :: B)) left it hr] ++ (C ++ D) from rfl, List.append_assoc, foots_append]
        simp only [List.mem_append]; exact .inl this)
  have h9 : St S w0 w2 (Rs.it (Rs.rows V rb E sz (A ++ (kv, v', ys) :: B)) rb (rawR (A ++ (kv, v', ys) :: B)) left it hr' :: (C ++ D)) R := St.call (M1 := [Rs.row E sz v' n ys, Rs.it (Rs.rows V rb E sz (A ++ (kv, v, xs) :: B)) rb (rawR (A ++ (kv, v, xs) :: B)) left it hr]) (M2 := C ++ D) h7' h8
  refine wl_of hgd fun _ hh => ?_
  refine wp_skip' (w' := w2) ?_ (hh _ _ (h w2 ?_))
  · simp only [execOp, ho, hm, hkx, hy, Sem.run_bind, hrun, Result.andThen_ok]; rfl
  rw [hM, ← hl]
  have : (C ++ Rs.it (Rs.rows V rb E sz (A ++ (kv, v, xs) :: B)) rb (rawR (A ++ (kv, v, xs) :: B)) left it hr :: D).set C.length (Rs.it (Rs.rows V rb E sz (A ++ (kv, v', ys) :: B)) rb (rawR (A ++ (kv, v', ys) :: B)) left it hr') = C ++ Rs.it (Rs.rows V rb E sz (A ++ (kv, v', ys) :: B)) rb (rawR (A ++ (kv, v', ys) :: B)) left it hr' :: D := by simp
  rw [this]
  exact h9.perm List.perm_middle.symm
end

/-! ## A row taken out of its map, and put back; an entry of a map under way -/
def Rs.loose (E sz : Nat) (L : List MRow) : Res where
  foot := footR L
  holds := fun w => (∀ x ∈ L, ∃ n, w.ownsRow 0 E sz x.2.1 n x.2.2) ∧ (footR L).Nodup
  stable := fun w w' S k hs h => ⟨fun x hx => by
    obtain ⟨n, hn⟩ := h.1 x hx
    exact ⟨n, own_kept hn k (fun g hg => hs g (List.mem_flatMap.2 ⟨x, hx, by simp [hg]⟩))⟩, h.2⟩
/-- a map, an entry of which is under way -/
def Rs.ent (r : Nat) (V : Value → Prop) (l : List (Value × Value)) (kv : Value) (s : Nat) : Res where
  foot := [r]
  holds := fun w => MapAt w V r l ∧ StampAt w r kv s
  stable := fun w w' S k hs h => ⟨h.1.kept k (hs r (by simp)), h.2.kept k (hs r (by simp))⟩
section
variable {S : List Nat} {w0 w : World} {M R : List Res} {V : Value → Prop} {r E sz n : Nat} {A B : List MRow} {kv v : Value} {xs : List Value}
theorem St.rowOut (h : St S w0 w (Rs.rows V r E sz (A ++ (kv, v, xs) :: B) :: M) R) :
    ∃ n, St S w0 w (Rs.map r V (rawR (A ++ (kv, v, xs) :: B)) :: Rs.row E sz v n xs :: Rs.loose E sz (A ++ B) :: M) R := by
  have hrows : RowsAt w V r E sz (A ++ (kv, v, xs) :: B) := h.m 0 rfl
  obtain ⟨n, hn⟩ := hrows.each (kv, v, xs) (by simp)
  have hlt := h.lt 0 (X := Rs.rows V r E sz (A ++ (kv, v, xs) :: B)) rfl
  have hd := hrows.dis
  rw [List.nodup_cons, footR_append, footR_cons] at hd
  obtain ⟨d0, d1⟩ := hd
  have d2 := List.nodup_append.1 d1
  have d3 := List.nodup_append.1 d2.2.1
  simp only [List.mem_append, not_or] at d0
  have hff : ∀ g ∈ foots [Rs.map r V (rawR (A ++ (kv, v, xs) :: B)), Rs.row E sz v n xs, Rs.loose E sz (A ++ B)], g ∈ (Rs.rows V r E sz (A ++ (kv, v, xs) :: B)).foot := by
    intro g hg
    simp only [foots, List.flatMap_cons, List.flatMap_nil, List.append_nil, List.mem_append, Rs.map, Rs.row, Rs.loose, footR_append, List.mem_cons, List.not_mem_nil, or_false] at hg
    simp only [Rs.rows, footR_append, footR_cons, List.mem_cons, List.mem_append]
    grind
  refine ⟨n, St.call (M1 := [Rs.rows V r E sz (A ++ (kv, v, xs) :: B)]) (M1' := [Rs.map r V (rawR (A ++ (kv, v, xs) :: B)), Rs.row E sz v n xs, Rs.loose E sz (A ++ B)]) (G := []) (M2 := M) h ⟨Kept.refl _ _, ⟨?_, ?_, ?_⟩, fun g hg => .inl (by simpa [foots] using hff g hg)⟩⟩
  · intro X hX
    simp only [List.append_nil, List.mem_cons, List.not_mem_nil, or_false] at hX
    rcases hX with rfl | rfl | rfl
    · exact hrows.map
    · exact hn
    · refine ⟨fun x hx => hrows.each x (by simp only [List.mem_append, List.mem_cons] at hx ⊢; grind), ?_⟩
      rw [footR_append]
      exact List.nodup_append.2 ⟨d2.1, d3.2.1, fun a ha b hb => d2.2.2 a ha b (by simp [hb])⟩
  · intro g hg
    exact hlt g (hff g (by simpa using hg))
  · simp only [List.append_nil, List.pairwise_cons, List.mem_cons, List.not_mem_nil, or_false, forall_eq_or_imp, forall_eq, false_implies, implies_true, List.Pairwise.nil, and_true]
    refine ⟨⟨fun g hg hx => ?_, fun g hg hx => ?_⟩, fun g hg hx => ?_⟩
    · simp only [Rs.map, List.mem_cons, List.not_mem_nil, or_false] at hg
      subst hg
      exact d0.2.1 hx
    · simp only [Rs.map, List.mem_cons, List.not_mem_nil, or_false] at hg
      subst hg
      simp only [Rs.loose, footR_append, List.mem_append] at hx
      grind
    · simp only [Rs.loose, footR_append, List.mem_append] at hx
      rcases hx with hx | hx
      · exact d2.2.2 g hx g (by simp only [List.mem_append]; exact .inl hg) rfl
      · exact d3.2.2 g hg g hx rfl
theorem St.rowIn (h : St S w0 w (Rs.map r V (rawR (A ++ (kv, v, xs) :: B)) :: Rs.row E sz v n xs :: Rs.loose E sz (A ++ B) :: M) R) : St S w0 w (Rs.rows V r E sz (A ++ (kv, v, xs) :: B) :: M) R := by
  have h1 : MapAt w V r (rawR (A ++ (kv, v, xs) :: B)) := h.m 0 rfl
  have h2 : w.ownsRow 0 E sz v n xs := h.m 1 rfl
  obtain ⟨h3, h4⟩ : (∀ x ∈ A ++ B, ∃ n, w.ownsRow 0 E sz x.2.1 n x.2.2) ∧ (footR (A ++ B)).Nodup := h.m 2 rfl
  have h0 : St S w0 w ([Rs.map r V (rawR (A ++ (kv, v, xs) :: B)), Rs.row E sz v n xs, Rs.loose E sz (A ++ B)] ++ M) R := h
  have how : Ow w [Rs.map r V (rawR (A ++ (kv, v, xs) :: B)), Rs.row E sz v n xs, Rs.loose E sz (A ++ B)] := h0.ow.left.left
  have hd := how.dis
  simp only [List.pairwise_cons, List.mem_cons, List.not_mem_nil, or_false, forall_eq_or_imp, forall_eq, false_implies, implies_true, List.Pairwise.nil, and_true] at hd
  obtain ⟨⟨d1, d2⟩, d3⟩ := hd
  have hff : ∀ g ∈ (Rs.rows V r E sz (A ++ (kv, v, xs) :: B)).foot, g ∈ foots [Rs.map r V (rawR (A ++ (kv, v, xs) :: B)), Rs.row E sz v n xs, Rs.loose E sz (A ++ B)] := by
    intro g hg
    simp only [foots, List.flatMap_cons, List.flatMap_nil, List.append_nil, List.mem_append, Rs.map, Rs.row, Rs.loose, footR_append, List.mem_cons, List.not_mem_nil, or_false]
    simp only [Rs.rows, footR_append, footR_cons, List.mem_cons, List.mem_append] at hg
    grind
  have e1 : r ∉ v.ownBlock.toList := d1 r (by simp [Rs.map])
  have e2 : r ∉ footR (A ++ B) := d2 r (by simp [Rs.map])
  have e3 : ∀ g ∈ v.ownBlock.toList, g ∉ footR (A ++ B) := d3
  rw [footR_append] at h4 e2 e3
  have h5 := List.nodup_append.1 h4
  simp only [List.mem_append, not_or] at e2
  have hrows : RowsAt w V r E sz (A ++ (kv, v, xs) :: B) := by
    refine ⟨h1, fun x hx => ?_, ?_⟩
    · rcases List.mem_append.1 hx with hx | hx
      · exact h3 x (by simp [hx])
      · rcases List.mem_cons.1 hx with rfl | hx
        · exact ⟨n, h2⟩
        · exact h3 x (by simp [hx])
    · rw [footR_append, footR_cons]
      refine List.nodup_cons.2 ⟨fun hx => ?_, List.nodup_append.2 ⟨h5.1, List.nodup_append.2 ⟨by cases v.ownBlock <;> simp, h5.2.1, fun g hg b hb e => ?_⟩, fun g hg b hb e => ?_⟩⟩
      · simp only [List.mem_append] at hx
        grind
      · subst e; exact e3 g hg (by simp [hb])
      · subst e
        rcases List.mem_append.1 hb with hb | hb
        · exact e3 g hb (by simp [hg])
        · exact h5.2.2 g hg g hb rfl
  exact St.call (M1 := [Rs.map r V (rawR (A ++ (kv, v, xs) :: B)), Rs.row E sz v n xs, Rs.loose E sz (A ++ B)]) (M1' := [Rs.rows V r E sz (A ++ (kv, v, xs) :: B)]) (G := []) (M2 := M) h0
    ⟨Kept.refl _ _, Ow.one hrows (fun g hg => how.lt g (hff g hg)), fun g hg => .inl (hff g (by simpa [foots] using hg))⟩
end
section
variable {P : Program} {ops : Array Oper} {o : Oper} {a : Act} {w : World} {rest : List Oper} {Q : Exit → Act → World → Prop}
variable {V : Value → Prop} {r s : Nat} {l : List (Value × Value)} {T kT eT : TypeId} {m x y : Operand} {kv vv z : Value}
variable {S : List Nat} {w0 : World} {M R : List Res}
theorem wl_ment (i : Nat) (hgd : o.guard = none) (hop : o.op = .mapEntry T m x) (hm : a.eval m = .map (some r)) (hk : a.eval x = kv) (K0 : KeyT P kT V) (hT : P.underlying T = some (.map kT eT)) (hst : St S w0 w M R) (hi : M[i]? = some (Rs.map r V l)) (hin : (kv, vv) ∈ l)
    (hK : ∀ (s : Nat) w', St S w0 w' (M.set i (Rs.ent r V l kv s)) R → wpList P ops Q rest (a.put o.dst (.tuple #[vv, .int .i64 s])) w') : wpList P ops Q (o :: rest) a w := by
  obtain ⟨w', s, hrun, h1, h2, h3, h4⟩ := map_mentry_hit (P := P) (hst.m i hi) K0 hT hin
  refine wl_val (v := .tuple #[vv, .int .i64 s]) (w' := w') hgd ?_ (hK s w' (hst.set i hi h3 (by simp [Rs.map]) ⟨h1, h2⟩ (fun g hg => .inl hg)))
  simp only [execOp, hop, hm, hk, Sem.run_bind, hrun, Result.andThen_ok]; rfl
theorem wl_mentN (i : Nat) (hgd : o.guard = none) (hop : o.op = .mapEntry T m x) (hm : a.eval m = .map (some r)) (hk : a.eval x = kv) (K0 : KeyT P kT V) (hT : P.underlying T = some (.map kT eT)) (hst : St S w0 w M R) (hi : M[i]? = some (Rs.map r V l)) (hV : V kv) (hno : ∀ v, (kv, v) ∉ l) (hz : (zeroValue eT).run P w = .ok z w)
    (hK : ∀ (s : Nat) w', St S w0 w' (M.set i (Rs.ent r V (l ++ [(kv, z)]) kv s)) R → wpList P ops Q rest (a.put o.dst (.tuple #[z, .int .i64 s])) w') : wpList P ops Q (o :: rest) a w := by
  obtain ⟨w', s, hrun, h1, h2, h3, h4⟩ := map_mentry_miss (P := P) (hst.m i hi) K0 hT hV hno hz
  refine wl_val (v := .tuple #[z, .int .i64 s]) (w' := w') hgd ?_ (hK s w' (hst.set i hi h3 (by simp [Rs.map]) ⟨h1, h2⟩ (fun g hg => .inl hg)))
  simp only [execOp, hop, hm, hk, Sem.run_bind, hrun, Result.andThen_ok]; rfl
theorem wl_estore (i : Nat) (hgd : o.guard = none) (hop : o.op = .entryStore T m x y) (hm : a.eval m = .map (some r)) (hs : a.eval x = .int .i64 (s : Nat)) (hv : a.eval y = vv) (hst : St S w0 w M R) (hi : M[i]? = some (Rs.ent r V l kv s))
    (hK : ∀ w', St S w0 w' (M.set i (Rs.map r V (putE l kv vv))) R → wpList P ops Q rest (a.put o.dst undef) w') : wpList P ops Q (o :: rest) a w := by
  obtain ⟨w', hrun, h1, h2, h3⟩ := map_estore (P := P) (T := T) (hst.m i hi).1 (hst.m i hi).2 vv
  refine wl_of hgd fun _ hh => ?_
  refine wp_skip' (w' := w') ?_ (hh _ _ (hK w' (hst.set i hi h2 (by simp [Rs.ent]) h1 (fun g hg => .inl hg))))
  simp only [execOp, hop, hm, hs, hv, Sem.run_bind, hrun, Result.andThen_ok]; rfl
/-- the value of one key changed, as rows tell it -/
theorem rawR_put {A B : List MRow} {kv v v' : Value} {xs ys : List Value} {w : World} {V : Value → Prop} {r : Nat} (h : MapAt w V r (rawR (A ++ (kv, v, xs) :: B))) : putE (rawR (A ++ (kv, v, xs) :: B)) kv v' = rawR (A ++ (kv, v', ys) :: B) := by
  have hn := h.nodup
  rw [rawR_append, rawR_cons] at hn ⊢
  rw [putE_hit hn, rawR_append, rawR_cons]
end
end Go.Proofs.YticcnlpfmekagaaGreat
namespace Go.Proofs.YticcnlpfmekagaaGreat
open Go Go.RowKit
open Classical
set_option linter.unusedVariables false
set_option linter.unusedSimpArgs false

/-! ## Append to a row, and a map's update, in a drawn region -/
section
variable {P : Program} {ops : Array Oper} {o : Oper} {a : Act} {w : World} {K : Act → World → Prop} {Q : Exit → Act → World → Prop} {G : Prop}
variable {V : Value → Prop} {r : Nat} {l : List (Value × Value)} {T kT eT : TypeId} {m x y s : Operand} {kv vv : Value}
variable {S : List Nat} {w0 : World} {M R : List Res} {E sz bytes n k : Nat} {z v xv : Value} {xs ys : List Value} {tx : TypeId}
theorem sl_push (i : Nat) (hgd : o.guard = none) (ho : o.op = .call { callee := .builtin .append, args := #[s, x], argTypes := #[T, tx] }) (el : Elem P T E sz bytes z) (hs : a.eval s = v) (hx : a.eval x = xv)
    (hst : St S w0 w M R) (hi : M[i]? = some (Rs.row E sz v n xs)) (hsrc : Src P sz tx xv k ys w) (hb : (4 * (n + k) + 1024) * bytes ≤ 281474976710656) (hm : n + k ≤ 281474976710656)
    (h : ∀ v' w', St S w0 w' (M.set i (Rs.row E sz v' (n + k) (xs ++ ys))) R → K (a.put o.dst v') w') : if Region.wanted o (yielded ops a.tmps) = true then Oper.wp P o a w K Q else G :=
  sl_app hgd ho el hs hx (hst.m i hi) hsrc hb hm fun v' w' h1 h2 h3 => h v' w' (hst.set i hi h2 (fun g hg _ => hg) h1 (fun g hg => by
    rcases h3 with ⟨e1, e2⟩ | ⟨e1, e2⟩
    · left; simpa [Rs.row, e1] using hg
    · right; simp [Rs.row, e1] at hg; omega))
theorem up_upd (i : Nat) {f : Unit → World → Result Next} (hf : ∀ u w', f u w' = .ok .skip w') (K0 : KeyT P kT V) (hT : P.underlying T = some (.map kT eT)) (hst : St S w0 w M R) (hi : M[i]? = some (Rs.map r V l)) (hV : V kv)
    (hK : ∀ w', St S w0 w' (M.set i (Rs.map r V (putE l kv vv))) R → K (a.put o.dst undef) w') : Oper.upon P o a K Q ((Sem.run P (Instr.mapUpdate T (.map (some r)) kv vv) w).andThen f) :=
  up_update hf K0 hT (hst.m i hi) hV fun w' h1 h2 h3 => hK w' (hst.set i hi h2 (by simp [Rs.map]) h1 (fun g hg => .inl hg))
/-- a row, and a map at a new key: a map of rows with one more -/
theorem St.rowJoin {L : List MRow} {n : Nat} (h : St S w0 w (Rs.map r V (rawR (L ++ [(kv, v, xs)])) :: Rs.row E sz v n xs :: Rs.loose E sz L :: M) R) : St S w0 w (Rs.rows V r E sz (L ++ [(kv, v, xs)]) :: M) R :=
  St.rowIn (A := L) (B := []) (by rw [List.append_nil]; exact h)
theorem St.oneRow {n : Nat} (h : St S w0 w (Rs.map r V [(kv, v)] :: Rs.row E sz v n xs :: M) R) : St S w0 w (Rs.rows V r E sz [(kv, v, xs)] :: M) R := by
  have h1 : St S w0 w (Rs.loose E sz [] :: Rs.map r V [(kv, v)] :: Rs.row E sz v n xs :: M) R := h.push (Kept.refl _ _) ⟨by simp, by simp [footR]⟩ (by simp [Rs.loose, footR])
  have h2 := (h1.front 1 rfl).front 2 rfl
  have h3 := h2.front 1 rfl
  exact St.rowJoin (L := []) h3
theorem St.unrowL {L : List MRow} (h : St S w0 w (Rs.rows V r E sz L :: M) R) : St S w0 w (Rs.map r V (rawR L) :: Rs.loose E sz L :: M) R := by
  have hrows : RowsAt w V r E sz L := h.m 0 rfl
  have hlt := h.lt 0 (X := Rs.rows V r E sz L) rfl
  have hd := hrows.dis
  rw [List.nodup_cons] at hd
  have hff : ∀ g ∈ foots [Rs.map r V (rawR L), Rs.loose E sz L], g ∈ (Rs.rows V r E sz L).foot := by
    intro g hg
    simp only [foots, List.flatMap_cons, List.flatMap_nil, List.append_nil, List.mem_append, Rs.map, Rs.loose, List.mem_cons, List.not_mem_nil, or_false] at hg
    simp only [Rs.rows, List.mem_cons]
    exact hg
  refine St.call (M1 := [Rs.rows V r E sz L]) (M1' := [Rs.map r V (rawR L), Rs.loose E sz L]) (G := []) (M2 := M) h ⟨Kept.refl _ _, ⟨?_, fun g hg => hlt g (hff g (by simpa using hg)), ?_⟩, fun g hg => .inl (by simpa [foots] using hff g hg)⟩
  · intro X hX
    simp only [List.append_nil, List.mem_cons, List.not_mem_nil, or_false] at hX
    rcases hX with rfl | rfl
    · exact hrows.map
    · exact ⟨hrows.each, hd.2⟩
  · simp only [List.append_nil, List.pairwise_cons, List.mem_cons, List.not_mem_nil, or_false, forall_eq, false_implies, implies_true, List.Pairwise.nil, and_true]
    intro g hg hx
    simp only [Rs.map, List.mem_cons, List.not_mem_nil, or_false] at hg
    subst hg
    exact hd.1 hx
end
end Go.Proofs.YticcnlpfmekagaaGreat
