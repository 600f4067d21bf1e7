import Derived.Test.YticcnlpfmekagaaGreatMap
import Derived.Deep.AppendLies
namespace Go.Proofs.YticcnlpfmekagaaGreat
open Go Go.RowKit
open Classical
set_option linter.unusedVariables false
set_option linter.unusedSimpArgs false

/-! ## Operations by their run: in a plain region ('wl_..') and in one that draws ('sl_..') -/
section
variable {P : Program} {ops : Array Oper} {o : Oper} {a : Act} {w : World} {rest : List Oper} {K : Act → World → Prop} {Q : Exit → Act → World → Prop} {E : Prop}

theorem wp_val {v : Value} {w' : World} (hrun : (execOp a.eval o).run P w = .ok (.value v) w') (h : K (a.put o.dst v) w') : Oper.wp P o a w K Q := by
  unfold Oper.wp; rw [hrun]; exact h
theorem wp_skip' {w' : World} (hrun : (execOp a.eval o).run P w = .ok .skip w') (h : K (a.put o.dst undef) w') : Oper.wp P o a w K Q := by
  unfold Oper.wp; rw [hrun]; exact h
theorem wl_of (hgd : o.guard = none) (h : ∀ K : Act → World → Prop, (∀ a w, wpList P ops Q rest a w → K a w) → Oper.wp P o a w K Q) : wpList P ops Q (o :: rest) a w := by
  have hw : Region.wanted o (yielded ops a.tmps) = true := by simp [Region.wanted, hgd]
  simp only [wpList, hw, if_true]
  exact Or.inl (h _ fun _ _ h => h)
theorem sl_of (hgd : o.guard = none) (h : Oper.wp P o a w K Q) : if Region.wanted o (yielded ops a.tmps) = true then Oper.wp P o a w K Q else E := by
  have hw : Region.wanted o (yielded ops a.tmps) = true := by simp [Region.wanted, hgd]
  rw [if_pos hw]; exact h
theorem wl_val (hgd : o.guard = none) {v : Value} {w' : World} (hrun : (execOp a.eval o).run P w = .ok (.value v) w') (h : wpList P ops Q rest (a.put o.dst v) w') : wpList P ops Q (o :: rest) a w :=
  wl_of hgd fun _ hK => wp_val hrun (hK _ _ h)
theorem sl_val (hgd : o.guard = none) {v : Value} {w' : World} (hrun : (execOp a.eval o).run P w = .ok (.value v) w') (h : K (a.put o.dst v) w') : if Region.wanted o (yielded ops a.tmps) = true then Oper.wp P o a w K Q else E :=
  sl_of hgd (wp_val hrun h)

variable {V : Value → Prop} {r : Nat} {l : List (Value × Value)} {T kT eT : TypeId} {m x y : Operand} {kv vv : Value}

theorem wp_update (hop : o.op = .mapUpdate T m x y) (hm : a.eval m = .map (some r)) (hk : a.eval x = kv) (hv : a.eval y = vv) (K0 : KeyT P kT V) (hT : P.underlying T = some (.map kT eT)) (h : MapAt w V r l) (hV : V kv)
    (hK : ∀ w', MapAt w' V r (putE l kv vv) → Kept [r] w w' → w'.heap.size = w.heap.size → K (a.put o.dst undef) w') : Oper.wp P o a w K Q := by
  obtain ⟨w', hrun, h1, h2, h3⟩ := map_update h K0 hT hV vv
  refine wp_skip' (w' := w') ?_ (hK _ h1 h2 h3)
  simp only [execOp, hop, hm, hk, hv, Sem.run_bind, hrun, Result.andThen_ok]; rfl
theorem wl_update (hgd : o.guard = none) (hop : o.op = .mapUpdate T m x y) (hm : a.eval m = .map (some r)) (hk : a.eval x = kv) (hv : a.eval y = vv) (K0 : KeyT P kT V) (hT : P.underlying T = some (.map kT eT)) (h : MapAt w V r l) (hV : V kv)
    (hK : ∀ w', MapAt w' V r (putE l kv vv) → Kept [r] w w' → w'.heap.size = w.heap.size → wpList P ops Q rest (a.put o.dst undef) w') : wpList P ops Q (o :: rest) a w :=
  wl_of hgd fun _ hh => wp_update hop hm hk hv K0 hT h hV (fun w' h1 h2 h3 => hh _ _ (hK w' h1 h2 h3))
theorem sl_update (hgd : o.guard = none) (hop : o.op = .mapUpdate T m x y) (hm : a.eval m = .map (some r)) (hk : a.eval x = kv) (hv : a.eval y = vv) (K0 : KeyT P kT V) (hT : P.underlying T = some (.map kT eT)) (h : MapAt w V r l) (hV : V kv)
    (hK : ∀ w', MapAt w' V r (putE l kv vv) → Kept [r] w w' → w'.heap.size = w.heap.size → K (a.put o.dst undef) w') : if Region.wanted o (yielded ops a.tmps) = true then Oper.wp P o a w K Q else E :=
  sl_of hgd (wp_update hop hm hk hv K0 hT h hV hK)

/-- the same where the walk has begun to run the operation -/
theorem up_update {f : Unit → World → Result Next} (hf : ∀ u w', f u w' = .ok .skip w') (K0 : KeyT P kT V) (hT : P.underlying T = some (.map kT eT)) (h : MapAt w V r l) (hV : V kv)
    (hK : ∀ w', MapAt w' V r (putE l kv vv) → Kept [r] w w' → w'.heap.size = w.heap.size → K (a.put o.dst undef) w') : Oper.upon P o a K Q ((Sem.run P (Instr.mapUpdate T (.map (some r)) kv vv) w).andThen f) := by
  obtain ⟨w', hrun, h1, h2, h3⟩ := map_update h K0 hT hV vv
  rw [hrun, Result.andThen_ok, hf, Oper.upon_skip]
  exact hK _ h1 h2 h3
theorem wp_range (hop : o.op = .range T m) (hm : a.eval m = .map (some r)) (hT : P.underlying T = some (.map kT eT)) (h : MapAt w V r l)
    (hK : ∀ w', IterAt w' w.heap.size r l l → MapAt w' V r l → Kept [] w w' → w'.heap.size = w.heap.size + 1 → K (a.put o.dst (.pointer (some ⟨w.heap.size, 0, none⟩))) w') : Oper.wp P o a w K Q := by
  obtain ⟨w', hrun, h1, h2, h3, h4⟩ := map_range h hT
  refine wp_val (w' := w') (v := .pointer (some ⟨w.heap.size, 0, none⟩)) ?_ (hK _ h1 h4 h2 h3)
  simp only [execOp, hop, hm, Sem.run_bind, hrun, Result.andThen_ok]; rfl
theorem wl_range (hgd : o.guard = none) (hop : o.op = .range T m) (hm : a.eval m = .map (some r)) (hT : P.underlying T = some (.map kT eT)) (h : MapAt w V r l)
    (hK : ∀ w', IterAt w' w.heap.size r l l → MapAt w' V r l → Kept [] w w' → w'.heap.size = w.heap.size + 1 → wpList P ops Q rest (a.put o.dst (.pointer (some ⟨w.heap.size, 0, none⟩))) w') : wpList P ops Q (o :: rest) a w :=
  wl_of hgd fun _ hh => wp_range hop hm hT h (fun w' h1 h2 h3 h4 => hh _ _ (hK w' h1 h2 h3 h4))

variable {it : Nat} {left : List (Value × Value)}
theorem wl_next (hgd : o.guard = none) (hop : o.op = .next m false) (hm : a.eval m = .pointer (some ⟨it, 0, none⟩)) (h : IterAt w it r l left) (hne : it ≠ r)
    (h0 : left = [] → wpList P ops Q rest (a.put o.dst (.tuple #[.bool false])) w)
    (h1 : ∀ k v l1 l2 w', left = l1 ++ (k, v) :: l2 → IterAt w' it r l (l1 ++ l2) → EntryAt w' it r k v → Kept [it] w w' → w'.heap.size = w.heap.size → wpList P ops Q rest (a.put o.dst (.tuple #[.bool true, k, v])) w') : wpList P ops Q (o :: rest) a w := by
  refine wl_of hgd fun _ hh => ?_
  obtain ⟨w', hk, hs, h2 | ⟨k, v, l1, l2, e1, hrun, hi, he⟩⟩ := map_next (P := P) h hne o.type
  · obtain ⟨e1, hrun, rfl⟩ := h2
    refine wp_val (w' := w') (v := .tuple #[.bool false]) ?_ (hh _ _ (h0 e1))
    simp only [execOp, hop, hm, Sem.run_bind, hrun, Result.andThen_ok]; rfl
  · refine wp_val (w' := w') (v := .tuple #[.bool true, k, v]) ?_ (hh _ _ (h1 k v l1 l2 w' e1 hi he hk hs))
    simp only [execOp, hop, hm, Sem.run_bind, hrun, Result.andThen_ok]; rfl
theorem wl_next0 (hgd : o.guard = none) (hop : o.op = .next m false) (hm : a.eval m = .pointer (some ⟨it, 0, none⟩)) (h : IterAt w it r l []) (hne : it ≠ r)
    (h0 : wpList P ops Q rest (a.put o.dst (.tuple #[.bool false])) w) : wpList P ops Q (o :: rest) a w :=
  wl_next hgd hop hm h hne (fun _ => h0) (fun _ _ l1 l2 _ e => by simp at e)
theorem wl_next1 (hgd : o.guard = none) (hop : o.op = .next m false) (hm : a.eval m = .pointer (some ⟨it, 0, none⟩)) (h : IterAt w it r l left) (hne : it ≠ r) (hl : left ≠ [])
    (h1 : ∀ k v l1 l2 w', left = l1 ++ (k, v) :: l2 → IterAt w' it r l (l1 ++ l2) → EntryAt w' it r k v → Kept [it] w w' → w'.heap.size = w.heap.size → wpList P ops Q rest (a.put o.dst (.tuple #[.bool true, k, v])) w') : wpList P ops Q (o :: rest) a w :=
  wl_next hgd hop hm h hne (fun e => absurd e hl) h1
theorem wl_entry {k v : Value} (hgd : o.guard = none) (hop : o.op = .entry m) (hm : a.eval m = .pointer (some ⟨it, 0, none⟩)) (h : EntryAt w it r k v)
    (hK : wpList P ops Q rest (a.put o.dst (.tuple #[k, v])) w) : wpList P ops Q (o :: rest) a w := by
  refine wl_val (w' := w) (v := .tuple #[k, v]) hgd ?_ hK
  simp only [execOp, hop, hm, Sem.run_bind, map_entry h, Result.andThen_ok]; rfl
end
end Go.Proofs.YticcnlpfmekagaaGreat
