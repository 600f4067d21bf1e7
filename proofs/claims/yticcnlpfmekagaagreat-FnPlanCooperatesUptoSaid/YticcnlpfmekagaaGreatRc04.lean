/- Part 4 of the proof of the row: Ops, Sl, Prep, Real, Real2, Sink, V1, Encode. -/
import Derived.Test.YticcnlpfmekagaaGreatRc00
import Derived.Test.YticcnlpfmekagaaGreatRc03
import Derived.Deep.AppendLies
import Derived.Deep.AppendSrc
import Derived.KernelRfl
import Derived.Test.YticcnlpfmekagaaGreatProg
set_option linter.unusedVariables false
set_option linter.unusedSimpArgs false
set_option maxRecDepth 100000
set_option maxHeartbeats 8000000
namespace Go.Proofs.YticcnlpfmekagaaGreat
section
open Go Go.RowKit
open Classical
section
variable {P : Program} {ops : Array Oper} {o : Oper} {a : Act} {w : World} {rest : List Oper} {K : Act → World → Prop} {Q : Exit → Act → World → Prop} {E : Prop}
theorem wp_val {v : Value} {w' : World} (hrun : (execOp a.eval o).run P w = .ok (.value v) w') (h : K (a.put o.dst v) w') : Oper.wp P o a w K Q := by
 unfold Oper.wp; rw [hrun]; exact h
theorem wp_skip' {w' : World} (hrun : (execOp a.eval o).run P w = .ok .skip w') (h : K (a.put o.dst undef) w') : Oper.wp P o a w K Q := by
 unfold Oper.wp; rw [hrun]; exact h
theorem wl_of (hgd : o.guard = none) (h : ∀ K : Act → World → Prop, (∀ a w, wpList P ops Q rest a w → K a w) → Oper.wp P o a w K Q) : wpList P ops Q (o :: rest) a w := by
 have hw : Region.wanted o (yielded ops a.tmps) = true := by simp [Region.wanted, hgd]
 simp only [wpList, hw, if_true]
 exact Or.inl (h _ fun _ _ h => h)
theorem sl_of (hgd : o.guard = none) (h : Oper.wp P o a w K Q) : if Region.wanted o (yielded ops a.tmps) = true then Oper.wp P o a w K Q else E := by
 have hw : Region.wanted o (yielded ops a.tmps) = true := by simp [Region.wanted, hgd]
 rw [if_pos hw]; exact h
theorem wl_val (hgd : o.guard = none) {v : Value} {w' : World} (hrun : (execOp a.eval o).run P w = .ok (.value v) w') (h : wpList P ops Q rest (a.put o.dst v) w') : wpList P ops Q (o :: rest) a w :=
 wl_of hgd fun _ hK => wp_val hrun (hK _ _ h)
variable {V : Value → Prop} {r : Nat} {l : List (Value × Value)} {T kT eT : TypeId} {m x y : Operand} {kv vv : Value}
theorem wp_update (hop : o.op = .mapUpdate T m x y) (hm : a.eval m = .map (some r)) (hk : a.eval x = kv) (hv : a.eval y = vv) (K0 : KeyT P kT V) (hT : P.underlying T = some (.map kT eT)) (h : MapAt w V r l) (hV : V kv)
 (hK : ∀ w', MapAt w' V r (putE l kv vv) → Kept [r] w w' → w'.heap.size = w.heap.size → K (a.put o.dst undef) w') : Oper.wp P o a w K Q := by
 obtain ⟨w', hrun, h1, h2, h3⟩ := map_update h K0 hT hV vv
 refine wp_skip' (w' := w') ?_ (hK _ h1 h2 h3)
 simp only [execOp, hop, hm, hk, hv, Sem.run_bind, hrun, Result.andThen_ok]; rfl
theorem wl_update (hgd : o.guard = none) (hop : o.op = .mapUpdate T m x y) (hm : a.eval m = .map (some r)) (hk : a.eval x = kv) (hv : a.eval y = vv) (K0 : KeyT P kT V) (hT : P.underlying T = some (.map kT eT)) (h : MapAt w V r l) (hV : V kv)
 (hK : ∀ w', MapAt w' V r (putE l kv vv) → Kept [r] w w' → w'.heap.size = w.heap.size → wpList P ops Q rest (a.put o.dst undef) w') : wpList P ops Q (o :: rest) a w :=
 wl_of hgd fun _ hh => wp_update hop hm hk hv K0 hT h hV (fun w' h1 h2 h3 => hh _ _ (hK w' h1 h2 h3))
theorem up_update {f : Unit → World → Result Next} (hf : ∀ u w', f u w' = .ok .skip w') (K0 : KeyT P kT V) (hT : P.underlying T = some (.map kT eT)) (h : MapAt w V r l) (hV : V kv)
 (hK : ∀ w', MapAt w' V r (putE l kv vv) → Kept [r] w w' → w'.heap.size = w.heap.size → K (a.put o.dst undef) w') : Oper.upon P o a K Q ((Sem.run P (Instr.mapUpdate T (.map (some r)) kv vv) w).andThen f) := by
 obtain ⟨w', hrun, h1, h2, h3⟩ := map_update h K0 hT hV vv
 rw [hrun, Result.andThen_ok, hf, Oper.upon_skip]
 exact hK _ h1 h2 h3
theorem wp_range (hop : o.op = .range T m) (hm : a.eval m = .map (some r)) (hT : P.underlying T = some (.map kT eT)) (h : MapAt w V r l)
 (hK : ∀ w', IterAt w' w.heap.size r l l → MapAt w' V r l → Kept [] w w' → w'.heap.size = w.heap.size + 1 → K (a.put o.dst (.pointer (some ⟨w.heap.size, 0, none⟩))) w') : Oper.wp P o a w K Q := by
 obtain ⟨w', hrun, h1, h2, h3, h4⟩ := map_range h hT
 refine wp_val (w' := w') (v := .pointer (some ⟨w.heap.size, 0, none⟩)) ?_ (hK _ h1 h4 h2 h3)
 simp only [execOp, hop, hm, Sem.run_bind, hrun, Result.andThen_ok]; rfl
theorem wl_range (hgd : o.guard = none) (hop : o.op = .range T m) (hm : a.eval m = .map (some r)) (hT : P.underlying T = some (.map kT eT)) (h : MapAt w V r l)
 (hK : ∀ w', IterAt w' w.heap.size r l l → MapAt w' V r l → Kept [] w w' → w'.heap.size = w.heap.size + 1 → wpList P ops Q rest (a.put o.dst (.pointer (some ⟨w.heap.size, 0, none⟩))) w') : wpList P ops Q (o :: rest) a w :=
 wl_of hgd fun _ hh => wp_range hop hm hT h (fun w' h1 h2 h3 h4 => hh _ _ (hK w' h1 h2 h3 h4))
variable {it : Nat} {left : List (Value × Value)}
theorem wl_next (hgd : o.guard = none) (hop : o.op = .next m false) (hm : a.eval m = .pointer (some ⟨it, 0, none⟩)) (h : IterAt w it r l left) (hne : it ≠ r)
 (h0 : left = [] → wpList P ops Q rest (a.put o.dst (.tuple #[.bool false])) w)
 (h1 : ∀ k v l1 l2 w', left = l1 ++ (k, v) :: l2 → IterAt w' it r l (l1 ++ l2) → EntryAt w' it r k v → Kept [it] w w' → w'.heap.size = w.heap.size → wpList P ops Q rest (a.put o.dst (.tuple #[.bool true, k, v])) w') : wpList P ops Q (o :: rest) a w := by
 refine wl_of hgd fun _ hh => ?_
 obtain ⟨w', hk, hs, h2 | ⟨k, v, l1, l2, e1, hrun, hi, he⟩⟩ := map_next (P := P) h hne o.type
 · obtain ⟨e1, hrun, rfl⟩ := h2
   refine wp_val (w' := w') (v := .tuple #[.bool false]) ?_ (hh _ _ (h0 e1))
   simp only [execOp, hop, hm, Sem.run_bind, hrun, Result.andThen_ok]; rfl
 · refine wp_val (w' := w') (v := .tuple #[.bool true, k, v]) ?_ (hh _ _ (h1 k v l1 l2 w' e1 hi he hk hs))
   simp only [execOp, hop, hm, Sem.run_bind, hrun, Result.andThen_ok]; rfl
theorem wl_next0 (hgd : o.guard = none) (hop : o.op = .next m false) (hm : a.eval m = .pointer (some ⟨it, 0, none⟩)) (h : IterAt w it r l []) (hne : it ≠ r)
 (h0 : wpList P ops Q rest (a.put o.dst (.tuple #[.bool false])) w) : wpList P ops Q (o :: rest) a w :=
 wl_next hgd hop hm h hne (fun _ => h0) (fun _ _ l1 l2 _ e => by simp at e)
theorem wl_next1 (hgd : o.guard = none) (hop : o.op = .next m false) (hm : a.eval m = .pointer (some ⟨it, 0, none⟩)) (h : IterAt w it r l left) (hne : it ≠ r) (hl : left ≠ [])
 (h1 : ∀ k v l1 l2 w', left = l1 ++ (k, v) :: l2 → IterAt w' it r l (l1 ++ l2) → EntryAt w' it r k v → Kept [it] w w' → w'.heap.size = w.heap.size → wpList P ops Q rest (a.put o.dst (.tuple #[.bool true, k, v])) w') : wpList P ops Q (o :: rest) a w :=
 wl_next hgd hop hm h hne (fun e => absurd e hl) h1
theorem wl_entry {k v : Value} (hgd : o.guard = none) (hop : o.op = .entry m) (hm : a.eval m = .pointer (some ⟨it, 0, none⟩)) (h : EntryAt w it r k v)
 (hK : wpList P ops Q rest (a.put o.dst (.tuple #[k, v])) w) : wpList P ops Q (o :: rest) a w := by
 refine wl_val (w' := w) (v := .tuple #[k, v]) hgd ?_ hK
 simp only [execOp, hop, hm, Sem.run_bind, map_entry h, Result.andThen_ok]; rfl
end
end
section
open Go Go.RowKit
open Classical
def SlAt (w : World) (sz : Nat) (v : Value) (n : Nat) (cs : List Value) : Prop :=
 cs.length = n * sz ∧ (∀ u ∈ cs, u.oneCell' = true) ∧ ((∃ a c, v = .slice a 0 c ∧ n = 0) ∨ ∃ b off cap, v = .slice (some ⟨b, off, none⟩) n cap ∧ ∀ j u, cs[j]? = some u → w.cell? ⟨b, off + j, none⟩ = some u)
theorem SlAt.kept {w w' : World} {sz : Nat} {v : Value} {n : Nat} {cs : List Value} {S : List Nat} (h : SlAt w sz v n cs) (k : Kept S w w') (hs : ∀ b, v.ownBlock = some b → b ∉ S) : SlAt w' sz v n cs := by
 obtain ⟨h1, h2, h3⟩ := h
 refine ⟨h1, h2, ?_⟩
 rcases h3 with h3 | ⟨b, off, cap, rfl, hc⟩
 · exact .inl h3
 · exact .inr ⟨b, off, cap, rfl, fun j u hj => k.cell (hc j u hj) (hs b rfl)⟩
theorem SlAt.alloc {w : World} {sz : Nat} {v : Value} {n : Nat} {cs : List Value} (h : SlAt w sz v n cs) (o : Obj) : SlAt (w.alloc o) sz v n cs := h.kept ((Kept.refl [] w).alloc o) (by simp)
theorem SlAt.drew {w : World} {sz : Nat} {v : Value} {n : Nat} {cs : List Value} (h : SlAt w sz v n cs) : SlAt w.drew sz v n cs := h
theorem SlAt.nil (w : World) (sz : Nat) : SlAt w sz (.slice none 0 0) 0 [] := ⟨by simp, by simp, .inl ⟨none, 0, rfl, rfl⟩⟩
theorem SlAt.cell {w : World} {sz : Nat} {b off n cap : Nat} {cs : List Value} (h : SlAt w sz (.slice (some ⟨b, off, none⟩) n cap) n cs) {j : Nat} {u : Value} (hj : cs[j]? = some u) : w.cell? ⟨b, off + j, none⟩ = some u := by
 rcases h.2.2 with ⟨a, c, h2, h0⟩ | ⟨b', o', c', h, hc⟩
 · have h1 := h.1
   have := (List.getElem?_eq_some_iff.1 hj).1
   rw [h0] at h1; simp at h1; subst h1; simp at this
 · cases h; exact hc j u hj
structure Elem (P : Program) (T E sz bytes : Nat) (z : Value) : Prop where
 und : P.underlying T = some (.slice E)
 info : ∃ i, P.info? E = some i ∧ i.zero = some z ∧ i.size = sz ∧ i.bytes = bytes
 zsz : z.cells.size = sz
 pos : 0 < sz
section
variable {P : Program} {w : World} {T E sz bytes : Nat} {z : Value}
theorem SlAt.src {x : Value} {m : Nat} {ys : List Value} (h : SlAt w sz x m ys) {tx e' : TypeId} (hk : P.underlying tx = some (.slice e')) : Src P sz tx x m ys w := by
 obtain ⟨h1, h2, h3⟩ := h
 rcases h3 with ⟨a, c, rfl, rfl⟩ | ⟨b, off, cap, rfl, hc⟩
 · have : ys = [] := List.eq_nil_of_length_eq_zero (by omega)
   subst this
   cases a with
   | none => exact Src.ofNil w hk c
   | some a => exact Src.ofSlice w hk a 0 c [] (by simp) (fun j u hj => by simp at hj) (by simp)
 · refine Src.ofSlice w hk ⟨b, off, none⟩ m cap ys h1 (fun j u hj => ?_) h2
   have := hc j u hj
   by_cases h0 : j = 0
   · subst h0; simpa [Addr.add] using this
   · simpa [Addr.add, h0] using this
theorem nextcap_le (need old : Nat) (h : old < need) : Builtin.nextslicecap need old ≤ 4 * need + 1024 := by
 unfold Builtin.nextslicecap
 split
 · omega
 · split
   · omega
   · have step : ∀ (k c : Nat), c ≤ 4 * need + 1024 → Builtin.growBy need k c ≤ 4 * need + 1024 := by
      intro k
      induction k with
      | zero => intro c hc; simpa [Builtin.growBy] using hc
      | succ k ih =>
        intro c hc
        simp only [Builtin.growBy]
        split
        · exact hc
        · exact ih _ (by omega)
     exact step 4 old (by omega)
theorem setCells_block (g E : Nat) : ∀ (vs : List Value) (o : Nat) (c : Array Value) (w1 : World), w1.heap[g]? = some (.cells c E (0, 0)) → o + vs.length ≤ c.size → ∃ c', (w1.setCells g o vs).heap[g]? = some (.cells c' E (0, 0)) ∧ c'.size = c.size ∧ c'.toList = c.toList.take o ++ vs ++ c.toList.drop (o + vs.length) ∧ Kept [g] w1 (w1.setCells g o vs) ∧ (w1.setCells g o vs).heap.size = w1.heap.size := by
 intro vs
 induction vs with
 | nil => intro o c w1 h1 h2; exact ⟨c, h1, rfl, by simp, Kept.refl _ _, rfl⟩
 | cons v vs ih =>
   intro o c w1 h1 h2
   simp only [List.length_cons] at h2
   have h3 : (w1.setCell ⟨g, o, none⟩ v).heap[g]? = some (.cells (c.setIfInBounds o v) E (0, 0)) := by
    simp [World.setCell, Array.getElem?_modify, h1]
   obtain ⟨c', e1, e2, e3, e4, e5⟩ := ih (o + 1) (c.setIfInBounds o v) _ h3 (by simp; omega)
   refine ⟨c', e1, by simpa using e2, ?_, ?_, by rw [World.setCells, e5]; simp⟩
   · rw [e3]
     simp only [Array.toList_setIfInBounds, List.length_cons]
     rw [List.take_set, List.drop_set_of_lt (by omega), show o + (vs.length + 1) = o + 1 + vs.length from by omega]
     have ho : o < c.toList.length := by simp; omega
     rw [List.take_succ_eq_append_getElem ho, List.set_append_right _ _ (by simp; omega)]
     have : o - (c.toList.take o).length = 0 := by rw [List.length_take]; omega
     rw [this]; simp
   · exact ((Kept.refl [g] w1).setCell v (p := ⟨g, o, none⟩) (by simp)).trans e4 (fun x hx => hx) (fun x hx _ => hx)
theorem run_app (el : Elem P T E sz bytes z) {tx : TypeId} {ty : TypeId} {v x : Value} {n m : Nat} {xs ys : List Value} (hown : w.ownsRow 0 E sz v n xs) (hsrc : Src P sz tx x m ys w)
 (hb : (4 * (n + m) + 1024) * bytes ≤ 281474976710656) (hm : n + m ≤ 281474976710656) :
 ∃ v' w', (Builtin.append_ #[T, tx] ty #[v, x]).run P w = .ok v' w' ∧ w'.ownsRow 0 E sz v' (n + m) (xs ++ ys) ∧ Kept v.ownBlock.toList w w' ∧
  ((v'.ownBlock = v.ownBlock ∧ w'.heap.size = w.heap.size) ∨ (v'.ownBlock = some w.heap.size ∧ w'.heap.size = w.heap.size + 1)) := by
 obtain ⟨ht, ⟨i, hi, hz, hsz, hby⟩, hzs, hpos⟩ := el
 subst hsz
 subst hby
 have hlen : (xs ++ ys).length = (n + m) * i.size := by rw [List.length_append, hown.1, hsrc.newsLen, Nat.add_mul]
 have hb' : (n + m) * i.bytes ≤ 281474976710656 := Nat.le_trans (Nat.mul_le_mul_right _ (by omega)) hb
 have hfit : ∀ old, old < n + m → Builtin.nextslicecap (n + m) old * i.bytes ≤ 281474976710656 := fun old ho => Nat.le_trans (Nat.mul_le_mul_right _ (nextcap_le _ _ ho)) hb
 have grown : ∀ (old : Nat), old < n + m →
  (w.drew.alloc (.cells ((xs ++ ys).toArray ++ Builtin.zeroCells z.cells (grownCap w (n + m) old E - (n + m))) E)).ownsRow 0 E i.size
    (.slice (some ⟨w.heap.size, 0, none⟩) (n + m) (grownCap w (n + m) old E)) (n + m) (xs ++ ys) := by
  intro old ho
  have hge := grownCap_ge w (n + m) old E
  have hcm : grownCap w (n + m) old E ≤ maxLen := grownCap_le_maxLen w (n + m) old E (by unfold maxLen; omega)
  refine ⟨hlen, .inr ⟨w.heap.size, _, _, rfl, Nat.zero_le _, heap_alloc_new w.drew _, hge, hcm, ?_, ?_⟩⟩
  · simp only [Array.size_append, List.size_toArray, size_zeroCells, hzs, hlen, ← Nat.add_mul]
    congr 1
    omega
  · rw [Array.toList_append, ← hlen]
    exact List.take_left
 rcases hown.2 with ⟨rfl, rfl⟩ | ⟨g, cap, cur, rfl, hbg, hg, hnc, hcm, hcs, htake⟩
 · have hx : xs = [] := List.eq_nil_of_length_eq_zero (by simpa using hown.1)
   subst hx
   by_cases hm0 : m = 0
   · subst hm0
     have hn : ys = [] := List.eq_nil_of_length_eq_zero (by simpa using hsrc.newsLen)
     subst hn
     refine ⟨.slice none 0 0, w, ?_, World.ownsRow_nil w 0 E i.size, Kept.refl _ _, .inl ⟨rfl, rfl⟩⟩
     rcases hsrc.kind with ⟨e', hk⟩ | hk <;>
      simp [Builtin.append_, run_underlying ht, run_underlying hk, sizeOf, typeInfo, hi, hsrc.len, hsrc.cells]
   · have hr := run_append_grow_src (P := P) w T tx ty E i z ht hi hz none 0 0 [] (by simp [Builtin.firstCells]) x m ys hsrc (by omega) (by omega) (hfit 0 (by omega))
     have hgr := grown 0 (by omega)
     simp only [Nat.zero_add, List.nil_append] at hgr hr ⊢
     exact ⟨_, _, hr, hgr, (Kept.refl _ w).drew.alloc _, .inr ⟨rfl, by simp⟩⟩
 · by_cases hroom : n + m ≤ cap
   · have hfit' : n * i.size + ys.length ≤ cur.size := by rw [hsrc.newsLen, hcs, ← Nat.add_mul]; exact Nat.mul_le_mul_right _ hroom
     have hcell : ∀ j, j < cur.size → w.cell? ⟨g, j, none⟩ = some (cur.getD j undef) := fun j hj => by simp [World.cell?, hg, hj]
     have hr := run_append_room_src (P := P) w T tx ty E i ht hi g 0 n cap x m ys hsrc hroom (fun j hj => by rw [hcell _ (by omega)]; rfl) (fun j hj => by simp [World.frozen?, hg])
     obtain ⟨c', e1, e2, e3, e4, e5⟩ := setCells_block g E ys (0 + n * i.size) cur w hg (by omega)
     refine ⟨_, _, hr, ⟨hlen, .inr ⟨g, cap, c', rfl, Nat.zero_le _, e1, hroom, hcm, by rw [e2, hcs], ?_⟩⟩, by simpa [Value.ownBlock] using e4, .inl ⟨rfl, e5⟩⟩
     rw [e3, Nat.zero_add, htake, ← hlen]
     exact List.take_left
   · have hold : (Builtin.firstCells i.size n (.slice (some ⟨g, 0, none⟩) n cap)).run P w.drew = .ok xs.toArray w.drew :=
      run_firstCells_some w.drew i.size n ⟨g, 0, none⟩ n cap xs hown.1 (fun j u hj => by simpa using hown.cells (g := g) rfl j u hj)
     have hr := run_append_grow_src (P := P) w T tx ty E i z ht hi hz (some ⟨g, 0, none⟩) n cap xs hold x m ys hsrc (by omega) (by omega) (hfit cap (by omega))
     exact ⟨_, _, hr, grown cap (by omega), (Kept.refl _ w).drew.alloc _, .inr ⟨rfl, by simp⟩⟩
variable {ops : Array Oper} {o : Oper} {a : Act} {rest : List Oper} {K : Act → World → Prop} {Q : Exit → Act → World → Prop} {G : Prop}
theorem wp_app {s x : Operand} {tx : TypeId} (ho : o.op = .call { callee := .builtin .append, args := #[s, x], argTypes := #[T, tx] }) (el : Elem P T E sz bytes z)
 {v xv : Value} {n m : Nat} {xs ys : List Value} (hs : a.eval s = v) (hx : a.eval x = xv) (hown : w.ownsRow 0 E sz v n xs) (hsrc : Src P sz tx xv m ys w)
 (hb : (4 * (n + m) + 1024) * bytes ≤ 281474976710656) (hm : n + m ≤ 281474976710656)
 (h : ∀ v' w', w'.ownsRow 0 E sz v' (n + m) (xs ++ ys) → Kept v.ownBlock.toList w w' → ((v'.ownBlock = v.ownBlock ∧ w'.heap.size = w.heap.size) ∨ (v'.ownBlock = some w.heap.size ∧ w'.heap.size = w.heap.size + 1)) → K (a.put o.dst v') w') : Oper.wp P o a w K Q := by
 obtain ⟨v', w', hrun, h1, h2, h3⟩ := run_app (ty := o.type) el hown hsrc hb hm
 refine wp_val (w' := w') (v := v') ?_ (h _ _ h1 h2 h3)
 simp [execOp, ho, resolve, invoke, builtin, hs, hx, hrun, Result.andThen]
theorem wl_app {s x : Operand} {tx : TypeId} (hgd : o.guard = none) (ho : o.op = .call { callee := .builtin .append, args := #[s, x], argTypes := #[T, tx] }) (el : Elem P T E sz bytes z)
 {v xv : Value} {n m : Nat} {xs ys : List Value} (hs : a.eval s = v) (hx : a.eval x = xv) (hown : w.ownsRow 0 E sz v n xs) (hsrc : Src P sz tx xv m ys w)
 (hb : (4 * (n + m) + 1024) * bytes ≤ 281474976710656) (hm : n + m ≤ 281474976710656)
 (h : ∀ v' w', w'.ownsRow 0 E sz v' (n + m) (xs ++ ys) → Kept v.ownBlock.toList w w' → ((v'.ownBlock = v.ownBlock ∧ w'.heap.size = w.heap.size) ∨ (v'.ownBlock = some w.heap.size ∧ w'.heap.size = w.heap.size + 1)) → wpList P ops Q rest (a.put o.dst v') w') : wpList P ops Q (o :: rest) a w :=
 wl_of hgd fun _ hh => wp_app ho el hs hx hown hsrc hb hm (fun v' w' h1 h2 h3 => hh _ _ (h v' w' h1 h2 h3))
theorem sl_app {s x : Operand} {tx : TypeId} (hgd : o.guard = none) (ho : o.op = .call { callee := .builtin .append, args := #[s, x], argTypes := #[T, tx] }) (el : Elem P T E sz bytes z)
 {v xv : Value} {n m : Nat} {xs ys : List Value} (hs : a.eval s = v) (hx : a.eval x = xv) (hown : w.ownsRow 0 E sz v n xs) (hsrc : Src P sz tx xv m ys w)
 (hb : (4 * (n + m) + 1024) * bytes ≤ 281474976710656) (hm : n + m ≤ 281474976710656)
 (h : ∀ v' w', w'.ownsRow 0 E sz v' (n + m) (xs ++ ys) → Kept v.ownBlock.toList w w' → ((v'.ownBlock = v.ownBlock ∧ w'.heap.size = w.heap.size) ∨ (v'.ownBlock = some w.heap.size ∧ w'.heap.size = w.heap.size + 1)) → K (a.put o.dst v') w') : if Region.wanted o (yielded ops a.tmps) = true then Oper.wp P o a w K Q else G :=
 sl_of hgd (wp_app ho el hs hx hown hsrc hb hm h)
end
section
variable {P : Program} {w : World} {ops : Array Oper} {o : Oper} {a : Act} {rest : List Oper} {K : Act → World → Prop} {Q : Exit → Act → World → Prop} {G : Prop}
end
theorem own_sl {w : World} {E sz : Nat} {v : Value} {n : Nat} {cs : List Value} (h : w.ownsRow 0 E sz v n cs) (h1 : ∀ u ∈ cs, u.oneCell' = true) : SlAt w sz v n cs := by
 refine ⟨h.1, h1, ?_⟩
 rcases h.2 with ⟨rfl, rfl⟩ | ⟨g, cap, cur, rfl, _, hg, _, _, _, ht⟩
 · exact .inl ⟨none, 0, rfl, rfl⟩
 · refine .inr ⟨g, 0, cap, rfl, fun j u hj => ?_⟩
   subst ht
   rw [List.getElem?_take] at hj
   split at hj
   · simp [World.cell?, hg, ← hj]
   · cases hj
def Fresh (w : World) (v : Value) : Prop := ∀ g, v.ownBlock = some g → w.heap.size ≤ g
theorem Fresh.nil (w : World) : Fresh w (.slice none 0 0) := fun g h => by simp [Value.ownBlock] at h
theorem app_step {w w1 w2 : World} {v v' : Value} (hf : Fresh w v) (hk : Kept [] w w1) (hk1 : Kept v.ownBlock.toList w1 w2)
 (hd : (v'.ownBlock = v.ownBlock ∧ w2.heap.size = w1.heap.size) ∨ (v'.ownBlock = some w1.heap.size ∧ w2.heap.size = w1.heap.size + 1)) : Fresh w v' ∧ Kept [] w w2 := by
 refine ⟨fun g hg => ?_, hk.trans hk1 (by simp) (fun x hx hlt => ?_)⟩
 · rcases hd with ⟨h1, _⟩ | ⟨h1, _⟩
   · exact hf g (by rw [← h1]; exact hg)
   · have := hk.size; rw [h1] at hg; simp only [Option.some.injEq] at hg; omega
 · have := hf x (by simpa using hx); omega
theorem own_kept {w w' : World} {E sz : Nat} {v : Value} {n : Nat} {cs : List Value} {S : List Nat} (h : w.ownsRow 0 E sz v n cs) (k : Kept S w w') (hs : ∀ b, v.ownBlock = some b → b ∉ S) : w'.ownsRow 0 E sz v n cs := by
 refine ⟨h.1, ?_⟩
 rcases h.2 with h2 | ⟨g, cap, cur, rfl, h0, hg, rest⟩
 · exact .inl h2
 · exact .inr ⟨g, cap, cur, rfl, h0, k.heap hg (hs g rfl), rest⟩
end
section
open Go Go.Proofs Go.RowKit
def Prep (w : World) (b : Nat) (n : Int) : Prop := w.heap[b]? = some (.cells #[.slice none 0 0, .int .i64 n] 198 (0, 0))
theorem Prep.cell {w : World} {b : Nat} {n : Int} (h : Prep w b n) : w.cell? ⟨b, 0 + 1, none⟩ = some (.int .i64 n) := by unfold Prep at h; simp [World.cell?, h]
theorem Prep.fz {w : World} {b : Nat} {n : Int} (h : Prep w b n) (i : Nat) : w.frozen? ⟨b, i, none⟩ = false := by unfold Prep at h; simp [World.frozen?, h]
theorem Prep.set {w : World} {b : Nat} {n : Int} (h : Prep w b n) (m : Int) : Prep (w.setCell ⟨b, 0 + 1, none⟩ (.int .i64 m)) b m := by
 unfold Prep at *
 simp [World.setCell, Array.getElem?_modify, h]
theorem Prep.kept {w w' : World} {b : Nat} {n : Int} {S : List Nat} (h : Prep w b n) (k : Kept S w w') (hs : b ∉ S) : Prep w' b n := k.heap h hs
structure Counted (b : Nat) (n k : Int) (w w' : World) : Prop where
 prep : Prep w' b (n + k)
 kept : Kept [b] w w'
 size : w'.heap.size = w.heap.size
theorem Counted.trans {b : Nat} {n k1 k2 : Int} {w w1 w2 : World} (h : Counted b n k1 w w1) (h' : Counted b (n + k1) k2 w1 w2) : Counted b n (k1 + k2) w w2 :=
 ⟨by rw [← Int.add_assoc]; exact h'.prep, h.kept.trans h'.kept (fun _ h => h) (fun _ h _ => h), h'.size.trans h.size⟩
end
section
open Go Go.Proofs Go.RowKit
def Buf (w : World) (rb : Nat) (L : List Value) : Prop := w.heap[rb]? = some (.cells L.toArray 5 (0, 0))
theorem Buf.cell {w : World} {rb : Nat} {pre post : List Value} {x : Value} (h : Buf w rb (pre ++ x :: post)) {k : Nat} (hk : k = pre.length) : w.cell? ⟨rb, k, none⟩ = some x := by
 subst hk; unfold Buf at h; simp [World.cell?, h]
theorem Buf.fz {w : World} {rb : Nat} {L : List Value} (h : Buf w rb L) (k : Nat) : w.frozen? ⟨rb, k, none⟩ = false := by unfold Buf at h; simp [World.frozen?, h]
theorem Buf.set {w : World} {rb : Nat} {pre post : List Value} {x : Value} (h : Buf w rb (pre ++ x :: post)) {k : Nat} (hk : k = pre.length) (v : Value) : Buf (w.setCell ⟨rb, k, none⟩ v) rb (pre ++ v :: post) := by
 subst hk; unfold Buf at *
 simp [World.setCell, Array.getElem?_modify, h]
theorem Buf.kept {w w' : World} {rb : Nat} {L : List Value} {S : List Nat} (h : Buf w rb L) (k : Kept S w w') (hs : rb ∉ S) : Buf w' rb L := k.heap h hs
theorem Buf.alloc {w : World} {rb : Nat} {L : List Value} (h : Buf w rb L) (o : Obj) : Buf (w.alloc o) rb L := ha h
theorem Buf.drew {w : World} {rb : Nat} {L : List Value} (h : Buf w rb L) : Buf w.drew rb L := h
theorem Buf.lt {w : World} {rb : Nat} {L : List Value} (h : Buf w rb L) : rb < w.heap.size := lt_of_heap h
def be16 (x : Int) : List Value := [.int .u8 (x / 256), .int .u8 (x % 256)]
def be32 (x : Int) : List Value := [.int .u8 (x / 16777216), .int .u8 (x / 65536 % 256), .int .u8 (x / 256 % 256), .int .u8 (x % 256)]
structure Enc (w : World) (b rb N : Nat) (done : List Value) : Prop where
 at_ : w.heap[b]? = some (.cells #[.slice (some ⟨rb, 0, none⟩) N N, .int .i64 done.length, .slice none 0 0] 200 (0, 0))
 buf : ∃ rest, Buf w rb (done ++ rest) ∧ (done ++ rest).length = N ∧ ∀ v ∈ rest, ∃ q, v = .int .u8 q
 ne : b ≠ rb
theorem Enc.c0 {w : World} {b rb N : Nat} {done : List Value} (h : Enc w b rb N done) : w.cell? ⟨b, 0, none⟩ = some (.slice (some ⟨rb, 0, none⟩) N N) := by have := h.at_; simp [World.cell?, this]
theorem Enc.c1 {w : World} {b rb N : Nat} {done : List Value} (h : Enc w b rb N done) : w.cell? ⟨b, 0 + 1, none⟩ = some (.int .i64 done.length) := by have := h.at_; simp [World.cell?, this]
theorem Enc.fz {w : World} {b rb N : Nat} {done : List Value} (h : Enc w b rb N done) (i : Nat) : w.frozen? ⟨b, i, none⟩ = false := by have := h.at_; simp [World.frozen?, this]
theorem Enc.kept {w w' : World} {b rb N : Nat} {done : List Value} {S : List Nat} (h : Enc w b rb N done) (k : Kept S w w') (h1 : b ∉ S) (h2 : rb ∉ S) : Enc w' b rb N done := by
 obtain ⟨rest, h3, h4⟩ := h.buf
 exact ⟨k.heap h.at_ h1, ⟨rest, h3.kept k h2, h4⟩, h.ne⟩
theorem Enc.step {w w1 : World} {b rb N : Nat} {done bs post : List Value} (h : Enc w b rb N done) (k : Kept [rb] w w1) (hb : Buf w1 rb (done ++ bs ++ post)) (hl : (done ++ bs ++ post).length = N) (hp : ∀ v ∈ post, ∃ q, v = .int .u8 q) (n : Int) (hn : n = done.length + bs.length) :
 Enc (w1.setCell ⟨b, 0 + 1, none⟩ (.int .i64 n)) b rb N (done ++ bs) ∧ Kept [b, rb] w (w1.setCell ⟨b, 0 + 1, none⟩ (.int .i64 n)) := by
 have ha := k.heap h.at_ (by simpa using h.ne)
 refine ⟨⟨?_, ⟨post, ?_, hl, hp⟩, h.ne⟩, (k.mono (by simp)).setCell _ (by simp)⟩
 · subst hn
   simp only [World.setCell, Array.getElem?_modify, ha]
   simp
 · exact hs (by simpa using h.ne.symm) hb
def Puts (w : World) (b rb N : Nat) (done bs : List Value) (w' : World) : Prop := Enc w' b rb N (done ++ bs) ∧ Kept [b, rb] w w'
theorem Puts.trans {w w1 w2 : World} {b rb N : Nat} {done b1 b2 : List Value} (h : Puts w b rb N done b1 w1) (h' : Puts w1 b rb N (done ++ b1) b2 w2) : Puts w b rb N done (b1 ++ b2) w2 :=
 ⟨by rw [← List.append_assoc]; exact h'.1, h.2.trans h'.2 (fun _ h => h) (fun _ h _ => h)⟩
theorem Puts.refl {w : World} {b rb N : Nat} {done : List Value} (h : Enc w b rb N done) : Puts w b rb N done [] w := ⟨by simpa using h, Kept.refl _ _⟩
end
section
open Go Go.Proofs Go.RowKit
def i32s (xs : List Int) : List Value := xs.map (Value.int .i32)
def be32s (xs : List Int) : List Value := xs.flatMap (fun x => be32 (x % 4294967296))
theorem be32s_length (xs : List Int) : (be32s xs).length = 4 * xs.length := by
 induction xs with
 | nil => rfl
 | cons x xs ih => simp only [be32s, List.flatMap_cons, List.length_append, List.length_cons] at *; rw [ih]; simp [be32]; omega
def isI32 (x : Int) : Prop := -2147483648 ≤ x ∧ x ≤ 2147483647
theorem SlAt.cases {w : World} {sz : Nat} {a : Option Addr} {n m c : Nat} {cs : List Value} (h : SlAt w sz (.slice a n c) m cs) : n = m ∧ ((True ∧ n = 0 ∧ cs = []) ∨ ∃ g off, a = some ⟨g, off, none⟩ ∧ ∀ j u, cs[j]? = some u → w.cell? ⟨g, off + j, none⟩ = some u) := by
 obtain ⟨h1, h2, ⟨a', c', h3, h4⟩ | ⟨g, off, cap, h3, h4⟩⟩ := h
 · cases h3; exact ⟨h4.symm, .inl ⟨trivial, rfl, List.eq_nil_of_length_eq_zero (by rw [h1, h4]; simp)⟩⟩
 · cases h3; exact ⟨rfl, .inr ⟨g, off, rfl, h4⟩⟩
end
section
open Go Go.Proofs Go.RowKit
def encStr (s : ByteArray) : List Value := be16 s.size ++ byteCells s
def encInts (xs : List Int) : List Value := be32 xs.length ++ be32s xs
structure IsMeth (T : TypeId) (name : String) (f : FuncId) : Prop where
 m : ∀ (a : Addr) (w : World), (method 643 T (.pointer (some a)) name).run Tryz.prog w = .ok (f, .pointer (some a)) w
 n : ∀ (a : Addr) (w : World), (nilAhead 643 T (.pointer (some a)) name).run Tryz.prog w = .ok (some false) w
 c : ∀ (args : Array Value) (w : World), (callFunc f args).run Tryz.prog w = .ok (.enter f args) w
theorem encStr_length (s : ByteArray) : (encStr s).length = 2 + s.size := by simp [encStr, be16, byteCells_length]; omega
theorem encInts_length (xs : List Int) : (encInts xs).length = 4 + 4 * xs.length := by simp [encInts, be32, be32s_length]; omega
end
section
open Go Go.Proofs Go.RowKit
abbrev Tops := List (ByteArray × Value × List Int)
def rawT (L : Tops) : List (Value × Value) := L.map fun x => (.string x.1, x.2.1)
def SlInts (w : World) (v : Value) (xs : List Int) : Prop := (∃ a c, v = .slice a xs.length c) ∧ SlAt w 1 v xs.length (i32s xs) ∧ ∀ x ∈ xs, isI32 x
structure TopsAt (w : World) (r : Nat) (L : Tops) : Prop where
 map : MapAt w isStr r (rawT L)
 parts : ∀ x ∈ L, SlInts w x.2.1 x.2.2
theorem SlInts.kept {w w' : World} {v : Value} {xs : List Int} {S : List Nat} (h : SlInts w v xs) (k : Kept S w w') (hs : ∀ g, v.ownBlock = some g → g ∉ S) : SlInts w' v xs :=
 ⟨h.1, h.2.1.kept k hs, h.2.2⟩
theorem TopsAt.kept {w w' : World} {r : Nat} {L : Tops} {S : List Nat} (h : TopsAt w r L) (k : Kept S w w') (hr : r ∉ S) (hs : ∀ x ∈ L, ∀ g, x.2.1.ownBlock = some g → g ∉ S) : TopsAt w' r L :=
 ⟨h.map.kept k hr, fun x hx => (h.parts x hx).kept k (hs x hx)⟩
theorem rawT_split {L : Tops} {l1 l2 : List (Value × Value)} {k v : Value} (h : rawT L = l1 ++ (k, v) :: l2) :
 ∃ L1 x L2, L = L1 ++ x :: L2 ∧ l1 = rawT L1 ∧ l2 = rawT L2 ∧ k = .string x.1 ∧ v = x.2.1 := by
 unfold rawT at *
 obtain ⟨L1, M, e1, e2, e3⟩ := List.map_eq_append_iff.1 h
 obtain ⟨x, L2, e4, e5, e6⟩ := List.map_eq_cons_iff.1 e3
 obtain ⟨h1, h2⟩ := Prod.mk.inj e5
 exact ⟨L1, x, L2, by rw [e1, e4], e2.symm, e6.symm, h1.symm, h2.symm⟩
def encT (x : ByteArray × Value × List Int) : List Value := encStr x.1 ++ encInts x.2.2
def encTs (L : Tops) : List Value := L.flatMap encT
theorem encTs_perm_length {L M : Tops} (h : L.Perm M) : (encTs L).length = (encTs M).length := by
 unfold encTs; exact (h.flatMap_right encT).length_eq
def encV1 (L : Tops) (gen : Int) : List Value := be32 L.length ++ encTs L ++ be32 (gen % 4294967296)
end
section
open Go Go.Proofs Go.RowKit
theorem info5' : (Tryz.prog.info? 5).map (fun i => (i.zero, i.size, i.bytes)) = some (some (.int .u8 0), 1, 1) := by kernel_rfl
end
end Go.Proofs.YticcnlpfmekagaaGreat
