import Derived.Test.YticcnlpfmekagaaGreatSl
import Derived.Deep.AppendSrc
namespace Go.Proofs.YticcnlpfmekagaaGreat
open Go Go.Proofs Go.RowKit
set_option linter.unusedVariables false
set_option linter.unusedSimpArgs false

/-! ## append to nil, exactly -/
section
variable {P : Program} {w : World} {E sz bytes : Nat} {z : Value} {T : TypeId}
/-- what append to nil hands back -/
def AppN (w w' : World) (E sz m : Nat) (ys : List Value) (v' : Value) : Prop :=
  ∃ a c, v' = .slice a m c ∧ (m = 0 → a = none ∧ c = 0) ∧ (m ≠ 0 → a = some ⟨w.heap.size, 0, none⟩) ∧ m ≤ c ∧ w'.ownsRow 0 E sz v' m ys ∧ Kept [] w w'
theorem run_app_nil (el : Elem P T E sz bytes z) {tx : TypeId} {ty : TypeId} {x : Value} {m : Nat} {ys : List Value} (hsrc : Src P sz tx x m ys w)
    (hb : (4 * m + 1024) * bytes ≤ 281474976710656) (hm : m ≤ 281474976710656) :
    ∃ v' w', (Builtin.append_ #[T, tx] ty #[.slice none 0 0, x]).run P w = .ok v' w' ∧ AppN w w' E sz m ys v' := by
  obtain ⟨v', w', h1, h2, h3, h4⟩ := run_app (ty := ty) el (World.ownsRow_nil w 0 E sz) hsrc (by simpa using hb) (by simpa using hm)
  by_cases hm0 : m = 0
  · subst hm0
    have hn : ys = [] := List.eq_nil_of_length_eq_zero (by simpa using hsrc.newsLen)
    subst hn
    obtain ⟨ht, ⟨i, hi, hz, hsz, hby⟩, hzs, hpos⟩ := el
    subst hsz
    subst hby
    refine ⟨.slice none 0 0, w, ?_, none, 0, rfl, by simp, by simp, by simp, World.ownsRow_nil w 0 E i.size, Kept.refl _ _⟩
    rcases hsrc.kind with ⟨e', hk⟩ | hk <;>
      simp [Builtin.append_, run_underlying ht, run_underlying hk, sizeOf, typeInfo, hi, hsrc.len, hsrc.cells]
  · rw [Nat.zero_add, List.nil_append] at h2
    refine ⟨v', w', h1, ?_⟩
    rcases h2.2 with ⟨rfl, e2⟩ | ⟨g, cap, cur, rfl, _, hg, hnc, _⟩
    · omega
    · have hgg : g = w.heap.size := by
        rcases h4 with ⟨q1, _⟩ | ⟨q1, _⟩
        · simp [Value.ownBlock] at q1
        · simpa [Value.ownBlock] using q1
      subst hgg
      exact ⟨_, _, rfl, fun h => absurd h hm0, fun _ => rfl, hnc, h2, by simpa [Value.ownBlock] using h3⟩
variable {ops : Array Oper} {o : Oper} {a : Act} {rest : List Oper} {K : Act → World → Prop} {Q : Exit → Act → World → Prop} {G : Prop}
theorem wp_appN {s x : Operand} {tx : TypeId} (ho : o.op = .call { callee := .builtin .append, args := #[s, x], argTypes := #[T, tx] }) (el : Elem P T E sz bytes z)
    {xv : Value} {m : Nat} {ys : List Value} (hs : a.eval s = .slice none 0 0) (hx : a.eval x = xv) (hsrc : Src P sz tx xv m ys w)
    (hb : (4 * m + 1024) * bytes ≤ 281474976710656) (hm : m ≤ 281474976710656)
    (h : ∀ v' w', AppN w w' E sz m ys v' → K (a.put o.dst v') w') : Oper.wp P o a w K Q := by
  obtain ⟨v', w', hrun, h1⟩ := run_app_nil (ty := o.type) el hsrc hb hm
  refine wp_val (w' := w') (v := v') ?_ (h _ _ h1)
  simp [execOp, ho, resolve, invoke, builtin, hs, hx, hrun, Result.andThen]
theorem wl_appN {s x : Operand} {tx : TypeId} (hgd : o.guard = none) (ho : o.op = .call { callee := .builtin .append, args := #[s, x], argTypes := #[T, tx] }) (el : Elem P T E sz bytes z)
    {xv : Value} {m : Nat} {ys : List Value} (hs : a.eval s = .slice none 0 0) (hx : a.eval x = xv) (hsrc : Src P sz tx xv m ys w)
    (hb : (4 * m + 1024) * bytes ≤ 281474976710656) (hm : m ≤ 281474976710656)
    (h : ∀ v' w', AppN w w' E sz m ys v' → wpList P ops Q rest (a.put o.dst v') w') : wpList P ops Q (o :: rest) a w :=
  wl_of hgd fun _ hh => wp_appN ho el hs hx hsrc hb hm (fun v' w' h1 => hh _ _ (h v' w' h1))
theorem sl_appN {s x : Operand} {tx : TypeId} (hgd : o.guard = none) (ho : o.op = .call { callee := .builtin .append, args := #[s, x], argTypes := #[T, tx] }) (el : Elem P T E sz bytes z)
    {xv : Value} {m : Nat} {ys : List Value} (hs : a.eval s = .slice none 0 0) (hx : a.eval x = xv) (hsrc : Src P sz tx xv m ys w)
    (hb : (4 * m + 1024) * bytes ≤ 281474976710656) (hm : m ≤ 281474976710656)
    (h : ∀ v' w', AppN w w' E sz m ys v' → K (a.put o.dst v') w') : if Region.wanted o (yielded ops a.tmps) = true then Oper.wp P o a w K Q else G :=
  sl_of hgd (wp_appN ho el hs hx hsrc hb hm h)
end
end Go.Proofs.YticcnlpfmekagaaGreat
