/- Short names for laws that the proof of the row calls often. -/
import Derived.Lib.Hide
namespace Go.Proofs.YticcnlpfmekagaaGreat
universe u
theorem Zan {a b : Prop} (h : a) (k : b) : a ∧ b := ⟨h, k⟩
theorem Zhd {P : Prop} (h : P) : Go.RowKit.Hid P := h
theorem Zs0 {α : Type u} {a b : α} {l : List α} : (a :: l).set 0 b = b :: l := rfl
theorem Zs1 {α : Type u} {a b : α} {l : List α} {n : Nat} : (a :: l).set (n + 1) b = a :: l.set n b := rfl
theorem Ze0 {α : Type u} {a : α} {l : List α} : (a :: l).eraseIdx 0 = l := rfl
theorem Ze1 {α : Type u} {a : α} {l : List α} {n : Nat} : (a :: l).eraseIdx (n + 1) = a :: l.eraseIdx n := rfl
theorem Zap {α : Type u} {a : α} {s t : List α} : a ∈ s ++ t ↔ a ∈ s ∨ a ∈ t := List.mem_append
theorem Znn {α : Type u} {a : α} : ¬ a ∈ ([] : List α) := List.not_mem_nil
theorem Zmc {α : Type u} {a b : α} {l : List α} : a ∈ b :: l ↔ a = b ∨ a ∈ l := List.mem_cons
end Go.Proofs.YticcnlpfmekagaaGreat
