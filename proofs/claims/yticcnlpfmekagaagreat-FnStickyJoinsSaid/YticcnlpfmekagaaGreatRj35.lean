/- Part 35 of the proof of the row: PfP. -/
import Derived.Test.YticcnlpfmekagaaGreatRj00
import Derived.Test.YticcnlpfmekagaaGreatRj34
set_option linter.unusedVariables false
set_option linter.unusedSimpArgs false
set_option maxRecDepth 100000
set_option maxHeartbeats 8000000
namespace Go.Proofs.YticcnlpfmekagaaGreat
section
open Go Go.Proofs Go.RowKit Go.Lib
open Classical
theorem mem_putE_self (l : List (Value × Value)) (k v : Value) : (k, v) ∈ putE l k v := by
 unfold putE
 split
 · rename_i h
   obtain ⟨u, hu⟩ := h
   exact List.mem_map.2 ⟨_, hu, by simp⟩
 · simp
theorem mem_putE_oth {l : List (Value × Value)} {k v k' v' : Value} (h : (k', v') ∈ l) (hne : k' ≠ k) : (k', v') ∈ putE l k v := by
 unfold putE
 split
 · exact List.mem_map.2 ⟨_, h, by simp [hne]⟩
 · exact List.mem_append_left _ h
theorem asgT_ks (A : List Rw) : ks (asgT A) = A.map (·.1) := by simp [ks, asgT, Function.comp_def]
theorem row_of {A : List Rw} (hn : (A.map (·.1)).Nodup) {x : Rw} (hx : x ∈ A) : rowOf (asgT A) x.1 = x.2.2 :=
 rowOf_mem (by rw [← asgT_ks] at hn; exact hn) (List.mem_map.2 ⟨x, hx, rfl⟩)
theorem row_ex {A : List Rw} (hn : (A.map (·.1)).Nodup) {m : ByteArray} (hm : m ∈ A.map (·.1)) : ∃ v, (m, v, rowOf (asgT A) m) ∈ A := by
 obtain ⟨x, hx, rfl⟩ := List.mem_map.1 hm
 exact ⟨x.2.1, by rw [row_of hn hx]; exact hx⟩
theorem ld_row {A : List Rw} (hn : (A.map (·.1)).Nodup) {x : Rw} (hx : x ∈ A) : ld (asgT A) x.1 = x.2.2.length := by unfold ld; rw [row_of hn hx]
theorem near_rows {A : List Rw} (hn : (A.map (·.1)).Nodup) : NearK (asgT A) ↔ Near (A.map (·.2.2.length)) := by
 rw [nearK_iff (by rw [asgT_ks]; exact hn)]
 have : loads (asgT A) = A.map (·.2.2.length) := by simp [loads, asgT, Function.comp_def]
 rw [this]
theorem cpc_step {A A2 : List Rw} {lq : List (Value × Value)} {c d : ByteArray} {p : TP} (hn : (A.map (·.1)).Nodup) (hn2 : (A2.map (·.1)).Nodup) (ha : (allOf (asgT A)).Nodup) (hk : A2.map (·.1) = A.map (·.1)) (hmv : Moved (asgT A) (asgT A2) c d p) (hcd : c ≠ d) (hc : c ∈ A.map (·.1))
 (h : ∀ x ∈ A, ∀ q ∈ x.2.2, (tpV q, Value.string x.1) ∈ lq) : ∀ x ∈ A2, ∀ q ∈ x.2.2, (tpV q, Value.string x.1) ∈ putE lq (tpV p) (.string d) := by
 have hks : (ks (asgT A)).Nodup := by rw [asgT_ks]; exact hn
 have hold : ∀ m ∈ A.map (·.1), ∀ q ∈ rowOf (asgT A) m, (tpV q, Value.string m) ∈ lq := fun m hm q hq => by
  obtain ⟨v, hv⟩ := row_ex hn hm
  exact h _ hv q hq
 have hpc : p ∈ rowOf (asgT A) c := hmv.src.mem_iff.2 (by simp)
 intro x hx q hq
 have hm : x.1 ∈ A.map (·.1) := by rw [← hk]; exact List.mem_map_of_mem hx
 rw [← row_of hn2 hx] at hq
 by_cases e1 : x.1 = d
 · by_cases e2 : q = p
   · subst e2
     rw [e1]; exact mem_putE_self _ _ _
   · rw [e1] at hq hm ⊢
     have h1 := hmv.dst.mem_iff.1 hq
     rcases Zmc.1 h1 with h1 | h1
     · exact absurd h1 e2
     · exact mem_putE_oth (hold d hm q h1) (fun e => e2 (tpV_inj e))
 · have hin : q ∈ rowOf (asgT A) x.1 ∧ q ≠ p := by
    by_cases e3 : x.1 = c
    · rw [e3] at hq ⊢
      have hnd : (rowOf (asgT A) c).Nodup := rows_nodup hks ha (by rw [asgT_ks]; exact hc)
      have h2 := hmv.src.nodup_iff.1 hnd
      rw [List.nodup_cons] at h2
      exact ⟨hmv.src.mem_iff.2 (List.mem_cons_of_mem _ hq), fun e => h2.1 (e ▸ hq)⟩
    · rw [hmv.oth x.1 e3 e1] at hq
      exact ⟨hq, fun e => by
       subst e
       exact e3 (rows_one hks ha (by rw [asgT_ks]; exact hm) (by rw [asgT_ks]; exact hc) hq hpc)⟩
   exact mem_putE_oth (hold x.1 hm q hin.1) (fun e => hin.2 (tpV_inj e))
def PfSt (S : List Nat) (w : World) (sp rb rm rc rq n : Nat) (cp : Bool) (Ks : List ByteArray) (P : List TP) (R : List Res) (vi : Value) (A : List Rw) (wr : World) : Prop :=
 ∃ lq L g c Gs E0 D I Mv, vi = .slice (some ⟨g, 0, none⟩) n c ∧ IdsOf A L ∧ Gain (asgT A) Gs ∧ MovOk (fun x => x ∈ Gs) (fun q => ∃ z ∈ Gs, q ∈ rowOf (asgT A) z) E0 D I Mv ∧ (∀ x ∈ A, ∀ p ∈ x.2.2, (tpV p, Value.string x.1) ∈ lq) ∧ A.map (·.1) = Ks ∧ (allOf (asgT A)).Perm P ∧
  St S w wr ([Rs.cur rc A, Rs.map rq isTp lq, Rs.ids vi n L] ++ movM sp rb rm cp E0 D I Mv) R
def Stuck (A : List Rw) (qs : List TP) : Prop := ∀ q ∈ qs, ∀ x ∈ A, q ∈ x.2.2 → ∀ y ∈ A, x.2.2.length ≤ y.2.2.length + 1
theorem stuck_near {A : List Rw} {zs : List TP} (hz : zs.Perm (allOf (asgT A))) (h : Stuck A zs) : Near (A.map (·.2.2.length)) := by
 intro a ha b hb
 obtain ⟨x, hx, rfl⟩ := List.mem_map.1 ha
 obtain ⟨y, hy, rfl⟩ := List.mem_map.1 hb
 cases hps : x.2.2 with
 | nil => simp
 | cons q qs =>
   have h1 : q ∈ zs := hz.mem_iff.2 (List.mem_flatMap.2 ⟨(x.1, x.2.2), List.mem_map.2 ⟨x, hx, rfl⟩, by simp [hps]⟩)
   have h2 := h q h1 x hx (by rw [hps]; simp) y hy
   rw [hps] at h2
   exact h2
def PfOut (S : List Nat) (w : World) (sp rb rm rc rq n : Nat) (cp : Bool) (Ks : List ByteArray) (P : List TP) (R : List Res) (Inv : Nat → Asg → Prop) (vi u : Value) (wr : World) (m : Nat) : Prop :=
 ∃ (A : List Rw) (b : Bool), u = .bool b ∧ Inv 0 (asgT A) ∧ sqs (asgT A) = m ∧ PfSt S w sp rb rm rc rq n cp Ks P R vi A wr
def PfIn (S : List Nat) (w : World) (sp rb rm rc rq n : Nat) (cp : Bool) (Ks : List ByteArray) (P zs : List TP) (kz : Nat) (R : List Res) (Inv : Nat → Asg → Prop) (m0 : Nat) (vi u md i : Value) (wr : World) : Prop :=
 ∃ (A : List Rw) (b d : Bool) (k : Nat), u = .bool b ∧ md = .bool d ∧ i = .int .i64 k ∧ k ≤ kz ∧ Inv k (asgT A) ∧ (d = false → sqs (asgT A) = m0 ∧ Stuck A (zs.take k)) ∧ (d = true → sqs (asgT A) < m0) ∧ PfSt S w sp rb rm rc rq n cp Ks P R vi A wr
def PfPost (S : List Nat) (w : World) (sp rb rm rc rq n : Nat) (cp : Bool) (Ks : List ByteArray) (P : List TP) (R : List Res) (Inv : Nat → Asg → Prop) (e : Ending) (w' : World) : Prop :=
 ∃ (A : List Rw) (b : Bool) (k : Nat) (vi : Value), e = .returned (.bool b) ∧ Inv k (asgT A) ∧ Near (A.map (·.2.2.length)) ∧ PfSt S w sp rb rm rc rq n cp Ks P R vi A w'
end
end Go.Proofs.YticcnlpfmekagaaGreat
