/- Part 30 of 51 of the proof of the row: the texts UdB. -/
import Derived.Test.YticcnlpfmekagaaGreatRd29
namespace Go.Proofs.YticcnlpfmekagaaGreat
open Go Go.Proofs Go.RowKit
set_option linter.unusedVariables false
set_option linter.unusedSimpArgs false

/-! ## memberData (235), not cooperative; the sort of one number (236, 185) -/

/-- what the user data dv says, read in a world that keeps w -/
def UdIs (w : World) (dv : Value) (parts : List TP) (gen : Int) : Prop :=
  ∀ w1, Kept [] w w1 → Calls Tryz.prog 260 #[dv] w1 fun e w' => e = .returned (.tuple #[.iface 374 (.pointer (some ⟨w1.heap.size, 0, none⟩)), .nilIface]) ∧ UdAt w' w1.heap.size w1.heap.size parts gen ∧ Kept [] w1 w'
theorem UdIs.kept {w w' : World} {dv : Value} {parts : List TP} {gen : Int} (h : UdIs w dv parts gen) (k : Kept [] w w') : UdIs w' dv parts gen := fun w1 k1 => h w1 (k.trans k1 (by simp) (by simp))
theorem udIs_nil (w : World) : UdIs w (.slice none 0 0) [] 0 := fun w1 _ => deser_nil w1
theorem udIs_v1 (g off cap : Nat) (D : List (ByteArray × List Int)) (gen : Int) (w : World) (hsl : SlAt w 1 (.slice (some ⟨g, off, none⟩) (v1Bytes D gen).length cap) (v1Bytes D gen).length (v1Bytes D gen)) (hgw : g < w.heap.size) (hcap : (v1Bytes D gen).length ≤ cap) (hsm : (v1Bytes D gen).length ≤ 1000000000)
    (hgen : isI32 gen) (hnd : (D.map (·.1)).Nodup) (hD : ∀ x ∈ D, TPOk x) (hDl : D.length ≤ 1000000) (htot : (D.flatMap tpsOf).length ≤ 100000) : UdIs w (.slice (some ⟨g, off, none⟩) (v1Bytes D gen).length cap) (D.flatMap tpsOf) gen :=
  fun w1 k => deser_v1 g off cap D gen w1 (hsl.kept k (by simp)) (by have := k.size; omega) hcap hsm hgen hnd hD hDl htot

set_option maxRecDepth 100000 in
set_option maxHeartbeats 1000000 in
theorem member_data (ver gen : Int) (tv ov : Value) (da ta oa : Option Addr) (dn dc tn tc on oc : Nat) (ra : Option Addr) (parts : List TP) (dg : Int) (w : World) (h : UdIs w (.slice da dn dc) parts dg) :
    Calls Tryz.prog 235 #[.agg #[.int .i16 ver, .slice ta tn tc, .slice da dn dc, .slice oa on oc, .int .i32 gen, .pointer ra], .bool false] w fun e w' =>
      ∃ m, e = .returned (.tuple #[.iface 374 (.pointer (some ⟨m, 0, none⟩)), .nilIface]) ∧ w.heap.size ≤ m ∧ UdAt w' w.heap.size m parts dg ∧ Kept [] w w' := by
  have hk0 : Kept [] w (w.alloc (.cells #[.int .i16 ver, .slice ta tn tc, .slice da dn dc, .slice oa on oc, .int .i32 gen, .pointer ra] 78)) := (Kept.refl _ _).alloc _
  have h1 := h _ hk0
  have H1 := Lib.hid h1; clear h1 h
  go_enter Tryz.func235, Tryz.ntmps235
  go_wp2_with (first
    | (go_at_call 260
       refine H1.out.mono ?_
       rintro e w2 ⟨rfl, hpost, hk2⟩
       have HP := Lib.hid (And.intro hpost hk2); clear hpost hk2)
    | fail)
  go_ret2
  obtain ⟨⟨mv, v, N, ps, q1, q2, q3, q4, q5⟩, hk2⟩ := HP.out
  exact ⟨_, rfl, by simp, ⟨mv, v, N, ps, by simpa using q1, q2, q3, q4, fun y hy => by have := q5 y hy; simp at this; omega⟩, hk0.trans hk2 (by simp) (by simp)⟩

theorem rev_row : (Tryz.prog.info? 441).bind (fun i => (i.methods.find? (·.name == "Len")).map fun m => (m.path.toList.map fun s => (s.struct, s.index, s.deref), m.func)) = some ([(443, 0, true)], none) := by kernel_rfl
theorem is_row : (Tryz.prog.info? 404).bind (fun i => (i.methods.find? (·.name == "Len")).map fun m => (m.path.toList.length, m.func)) = some (0, some (412, false)) := by kernel_rfl
theorem is_len (k : Nat) (v : Option Addr) (n c : Nat) (w : World) : (method (k + 1) 404 (.slice v n c) "Len").run Tryz.prog w = .ok (412, .slice v n c) w := by
  obtain ⟨i, hi, h2⟩ := Option.bind_eq_some_iff.1 is_row
  obtain ⟨m, hm, h3⟩ := Option.map_eq_some_iff.1 h2
  simp only [Prod.mk.injEq] at h3
  obtain ⟨h4, h5⟩ := h3
  have h6 : m.path.toList = [] := List.length_eq_zero_iff.1 h4
  have h8 : (typeInfo 404).run Tryz.prog w = .ok i w := by simp [typeInfo, go_sem, hi]
  rw [method, Sem.run_bind, h8, Result.andThen_ok, hm]
  simp only [h6, h5, follow, pure_bind, receiverAt, Sem.run_bind]
  have h9 : (underlying 404).run Tryz.prog w = .ok (.slice 3) w := by simp [go_sem]
  rw [h9, Result.andThen_ok]
  simp only [Place.get, Sem.run_pure, Result.andThen_ok]
theorem rev_len (b : Nat) (v : Option Addr) (n c : Nat) (w : World) (h : w.cell? ⟨b, 0, none⟩ = some (.iface 404 (.slice v n c))) :
    (method 643 441 (.pointer (some ⟨b, 0, none⟩)) "Len").run Tryz.prog w = .ok (412, .slice v n c) w := by
  obtain ⟨i, hi, h2⟩ := Option.bind_eq_some_iff.1 rev_row
  obtain ⟨m, hm, h3⟩ := Option.map_eq_some_iff.1 h2
  simp only [Prod.mk.injEq] at h3
  obtain ⟨h4, h5⟩ := h3
  obtain ⟨s, h6, h7⟩ := List.map_eq_singleton_iff.1 h4
  simp only [Prod.mk.injEq] at h7
  obtain ⟨e1, e2, e3⟩ := h7
  have h8 : (typeInfo 441).run Tryz.prog w = .ok i w := by simp [typeInfo, go_sem, hi]
  rw [method, Sem.run_bind, h8, Result.andThen_ok, hm]
  simp only [h6, h5, follow, e1, e2, e3]
  have h9 : (underlying 443).run Tryz.prog w = .ok (.struct #[{ name := "Interface", type := 333, offset := 0, embedded := true, tag := "", pkgPath := "", byteOffset := 0 }]) w := by simp [go_sem, Tryz.underlying443]
  have h10 : (fieldPlace ⟨b, 0, none⟩ { name := "Interface", type := 333, offset := 0, embedded := true, tag := "", pkgPath := "", byteOffset := 0 }).run Tryz.prog w = .ok ⟨b, 0, none⟩ w := by simp [fieldPlace, go_sem]
  have h11 : (loadVar 333 ⟨b, 0, none⟩).run Tryz.prog w = .ok (.iface 404 (.slice v n c)) w := by simp [go_sem, h]
  simp only [Sem.run_bind, h9, Result.andThen_ok, List.getElem?_toArray, List.getElem?_cons_zero, if_true, Place.get, pure_bind, asAddr, h10, Sem.run_pure, h11, is_len]
set_option maxRecDepth 100000 in
set_option maxHeartbeats 1000000 in
theorem int_len (v : Option Addr) (n c : Nat) (w : World) : Calls Tryz.prog 412 #[.slice v n c] w fun e w' => e = .returned (.int .i64 n) ∧ w' = w := by
  go_enter Tryz.func412, Tryz.ntmps412
  go_wp2
  go_ret
  exact ⟨rfl, rfl⟩
set_option maxRecDepth 100000 in
set_option maxHeartbeats 1000000 in
theorem rev_any (v : Option Addr) (n c : Nat) (w : World) : Calls Tryz.prog 236 #[.iface 404 (.slice v n c)] w fun e w' => e = .returned (.iface 441 (.pointer (some ⟨w.heap.size, 0, none⟩))) ∧ w' = w.alloc (.cells #[.iface 404 (.slice v n c)] 443) := by
  go_enter Tryz.func236, Tryz.ntmps236
  go_wp2
  go_ret
  exact ⟨rfl, rfl⟩
set_option maxRecDepth 100000 in
set_option maxHeartbeats 1000000 in
theorem sort_one (b : Nat) (v : Option Addr) (c : Nat) (w : World) (h : w.cell? ⟨b, 0, none⟩ = some (.iface 404 (.slice v 1 c))) :
    Calls Tryz.prog 185 #[.iface 441 (.pointer (some ⟨b, 0, none⟩))] w fun e w' => e = .returned (.tuple #[]) ∧ w' = w := by
  have hm := rev_len b v 1 c w h
  go_enter Tryz.func185, Tryz.ntmps185
  go_wp2_with (first
    | (go_at_call 412; refine (int_len _ 1 _ _).mono ?_; rintro e w6 ⟨rfl, rfl⟩)
    | fail)
  refine bodyPost_ret (results_none rfl _ _ _) rfl ?_
  exact ⟨rfl, rfl⟩
end Go.Proofs.YticcnlpfmekagaaGreat
