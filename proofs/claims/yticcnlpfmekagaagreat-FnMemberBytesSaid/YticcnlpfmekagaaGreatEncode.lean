import Derived.Test.YticcnlpfmekagaaGreatV1
namespace Go.Proofs.YticcnlpfmekagaaGreat
open Go Go.Proofs Go.RowKit
set_option linter.unusedVariables false
set_option linter.unusedSimpArgs false

/-! ## encode -/

/-- a type that tells no flexible version -/
def NoFlex (T : TypeId) : Prop := ∀ (a : Addr) (w : World), (Instr.typeAssert (.iface T (.pointer (some a))) 195 242 true).run Tryz.prog w = .ok (.tuple #[.nilIface, .bool false]) w

set_option maxRecDepth 100000 in
theorem flexEnc (pe : Value) (T : TypeId) (a : Addr) (hT : NoFlex T) (w : World) :
    Calls Tryz.prog 106 #[pe, .iface T (.pointer (some a))] w fun e w' => e = .returned pe ∧ w = w' := by
  have ht := hT a
  go_enter Tryz.func106, Tryz.ntmps106
  go_wp2
  go_ret
  exact ⟨rfl, rfl⟩

theorem info5' : (Tryz.prog.info? 5).map (fun i => (i.zero, i.size, i.bytes)) = some (some (.int .u8 0), 1, 1) := by kernel_rfl

theorem make_bytes (n : Nat) (hn : n ≤ 100000000) (w : World) : (Instr.makeSlice 28 (.int .i64 n) (.int .i64 n)).run Tryz.prog w = .ok (.slice (some ⟨w.heap.size, 0, none⟩) n n) (w.alloc (.cells (List.replicate n (.int .u8 0)).toArray 5)) := by
  obtain ⟨i, hi, h1, h2, h3⟩ : ∃ i, Tryz.prog.info? 5 = some i ∧ i.zero = some (.int .u8 0) ∧ i.size = 1 ∧ i.bytes = 1 := info_parts info5'
  have hr := run_make (P := Tryz.prog) w 28 5 i (.int .u8 0) Tryz.underlying28 hi h1 .i64 .i64 n n (by omega) (Int.le_refl _) (by rw [h3]; omega) (by omega)
  rw [hr, h2]
  have : madeCells (Value.int .u8 0).cells ((n : Int).toNat * 1) = (List.replicate n (.int .u8 0)).toArray := by
    apply Array.toList_inj.1
    have := toList_madeCells_one (.int .u8 0) n
    simpa [Value.cells] using this
  rw [this]; simp

set_option maxRecDepth 100000 in
set_option maxHeartbeats 1000000 in
theorem encode_any (T : TypeId) (f : FuncId) (ad : Addr) (hmeth : IsMeth T "pub-kestrel/pub/sarama.encode" f) (hT : NoFlex T) (w : World) (Bs : List Value → Prop) (len : Nat) (hlen : ∀ bs, Bs bs → bs.length = len) (hle : len ≤ 100000000)
    (henc : ∀ (s : Sink) (w' : World), Kept [] w w' → (∀ x ∈ s.own, w.heap.size ≤ x) → s.St [] w' → len ≤ s.max →
      Calls Tryz.prog f #[.pointer (some ad), .iface s.T (.pointer (some ⟨s.b, 0, none⟩))] w' fun e w'' => e = .returned .nilIface ∧ ∃ bs, Bs bs ∧ s.St bs w'' ∧ Kept s.own w' w'') :
    Calls Tryz.prog 80 #[.iface T (.pointer (some ad))] w fun e w' => ∃ rb bs, e = .returned (.tuple #[.slice (some ⟨rb, 0, none⟩) len len, .nilIface]) ∧ Bs bs ∧ Buf w' rb bs ∧ Kept [] w w' ∧ w.heap.size ≤ rb := by
  have hmt := hmeth.m
  have hnl := hmeth.n
  have hcf := hmeth.c
  have hmk := make_bytes len hle
  have HE := Lib.hid henc; clear henc
  have HL := Lib.hid hlen; clear hlen
  have HT := Lib.hid hT; clear hT
  have hp0 : Prep ((w.alloc (.cells #[.slice none 0 0, .int .i64 0] 198)).alloc (.cells #[.slice none 0 0, .int .i64 0, .slice none 0 0] 200)).drew w.heap.size 0 := by
    unfold Prep
    exact ha (heap_alloc_new w _)
  have HP0 := Lib.hid hp0; clear hp0
  go_enter Tryz.func80, Tryz.ntmps80
  go_wp2
  go_region_held3 (fun w' => True) (first | exact trivial)
    (first | (go_at_call 106; refine (flexEnc _ _ _ HT.out _).mono ?_; rintro e w1 ⟨rfl, rfl⟩) | (refine (HE.out (prepSink w.heap.size) _ (((Kept.refl [] w).alloc _).alloc _).drew (by simp [prepSink]) HP0.out hle).mono ?_; rintro e w1 ⟨rfl, bs, hbs, hst1, hk1⟩))
  all_goals
    have hk1 := hk1.of_drew
    have hp1 : Prep w1 w.heap.size len := by have := HL.out bs hbs; rw [← this]; exact hst1
    have hr1 : w1.heap[w.heap.size + 1]? = some (.cells #[.slice none 0 0, .int .i64 0, .slice none 0 0] 200 (0, 0)) := by
      refine hk1.heap ?_ (by simp [prepSink])
      have := heap_alloc_new (w.alloc (.cells #[.slice none 0 0, .int .i64 0] 198)) (.cells #[.slice none 0 0, .int .i64 0, .slice none 0 0] 200)
      simpa using this
    have hk01 : Kept [] w w1 := ((((Kept.refl [] w).alloc _).alloc _).trans hk1 (U := []) (by simp) (by simp [prepSink]))
    have hsz1 := hk1.size
    simp only [World.size_alloc] at hsz1
    have cl : w1.cell? ⟨w.heap.size, 1, none⟩ = some (.int .i64 len) := hp1.cell
    have cr : w1.cell? ⟨w.heap.size + 1, 0, none⟩ = some (.slice none 0 0) := by simp [World.cell?, hr1]
    have fr : w1.frozen? ⟨w.heap.size + 1, 0, none⟩ = false := by simp [World.frozen?, hr1]
    have HP1 := Lib.hid hp1; clear hp1
    have HR1 := Lib.hid hr1; clear hr1
    clear hst1
    have hlt1 : w.heap.size + 1 < w1.heap.size := by omega
    have hlt0 : w.heap.size < w1.heap.size := by omega
    have hd1 : decide ((len : Int) < 0) = false := by simp
    have hd2 : decide ((104857600 : Int) < (len : Int)) = false := by simp; omega
    go_wp2
    have henc0 : Enc ((w1.setCell ⟨w.heap.size + 1, 0, none⟩ (.slice (some ⟨w1.heap.size, 0, none⟩) len len)).alloc (.cells (Array.replicate len (.int .u8 0)) 5)).drew (w.heap.size + 1) w1.heap.size len [] := by
      refine ⟨?_, ⟨List.replicate len (.int .u8 0), ?_, by simp, fun v hv => ⟨0, (List.mem_replicate.1 hv).2⟩⟩, by omega⟩
      · refine ha ?_
        have := HR1.out
        simp [World.setCell, Array.getElem?_modify, this]
      · have h := heap_alloc_new (w1.setCell ⟨w.heap.size + 1, 0, none⟩ (.slice (some ⟨w1.heap.size, 0, none⟩) len len)) (.cells (Array.replicate len (.int .u8 0)) 5)
        rw [World.size_setCell] at h
        have e : ([] ++ List.replicate len (Value.int .u8 0)).toArray = Array.replicate len (Value.int .u8 0) := by simp
        unfold Buf; rw [e]; exact h
    have HE0 := Lib.hid henc0; clear henc0
    have hkk : Kept [] w ((w1.setCell ⟨w.heap.size + 1, 0, none⟩ (.slice (some ⟨w1.heap.size, 0, none⟩) len len)).alloc (.cells (Array.replicate len (.int .u8 0)) 5)).drew :=
      ((hk01.setCell _ (by simp)).alloc _).drew
    have HKK := Lib.hid hkk; clear hkk
    go_region_held3 (fun w' => True) (first | exact trivial)
      (first | (go_at_call 106; refine (flexEnc _ _ _ HT.out _).mono ?_; rintro e w2 ⟨rfl, rfl⟩) | (refine (HE.out (realSink (w.heap.size + 1) w1.heap.size len hle) _ HKK.out (by simp [realSink]; omega) HE0.out (Nat.le_refl _)).mono ?_; rintro e w2 ⟨rfl, bs2, hbs2, hst2, hk2⟩))
    all_goals
      have hst2' : Enc w2 (w.heap.size + 1) w1.heap.size len bs2 := hst2
      have c2 := hst2'.c0
      have hl2 := HL.out _ hbs2
      have HST := Lib.hid hst2'; clear hst2' hst2
      have HL2 := Lib.hid hl2; clear hl2
      go_wp2
      go_ret2
      refine ⟨w1.heap.size, bs2, rfl, hbs2, ?_, HKK.out.trans hk2 (by simp) (by simp [realSink]; omega), by omega⟩
      obtain ⟨rest, h1, h2, _⟩ := HST.out.buf
      have : rest = [] := by
        apply List.eq_nil_of_length_eq_zero
        have := HL2.out
        simp at h2; omega
      subst this
      simpa using h1
end Go.Proofs.YticcnlpfmekagaaGreat
