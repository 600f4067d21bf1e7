import Derived.Test.YticcnlpfmekagaaGreatMDec2
import Derived.Test.YticcnlpfmekagaaGreatMSpec
namespace Go.Proofs.YticcnlpfmekagaaGreat
open Go Go.Proofs Go.RowKit
set_option linter.unusedVariables false
set_option linter.unusedSimpArgs false

/-! ## MemberRead -/

theorem memMeth : IsMeth 109 "pub-kestrel/pub/sarama.decode" 154 := ⟨fun _ _ => by kernel_rfl, fun _ _ => by kernel_rfl, fun _ _ => by kernel_rfl⟩

theorem ownB_u8 (ver : Int) (L : List Shr) (hl : L.length ≤ 10) (h : ∀ x ∈ L, x.top.size ≤ 50 ∧ x.parts.length ≤ 20) : U8L (ownB ver L) := by
  unfold ownB
  split
  · exact (be32_u8 _ (by omega) (by omega)).app (U8L.flat fun x hx => (encStr_u8 _ (by have := h x hx; omega)).app (encInts_u8 _ (by have := h x hx; omega)))
  · intro u hu; simp at hu
theorem memBytes_u8 (m : Mem) (hf : MemFit m) (hu : U8L m.data) : U8L (memBytes m) := by
  have hv := hf.ver
  refine ((((((be16_u8 _ (by omega) (by omega)).app (be32_u8 _ (by omega) (by have := hf.tops.1; omega))).app (U8L.flat fun x hx => encStr_u8 x (by have := hf.tops.2 x hx; omega))).app (specData_u8 _ (by have := hf.data; omega) hu)).app (ownB_u8 _ _ hf.owned.2 (fun x hx => (hf.owned.1 x hx).2))).app ?_).app ?_
  · unfold genB
    split
    · exact be32_u8 _ (by omega) (by omega)
    · intro u hu; simp at hu
  · unfold rackB
    split
    · split
      · exact encStr_u8 _ (by have := hf.rack.1; omega)
      · intro u hu
        simp at hu
        subst hu
        exact ⟨255, rfl, by unfold isU8; omega⟩
    · intro u hu; simp at hu
theorem ownB_le (ver : Int) (L : List Shr) (hl : L.length ≤ 10) (h : ∀ x ∈ L, x.top.size ≤ 50 ∧ x.parts.length ≤ 20) : (ownB ver L).length ≤ 1400 := by
  unfold ownB
  split
  · have := shrsBytes_le L h
    rw [List.length_append]
    have h4 : (be32 (L.length : Int)).length = 4 := rfl
    omega
  · simp
theorem memBytes_le (m : Mem) (hf : MemFit m) : (memBytes m).length ≤ 3000 ∧ 6 ≤ (memBytes m).length := by
  have h1 := encStrs_le m.tops m.tops.length hf.tops.2
  rw [List.take_length] at h1
  have h2 := specData_le m.data
  have h3 := ownB_le m.ver m.owned hf.owned.2 (fun x hx => (hf.owned.1 x hx).2)
  have h4 : (genB m.ver m.gen).length ≤ 4 := by unfold genB; split <;> simp [be32]
  have h5 : (rackB m.ver m.has m.rack).length ≤ 52 := by
    unfold rackB
    split
    · split
      · rw [encStr_length]; have := hf.rack.1; omega
      · simp
    · simp
  have h6 := hf.tops.1
  have h7 := hf.data
  unfold memBytes
  simp only [List.length_append, be16, be32, List.length_cons, List.length_nil]
  omega

set_option maxRecDepth 100000 in
set_option maxHeartbeats 1000000 in
theorem getMem_any (p g off cap : Nat) (m : Mem) (w : World) (hp : w.cell? ⟨p, 5, none⟩ = some (.slice (some ⟨g, off, none⟩) (memBytes m).length cap))
    (hsl : SlAt w 1 (.slice (some ⟨g, off, none⟩) (memBytes m).length cap) (memBytes m).length (memBytes m)) (hgw : g < w.heap.size) (hcap : (memBytes m).length ≤ cap)
    (hf : MemFit m) (hgen : isI32 m.gen) (hpi : ∀ x ∈ m.owned, ∀ y ∈ x.parts, isI32 y) (hu : U8L m.data) :
    Calls Tryz.prog 60 #[.pointer (some ⟨p, 0, none⟩)] w fun e w' => e = .returned (.tuple #[.pointer (some ⟨w.heap.size, 0, none⟩), .nilIface]) ∧ MemDec w' w.heap.size w.heap.size g m ∧ Kept [] w w' := by
  have hu8 := memBytes_u8 m hf hu
  obtain ⟨hle, hge⟩ := memBytes_le m hf
  have hne : ¬ (((memBytes m).length : Int) = 0) := by omega
  have hk0 : Kept [] w (w.alloc (.cells #[.int .i16 0, .slice none 0 0, .slice none 0 0, .slice none 0 0, .int .i32 0, .pointer none] 78)) := (Kept.refl _ _).alloc _
  have hcp := hk0.cell hp (by simp)
  have hm0 : (w.alloc (.cells #[.int .i16 0, .slice none 0 0, .slice none 0 0, .slice none 0 0, .int .i32 0, .pointer none] 78)).heap[w.heap.size]? = some (.cells #[.int .i16 0, .slice none 0 0, .slice none 0 0, .slice none 0 0, .int .i32 0, .pointer none] 78 (0, 0)) := heap_alloc_new w _
  have hdc := decode_any 109 154 memMeth w.heap.size g off cap (memBytes m) (w.alloc (.cells #[.int .i16 0, .slice none 0 0, .slice none 0 0, .slice none 0 0, .int .i32 0, .pointer none] 78)) (fun w' => MemDec w' w.heap.size w.heap.size g m) (hsl.kept hk0 (by simp)) hu8 (by simp; omega) hcap (by omega) (by
    intro w1 hk1 hl1 hd1
    have hm1 := hk1.heap hm0 (by simp)
    have hs1 := hk1.size
    simp only [World.size_alloc] at hs1 hl1
    refine (mem_decode _ g off cap w.heap.size m w1 hd1 hm1 (by simp) (by omega) (by omega) hf hgen hpi).mono ?_
    rintro e w' ⟨rfl, h1, ⟨tv, dv, ov, rk, OL, h2, h3, h4, h5, h6, h7, h8, h9, h10, h11, h12⟩, hk⟩
    exact ⟨rfl, h1, ⟨tv, dv, ov, rk, OL, h2, h3, h4, h5, h6, h7, h8, h9, h10, fun y hy => by have := h11 y hy; omega, fun a ha => by have := h12 a ha; omega⟩, hk⟩)
  have HD := Lib.hid hdc; clear hdc
  clear hm0 hu8 hsl hle hge
  generalize (memBytes m).length = N at *
  go_enter Tryz.func60, Tryz.ntmps60
  go_wp2_with (first
    | (go_at_call 82
       refine HD.out.mono ?_
       rintro e w2 ⟨rfl, hpost, hk2⟩
       have HP := Lib.hid (And.intro hpost hk2); clear hpost hk2)
    | fail)
  go_ret2
  exact ⟨rfl, HP.out.1, hk0.trans HP.out.2 (by simp) (by simp)⟩
end Go.Proofs.YticcnlpfmekagaaGreat
