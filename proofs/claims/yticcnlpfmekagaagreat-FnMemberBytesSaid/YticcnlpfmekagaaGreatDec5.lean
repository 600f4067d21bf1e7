import Derived.Test.YticcnlpfmekagaaGreatDec4
namespace Go.Proofs.YticcnlpfmekagaaGreat
open Go Go.Proofs Go.RowKit
set_option linter.unusedVariables false
set_option linter.unusedSimpArgs false

/-! ## decode -/

set_option maxRecDepth 100000 in
set_option maxHeartbeats 1000000 in
theorem decode_any (T : TypeId) (f : FuncId) (hmeth : IsMeth T "pub-kestrel/pub/sarama.decode" f) (m g off cap : Nat) (cs : List Value) (w : World) (Post : World → Prop) (hsl : SlAt w 1 (.slice (some ⟨g, off, none⟩) cs.length cap) cs.length cs) (hu : ∀ u ∈ cs, ∃ x, u = .int .u8 x ∧ isU8 x)
    (hgw : g < w.heap.size) (hcap : cs.length ≤ cap) (hsm : cs.length ≤ 1000000000)
    (hdec : ∀ w1, Kept [] w w1 → w.heap.size < w1.heap.size → Dec w1 w.heap.size g off cap cs 0 → Calls Tryz.prog f #[.pointer (some ⟨m, 0, none⟩), .iface 215 (.pointer (some ⟨w.heap.size, 0, none⟩))] w1 fun e w' => e = .returned .nilIface ∧ Dec w' w.heap.size g off cap cs cs.length ∧ Post w' ∧ Kept [w.heap.size, m] w1 w') :
    Calls Tryz.prog 82 #[.slice (some ⟨g, off, none⟩) cs.length cap, .iface T (.pointer (some ⟨m, 0, none⟩))] w fun e w' => e = .returned .nilIface ∧ Post w' ∧ Kept [m] w w' := by
  have hmt := hmeth.m
  have hnl := hmeth.n
  have hcf := hmeth.c
  have hnil := fun w => Lib.run_eql_slice_nil (P := Tryz.prog) w 28 5 (some ⟨g, off, none⟩) cs.length cap 0 0 Tryz.underlying28
  have hd : ∀ W : World, W = w.alloc (.cells #[.slice (some ⟨g, off, none⟩) cs.length cap, .int .i64 0, .slice none 0 0] 213) → Dec W w.heap.size g off cap cs 0 ∧ Kept [] w W ∧ w.heap.size < W.heap.size := by
    intro W e
    subst e
    refine ⟨⟨heap_alloc_new w _, fun j u hj => ca (hsl.cell hj), hu, by omega, hcap, hsm, Nat.zero_le _⟩, (Kept.refl _ _).alloc _, by simp⟩
  obtain ⟨hd1, hk1, hl1⟩ := hd _ rfl
  have hc := hdec _ hk1 hl1 hd1
  have HC := Lib.hid hc; clear hc
  have HK1 := Lib.hid hk1; clear hk1
  clear hd hd1 hdec hu hsl hl1
  generalize hN : cs.length = N at *
  have HN := Lib.hid hN; clear hN
  go_enter Tryz.func82, Tryz.ntmps82
  go_wp2_with (first
    | (refine HC.out.mono ?_
       rintro e w2 ⟨rfl, hd2, hpost, hk2⟩
       have c1 := hd2.c1
       have HP := Lib.hid hpost; clear hpost
       clear hd2)
    | fail)
  go_ret
  exact ⟨rfl, HP.out, HK1.out.trans hk2 (by simp) (by simp <;> omega)⟩


def U8L (l : List Value) : Prop := ∀ u ∈ l, ∃ x, u = Value.int .u8 x ∧ isU8 x
theorem U8L.app {a b : List Value} (ha : U8L a) (hb : U8L b) : U8L (a ++ b) := fun u hu => by
  rcases List.mem_append.1 hu with h | h
  · exact ha u h
  · exact hb u h
theorem U8L.flat {α : Type} {f : α → List Value} {L : List α} (h : ∀ x ∈ L, U8L (f x)) : U8L (L.flatMap f) := fun u hu => by
  obtain ⟨x, hx, hu⟩ := List.mem_flatMap.1 hu
  exact h x hx u hu
theorem be16_u8 (x : Int) (h0 : 0 ≤ x) (h1 : x < 65536) : U8L (be16 x) := by
  intro u hu
  simp [be16] at hu
  rcases hu with rfl | rfl <;> exact ⟨_, rfl, by unfold isU8; omega⟩
theorem be32_u8 (x : Int) (h0 : 0 ≤ x) (h1 : x < 4294967296) : U8L (be32 x) := by
  intro u hu
  simp [be32] at hu
  rcases hu with rfl | rfl | rfl | rfl <;> exact ⟨_, rfl, by unfold isU8; omega⟩
theorem byteCells_u8 (s : ByteArray) : U8L (byteCells s) := by
  intro u hu
  unfold byteCells at hu
  obtain ⟨b, _, rfl⟩ := List.mem_map.1 hu
  exact ⟨_, rfl, by unfold isU8; have := b.toNat_lt; omega⟩
theorem encStr_u8 (s : ByteArray) (h : s.size ≤ 32767) : U8L (encStr s) := (be16_u8 _ (by omega) (by omega)).app (byteCells_u8 s)
theorem encInts_u8 (xs : List Int) (h : xs.length ≤ 1000000) : U8L (encInts xs) := (be32_u8 _ (by omega) (by omega)).app (U8L.flat fun x _ => be32_u8 _ (by omega) (by omega))
theorem specData_u8 (data : List Value) (hl : data.length ≤ 1000000) (hu : U8L data) : U8L (specData data) := by
  unfold specData
  split
  · exact be32_u8 _ (by omega) (by omega)
  · exact (be32_u8 _ (by omega) (by omega)).app hu
theorem asgBytes_u8 (ver : Int) (D : List (ByteArray × List Int)) (data : List Value) (hver : isI16 ver) (hD : ∀ x ∈ D, TPOk x) (hDl : D.length ≤ 1000000) (hdl : data.length ≤ 1000000) (hu : U8L data) : U8L (asgBytes ver D data) :=
  (((be16_u8 _ (by omega) (by omega)).app (be32_u8 _ (by omega) (by omega))).app (U8L.flat fun x hx => (encStr_u8 _ (hD x hx).top).app (encInts_u8 _ (hD x hx).len))).app (specData_u8 _ hdl hu)

/-- an assignment as it has been read, at block m -/
def AsgAt (w : World) (lo m g : Nat) (ver : Int) (D : List (ByteArray × List Int)) (data : List Value) : Prop :=
  ∃ r T u, w.heap[m]? = some (.cells #[.int .i16 ver, .map (some r), u] 127 (0, 0)) ∧ TopsAt w r T ∧ tops2 T = D ∧ (∀ x ∈ T, ∀ y, x.2.1.ownBlock = some y → lo ≤ y) ∧ lo ≤ r ∧ BytesV w u data ∧ (∀ x, u.ownBlock = some x → x = g)

theorem asgMeth : IsMeth 123 "pub-kestrel/pub/sarama.decode" 163 := ⟨fun _ _ => by kernel_rfl, fun _ _ => by kernel_rfl, fun _ _ => by kernel_rfl⟩

set_option maxRecDepth 100000 in
set_option maxHeartbeats 1000000 in
theorem getAsg_any (p g off cap : Nat) (ver : Int) (D : List (ByteArray × List Int)) (data : List Value) (w : World) (hp : w.cell? ⟨p, 6, none⟩ = some (.slice (some ⟨g, off, none⟩) (asgBytes ver D data).length cap))
    (hsl : SlAt w 1 (.slice (some ⟨g, off, none⟩) (asgBytes ver D data).length cap) (asgBytes ver D data).length (asgBytes ver D data)) (hgw : g < w.heap.size) (hcap : (asgBytes ver D data).length ≤ cap) (hsm : (asgBytes ver D data).length ≤ 1000000000)
    (hver : isI16 ver) (hnd : (D.map (·.1)).Nodup) (hD : ∀ x ∈ D, TPOk x) (hDl : D.length ≤ 1000000) (hdl : data.length ≤ 1000000) (hu : U8L data) :
    Calls Tryz.prog 64 #[.pointer (some ⟨p, 0, none⟩)] w fun e w' => e = .returned (.tuple #[.pointer (some ⟨w.heap.size, 0, none⟩), .nilIface]) ∧ AsgAt w' w.heap.size w.heap.size g ver D data ∧ Kept [] w w' := by
  have hu8 := asgBytes_u8 ver D data hver hD hDl hdl hu
  have hne : ¬ (((asgBytes ver D data).length : Int) = 0) := by simp [asgBytes, be16]; omega
  have hk0 : Kept [] w (w.alloc (.cells #[.int .i16 0, .map none, .slice none 0 0] 127)) := (Kept.refl _ _).alloc _
  have hcp := hk0.cell hp (by simp)
  have hm0 : (w.alloc (.cells #[.int .i16 0, .map none, .slice none 0 0] 127)).heap[w.heap.size]? = some (.cells #[.int .i16 0, .map none, .slice none 0 0] 127 (0, 0)) := heap_alloc_new w _
  have hdc := decode_any 123 163 asgMeth w.heap.size g off cap (asgBytes ver D data) (w.alloc (.cells #[.int .i16 0, .map none, .slice none 0 0] 127)) (fun w' => AsgAt w' w.heap.size w.heap.size g ver D data) (hsl.kept hk0 (by simp)) hu8 (by simp; omega) hcap hsm (by
    intro w1 hk1 hl1 hd1
    have hm1 := hk1.heap hm0 (by simp)
    have hs1 := hk1.size
    simp only [World.size_alloc] at hs1 hl1
    refine (asg_decode _ g off cap w.heap.size ver D data w1 hd1 hm1 (by simp) (by omega) hver hnd hD hDl hdl (by omega)).mono ?_
    rintro e w' ⟨rfl, r, T, u, h1, h2, h3, h4, h5, h6, h7, h8, h9⟩
    exact ⟨rfl, h8, ⟨r, T, u, h1, h2, h3, fun x hx y hy => by have := h4 x hx y hy; omega, by omega, h6, h7⟩, h9⟩)
  have HD := Lib.hid hdc; clear hdc
  clear hm0 hu8 hsl
  generalize (asgBytes ver D data).length = N at *
  go_enter Tryz.func64, Tryz.ntmps64
  go_wp2_with (first
    | (go_at_call 82
       refine HD.out.mono ?_
       rintro e w2 ⟨rfl, hpost, hk2⟩
       have HP := Lib.hid (And.intro hpost hk2); clear hpost hk2)
    | fail)
  go_ret2
  exact ⟨rfl, HP.out.1, hk0.trans HP.out.2 (by simp) (by simp)⟩

set_option maxRecDepth 100000 in
set_option maxHeartbeats 400000 in
theorem copied_any (a : Option Addr) (c : Nat) (cs : List Value) (w : World) (hs : SlAt w 1 (.slice a cs.length c) cs.length cs) (hn : 1 ≤ cs.length) (hl : cs.length ≤ 100000000) :
    Calls Tryz.prog 58 #[.slice a cs.length c] w fun e w' => ∃ g c', e = .returned (.slice (some ⟨g, 0, none⟩) cs.length c') ∧ cs.length ≤ c' ∧ SlAt w' 1 (.slice (some ⟨g, 0, none⟩) cs.length c') cs.length cs ∧ w.heap.size ≤ g ∧ g < w'.heap.size ∧ Kept [] w w' := by
  have hsrc := (hs.alloc (.cells #[] 5)).src Tryz.underlying28
  have hone := hs.2.1
  have HS := Lib.hid hsrc; clear hsrc hs
  have HO := Lib.hid hone; clear hone
  generalize hN : cs.length = n at *
  have HN := Lib.hid hN; clear hN
  go_enter Tryz.func58, Tryz.ntmps58
  go_wp2_with (refine wl_app (v := .slice (some ⟨w.heap.size, 0, none⟩) 0 0) rfl rfl elU8 rfl rfl (own_new 5 1) HS.out (by omega) (by omega) ?_; intro v' w1 hown hk hd)
  go_ret
  have hk' : Kept [] w w1 := ((Kept.refl [] w).alloc _).trans hk (by simp) (by simp [Value.ownBlock])
  rw [List.nil_append, Nat.zero_add] at hown
  have hsl := own_sl hown HO.out
  rcases hown.2 with ⟨e1, e2⟩ | ⟨g, cap, cur, rfl, _, hg, hn1, _⟩
  · omega
  · refine ⟨g, cap, rfl, hn1, hsl, ?_, lt_of_heap hg, hk'⟩
    rcases hd with ⟨h1, h2⟩ | ⟨h1, h2⟩
    · simp [Value.ownBlock] at h1; omega
    · simp [Value.ownBlock] at h1; omega
end Go.Proofs.YticcnlpfmekagaaGreat
