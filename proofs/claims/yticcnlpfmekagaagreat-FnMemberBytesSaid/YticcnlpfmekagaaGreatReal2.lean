import Derived.Test.YticcnlpfmekagaaGreatReal
namespace Go.Proofs.YticcnlpfmekagaaGreat
open Go Go.Proofs Go.RowKit
set_option linter.unusedVariables false
set_option linter.unusedSimpArgs false

def i32s (xs : List Int) : List Value := xs.map (Value.int .i32)
def be32s (xs : List Int) : List Value := xs.flatMap (fun x => be32 (x % 4294967296))
theorem be32s_take (xs : List Int) (k : Nat) (x : Int) (h : xs[k]? = some x) : be32s (xs.take (k + 1)) = be32s (xs.take k) ++ be32 (x % 4294967296) := by
  have hk : k < xs.length := (List.getElem?_eq_some_iff.1 h).1
  have hx : xs[k] = x := (List.getElem?_eq_some_iff.1 h).2
  rw [List.take_succ_eq_append_getElem hk, hx]
  simp [be32s]
theorem be32s_length (xs : List Int) : (be32s xs).length = 4 * xs.length := by
  induction xs with
  | nil => rfl
  | cons x xs ih => simp only [be32s, List.flatMap_cons, List.length_append, List.length_cons] at *; rw [ih]; simp [be32]; omega

/-- numbers that an int32 holds -/
def isI32 (x : Int) : Prop := -2147483648 ≤ x ∧ x ≤ 2147483647

theorem SlAt.cases {w : World} {sz : Nat} {a : Option Addr} {n m c : Nat} {cs : List Value} (h : SlAt w sz (.slice a n c) m cs) : n = m ∧ ((True ∧ n = 0 ∧ cs = []) ∨ ∃ g off, a = some ⟨g, off, none⟩ ∧ ∀ j u, cs[j]? = some u → w.cell? ⟨g, off + j, none⟩ = some u) := by
  obtain ⟨h1, h2, ⟨a', c', h3, h4⟩ | ⟨g, off, cap, h3, h4⟩⟩ := h
  · cases h3; exact ⟨h4.symm, .inl ⟨trivial, rfl, List.eq_nil_of_length_eq_zero (by rw [h1, h4]; simp)⟩⟩
  · cases h3; exact ⟨rfl, .inr ⟨g, off, rfl, h4⟩⟩

set_option maxRecDepth 100000 in
set_option maxHeartbeats 400000 in
theorem real_putInt32Array (b rb N : Nat) (done : List Value) (a : Option Addr) (c : Nat) (xs : List Int) (w : World) (he : Enc w b rb N done) (hN : N ≤ 1000000000) (hroom : done.length + 4 + 4 * xs.length ≤ N)
    (hs : SlAt w 1 (.slice a xs.length c) xs.length (i32s xs)) (hx : ∀ x ∈ xs, isI32 x) (ho : ∀ g, (Value.slice a xs.length c).ownBlock = some g → g ≠ b ∧ g ≠ rb) :
    Calls Tryz.prog 319 #[.pointer (some ⟨b, 0, none⟩), .slice a xs.length c] w fun e w' => e = .returned .nilIface ∧ Puts w b rb N done (be32 xs.length ++ be32s xs) w' := by
  generalize hn : xs.length = n at *
  obtain ⟨_, hcase⟩ := hs.cases
  have Hn := Lib.hid hn
  rcases hcase with ⟨_, h0, _⟩ | ⟨g, off, rfl, hcell⟩
  · have H0 := Lib.hid h0; clear h0
    go_enter Tryz.func319, Tryz.ntmps319
    go_wp2_with fail
    refine (real_putArrayLength b rb N done n w he hN (by omega) (by omega)).mono ?_
    rintro e w1 ⟨rfl, h1⟩
    clear hn
    go_wp2_with fail
    go_loopw [17] (fun i wr => ∃ k : Nat, k ≤ n ∧ i = .int .i64 k ∧ Puts w b rb N done (be32 n ++ be32s (xs.take k)) wr) (fun i _ => n - (intOf i).toNat)
    case atStart => exact ⟨0, Nat.zero_le _, rfl, by simpa [be32s] using h1⟩
    case round =>
      obtain ⟨k, hk, rfl, hp⟩ := hrel
      have hge : ¬ k < n := by have := H0.out; omega
      go_wp2
      go_ret
      rw [List.take_of_length_le (by have := Hn.out; omega)] at hp
      exact ⟨rfl, hp⟩
  · have hob := ho g rfl
    go_enter Tryz.func319, Tryz.ntmps319
    go_wp2_with fail
    refine (real_putArrayLength b rb N done n w he hN (by omega) (by omega)).mono ?_
    rintro e w1 ⟨rfl, h1⟩
    clear hn
    have HC := Lib.hid hcell; clear hcell
    have HO := Lib.hid hob; clear hob
    have HX := Lib.hid hx; clear hx
    clear ho hs
    go_wp2_with fail
    go_loopw [17] (fun i wr => ∃ k : Nat, k ≤ n ∧ i = .int .i64 k ∧ Puts w b rb N done (be32 n ++ be32s (xs.take k)) wr) (fun i _ => n - (intOf i).toNat)
    case atStart => exact ⟨0, Nat.zero_le _, rfl, by simpa [be32s] using h1⟩
    case round =>
      obtain ⟨k, hk, rfl, hp⟩ := hrel
      by_cases hlt : k < n
      · have hkx : ∃ x, xs[k]? = some x := ⟨_, List.getElem?_eq_getElem (by have := Hn.out; omega)⟩
        obtain ⟨x, hkx⟩ := hkx
        have hxr := HX.out x (List.mem_of_getElem? hkx)
        have hc1 := hp.2.cell (p := ⟨g, off + k, none⟩) (HC.out k (.int .i32 x) (by simp [i32s, hkx])) (by have := HO.out; simp [this.1, this.2])
        have HK := Lib.hid hkx; clear hkx
        have HXR := Lib.hid hxr; clear hxr
        have hcall := real_putInt32 b rb N (done ++ (be32 n ++ be32s (xs.take k))) x wr hp.1 hN (by rw [List.length_append, List.length_append, be32s_length]; simp [be32]; have := Hn.out; omega) HXR.out.1 HXR.out.2
        have HCall := Lib.hid hcall; clear hcall
        go_wp2_with fail
        refine HCall.out.mono ?_
        rintro e w2 ⟨rfl, h2⟩
        have h3 : Puts w b rb N done (be32 n ++ be32s (xs.take (k + 1))) w2 := by
          have := hp.trans h2
          rwa [be32s_take xs k x HK.out, ← List.append_assoc]
        go_wp2
        go_roundw
        case rel => exact ⟨k + 1, by omega, by go_num, h3⟩
        case measure => simp [intOf]; omega
      · go_wp2
        go_ret
        rw [List.take_of_length_le (by have := Hn.out; omega)] at hp
        exact ⟨rfl, hp⟩
end Go.Proofs.YticcnlpfmekagaaGreat
