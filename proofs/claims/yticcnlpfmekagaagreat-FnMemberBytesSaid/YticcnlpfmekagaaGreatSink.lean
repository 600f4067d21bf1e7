import Derived.Test.YticcnlpfmekagaaGreatReal2
namespace Go.Proofs.YticcnlpfmekagaaGreat
open Go Go.Proofs Go.RowKit
set_option linter.unusedVariables false
set_option linter.unusedSimpArgs false

/-! ## Both encoders, as one: a sink of bytes -/

def encStr (s : ByteArray) : List Value := be16 s.size ++ byteCells s
def encInts (xs : List Int) : List Value := be32 xs.length ++ be32s xs

/-- what an encoder's method of this name is -/
structure IsMeth (T : TypeId) (name : String) (f : FuncId) : Prop where
  m : ∀ (a : Addr) (w : World), (method 643 T (.pointer (some a)) name).run Tryz.prog w = .ok (f, .pointer (some a)) w
  n : ∀ (a : Addr) (w : World), (nilAhead 643 T (.pointer (some a)) name).run Tryz.prog w = .ok (some false) w
  c : ∀ (args : Array Value) (w : World), (callFunc f args).run Tryz.prog w = .ok (.enter f args) w

structure Sink where
  T : TypeId
  b : Nat
  St : List Value → World → Prop
  own : List Nat
  max : Nat
  hmax : max ≤ 100000000
  kept : ∀ {d w w' S}, St d w → Kept S w w' → (∀ x ∈ own, x ∉ S) → St d w'
  drew : ∀ {d w}, St d w → St d w.drew
  lt : ∀ {d w}, St d w → ∀ x ∈ own, x < w.heap.size
  fI16 : FuncId
  fI32 : FuncId
  fArr : FuncId
  fStr : FuncId
  fInts : FuncId
  mI16 : IsMeth T "pub-kestrel/pub/sarama.putInt16" fI16
  mI32 : IsMeth T "pub-kestrel/pub/sarama.putInt32" fI32
  mArr : IsMeth T "pub-kestrel/pub/sarama.putArrayLength" fArr
  mStr : IsMeth T "pub-kestrel/pub/sarama.putString" fStr
  mInts : IsMeth T "pub-kestrel/pub/sarama.putInt32Array" fInts
  cI16 : ∀ {d w} (x : Int), St d w → d.length + 2 ≤ max → -32768 ≤ x → x ≤ 32767 → Calls Tryz.prog fI16 #[.pointer (some ⟨b, 0, none⟩), .int .i16 x] w fun e w' => e = .returned (.tuple #[]) ∧ St (d ++ be16 (x % 65536)) w' ∧ Kept own w w'
  cI32 : ∀ {d w} (x : Int), St d w → d.length + 4 ≤ max → isI32 x → Calls Tryz.prog fI32 #[.pointer (some ⟨b, 0, none⟩), .int .i32 x] w fun e w' => e = .returned (.tuple #[]) ∧ St (d ++ be32 (x % 4294967296)) w' ∧ Kept own w w'
  cArr : ∀ {d w} (n : Nat), St d w → d.length + 4 ≤ max → n ≤ 100000000 → Calls Tryz.prog fArr #[.pointer (some ⟨b, 0, none⟩), .int .i64 n] w fun e w' => e = .returned .nilIface ∧ St (d ++ be32 n) w' ∧ Kept own w w'
  cStr : ∀ {d w} (s : ByteArray), St d w → d.length + (encStr s).length ≤ max → s.size ≤ 32767 → Calls Tryz.prog fStr #[.pointer (some ⟨b, 0, none⟩), .string s] w fun e w' => e = .returned .nilIface ∧ St (d ++ encStr s) w' ∧ Kept own w w'
  cInts : ∀ {d w} (a : Option Addr) (c : Nat) (xs : List Int), St d w → d.length + (encInts xs).length ≤ max → SlAt w 1 (.slice a xs.length c) xs.length (i32s xs) → (∀ x ∈ xs, isI32 x) → (∀ g, (Value.slice a xs.length c).ownBlock = some g → g ∉ own) →
    Calls Tryz.prog fInts #[.pointer (some ⟨b, 0, none⟩), .slice a xs.length c] w fun e w' => e = .returned .nilIface ∧ St (d ++ encInts xs) w' ∧ Kept own w w'

theorem encStr_length (s : ByteArray) : (encStr s).length = 2 + s.size := by simp [encStr, be16, byteCells_length]; omega
theorem encInts_length (xs : List Int) : (encInts xs).length = 4 + 4 * xs.length := by simp [encInts, be32, be32s_length]; omega

def prepSink (b : Nat) : Sink where
  T := 205
  b := b
  St := fun d w => Prep w b d.length
  own := [b]
  max := 100000000
  hmax := by omega
  kept := fun h k hs => h.kept k (hs b (by simp))
  drew := fun h => h
  lt := fun h x hx => by simp at hx; subst hx; exact lt_of_heap h
  fI16 := 291
  fI32 := 292
  fArr := 285
  fStr := 301
  fInts := 293
  mI16 := ⟨fun _ _ => by kernel_rfl, fun _ _ => by kernel_rfl, fun _ _ => by kernel_rfl⟩
  mI32 := ⟨fun _ _ => by kernel_rfl, fun _ _ => by kernel_rfl, fun _ _ => by kernel_rfl⟩
  mArr := ⟨fun _ _ => by kernel_rfl, fun _ _ => by kernel_rfl, fun _ _ => by kernel_rfl⟩
  mStr := ⟨fun _ _ => by kernel_rfl, fun _ _ => by kernel_rfl, fun _ _ => by kernel_rfl⟩
  mInts := ⟨fun _ _ => by kernel_rfl, fun _ _ => by kernel_rfl, fun _ _ => by kernel_rfl⟩
  cI16 := fun x h hm h1 h2 => (prep_putInt16 b _ x _ h (by omega) (by omega)).mono fun e w' ⟨h1, h2⟩ => ⟨h1, by have := h2.prep; simpa [be16] using this, h2.kept⟩
  cI32 := fun x h hm hx => (prep_putInt32 b _ x _ h (by omega) (by omega)).mono fun e w' ⟨h1, h2⟩ => ⟨h1, by have := h2.prep; simpa [be32] using this, h2.kept⟩
  cArr := fun n h hm hx => (prep_putArrayLength b _ _ _ h (by omega) (by omega) (by omega)).mono fun e w' ⟨h1, h2⟩ => ⟨h1, by have := h2.prep; simpa [be32] using this, h2.kept⟩
  cStr := fun s h hm hx => (prep_putString b _ s _ h (by omega) (by omega) hx).mono fun e w' ⟨h1, h2⟩ => ⟨h1, by have := h2.prep; rw [List.length_append, encStr_length]; simpa using this, h2.kept⟩
  cInts := fun a c xs h hm hs hx ho => (prep_putInt32Array b _ a _ c _ h (by omega) (by omega) (by rw [encInts_length] at hm; omega)).mono fun e w' ⟨h1, h2⟩ => ⟨h1, by have := h2.prep; rw [List.length_append, encInts_length]; simpa using this, h2.kept⟩

def realSink (b rb N : Nat) (hN : N ≤ 100000000) : Sink where
  T := 208
  b := b
  St := fun d w => Enc w b rb N d
  own := [b, rb]
  max := N
  hmax := hN
  kept := fun h k hs => h.kept k (hs b (by simp)) (hs rb (by simp))
  drew := fun h => ⟨h.at_, h.buf, h.ne⟩
  lt := fun h x hx => by
    obtain ⟨r, h1, _⟩ := h.buf
    simp at hx; rcases hx with rfl | rfl
    · exact lt_of_heap h.at_
    · exact h1.lt
  fI16 := 317
  fI32 := 318
  fArr := 311
  fStr := 327
  fInts := 319
  mI16 := ⟨fun _ _ => by kernel_rfl, fun _ _ => by kernel_rfl, fun _ _ => by kernel_rfl⟩
  mI32 := ⟨fun _ _ => by kernel_rfl, fun _ _ => by kernel_rfl, fun _ _ => by kernel_rfl⟩
  mArr := ⟨fun _ _ => by kernel_rfl, fun _ _ => by kernel_rfl, fun _ _ => by kernel_rfl⟩
  mStr := ⟨fun _ _ => by kernel_rfl, fun _ _ => by kernel_rfl, fun _ _ => by kernel_rfl⟩
  mInts := ⟨fun _ _ => by kernel_rfl, fun _ _ => by kernel_rfl, fun _ _ => by kernel_rfl⟩
  cI16 := fun x h hm h1 h2 => real_putInt16 b rb N _ x _ h (by omega) hm h1 h2
  cI32 := fun x h hm hx => real_putInt32 b rb N _ x _ h (by omega) hm hx.1 hx.2
  cArr := fun n h hm hx => real_putArrayLength b rb N _ n _ h (by omega) hm (by omega)
  cStr := fun s h hm hx => real_putString b rb N _ s _ h (by omega) (by rw [encStr_length] at hm; omega) hx
  cInts := fun a c xs h hm hs hx ho => real_putInt32Array b rb N _ a c xs _ h (by omega) (by rw [encInts_length] at hm; omega) hs hx (fun g hg => by have := ho g hg; simpa using this)
end Go.Proofs.YticcnlpfmekagaaGreat
