/- Part 26 of 51 of the proof of the row: the texts Dec3, Spec. -/
import Derived.Test.YticcnlpfmekagaaGreatRd24
import Derived.Test.YticcnlpfmekagaaGreatRd25
import Derived.Test.YticcnlpfmekagaaGreatRd12
import Derived.Test.YticcnlpfmekagaaGreatRd11
namespace Go.Proofs.YticcnlpfmekagaaGreat
open Go Go.Proofs Go.RowKit
set_option linter.unusedVariables false
set_option linter.unusedSimpArgs false

/-! ## The decoder: lists of numbers and of texts, a text or none -/

theorem make_i32 (n : Nat) (hn : n ≤ 100000000) (w : World) : (Instr.makeSlice 31 (.int .i64 n) (.int .i64 n)).run Tryz.prog w = .ok (.slice (some ⟨w.heap.size, 0, none⟩) n n) (w.alloc (.cells (List.replicate n (.int .i32 0)).toArray 21)) := by
  obtain ⟨i, hi, h1, h2, h3⟩ : ∃ i, Tryz.prog.info? 21 = some i ∧ i.zero = some (.int .i32 0) ∧ i.size = 1 ∧ i.bytes = 4 := info_parts infoI32
  have hr := run_make (P := Tryz.prog) w 31 21 i (.int .i32 0) Tryz.underlying31 hi h1 .i64 .i64 n n (by omega) (Int.le_refl _) (by rw [h3]; omega) (by omega)
  rw [hr, h2]
  have : madeCells (Value.int .i32 0).cells ((n : Int).toNat * 1) = (List.replicate n (.int .i32 0)).toArray := by
    apply Array.toList_inj.1
    have := toList_madeCells_one (.int .i32 0) n
    simpa [Value.cells] using this
  rw [this]; simp
theorem make_strs (n : Nat) (hn : n ≤ 100000000) (w : World) : (Instr.makeSlice 27 (.int .i64 n) (.int .i64 n)).run Tryz.prog w = .ok (.slice (some ⟨w.heap.size, 0, none⟩) n n) (w.alloc (.cells (List.replicate n (.string ⟨#[]⟩)).toArray 9)) := by
  obtain ⟨i, hi, h1, h2, h3⟩ : ∃ i, Tryz.prog.info? 9 = some i ∧ i.zero = some (.string ⟨#[]⟩) ∧ i.size = 1 ∧ i.bytes = 16 := info_parts infoStr
  have hr := run_make (P := Tryz.prog) w 27 9 i (.string ⟨#[]⟩) Tryz.underlying27 hi h1 .i64 .i64 n n (by omega) (Int.le_refl _) (by rw [h3]; omega) (by omega)
  rw [hr, h2]
  have : madeCells (Value.string ⟨#[]⟩).cells ((n : Int).toNat * 1) = (List.replicate n (.string ⟨#[]⟩)).toArray := by
    apply Array.toList_inj.1
    have := toList_madeCells_one (.string ⟨#[]⟩) n
    simpa [Value.cells] using this
  rw [this]; simp

/-- block R holds these cells, and no more -/
def RowIs (w : World) (R E : Nat) (L : List Value) : Prop := w.heap[R]? = some (.cells L.toArray E (0, 0))
theorem RowIs.cell {w : World} {R E k : Nat} {L pre post : List Value} {x : Value} (h : RowIs w R E L) (e : L = pre ++ x :: post) (hk : k = pre.length) : w.cell? ⟨R, k, none⟩ = some x := by
  subst hk e; unfold RowIs at h; simp [World.cell?, h]
theorem RowIs.fz {w : World} {R E : Nat} {L : List Value} (h : RowIs w R E L) (k : Nat) : w.frozen? ⟨R, k, none⟩ = false := by unfold RowIs at h; simp [World.frozen?, h]
theorem RowIs.set {w : World} {R E k : Nat} {L pre post : List Value} {x : Value} (h : RowIs w R E L) (e : L = pre ++ x :: post) (hk : k = pre.length) (v : Value) : RowIs (w.setCell ⟨R, k, none⟩ v) R E (pre ++ v :: post) := by
  subst hk e; unfold RowIs at *
  simp [World.setCell, Array.getElem?_modify, h]
theorem RowIs.kept {w w' : World} {R E : Nat} {L : List Value} {S : List Nat} (h : RowIs w R E L) (k : Kept S w w') (hs : R ∉ S) : RowIs w' R E L := k.heap h hs
theorem RowIs.sl {w : World} {R E n : Nat} {L : List Value} (h : RowIs w R E L) (hl : L.length = n) (h1 : ∀ u ∈ L, u.oneCell' = true) : SlAt w 1 (.slice (some ⟨R, 0, none⟩) n n) n L :=
  ⟨by omega, h1, .inr ⟨R, 0, n, rfl, fun j u hj => by rw [Nat.zero_add]; exact (cells_of h).1 j u (by simpa using hj)⟩⟩

/-- filled up to j, zero behind -/
def fillTo (xs : List Value) (z : Value) (n j : Nat) : List Value := xs.take j ++ List.replicate (n - j) z
theorem fillTo_at (xs : List Value) (z : Value) (n j : Nat) (hj : j < n) (hn : n = xs.length) : fillTo xs z n j = xs.take j ++ z :: List.replicate (n - (j + 1)) z ∧ (xs.take j).length = j := by
  refine ⟨?_, by rw [List.length_take]; omega⟩
  unfold fillTo
  rw [show n - j = (n - (j + 1)) + 1 by omega, List.replicate_succ]
theorem fillTo_next (xs : List Value) (z : Value) (n j : Nat) (x : Value) (hx : xs[j]? = some x) : fillTo xs z n (j + 1) = xs.take j ++ x :: List.replicate (n - (j + 1)) z := by
  obtain ⟨h1, h2⟩ := List.getElem?_eq_some_iff.1 hx
  unfold fillTo
  rw [List.take_succ_eq_append_getElem h1, h2, List.append_assoc]; rfl

theorem sg32_mod (x : Int) (h : isI32 x) : IntKind.i32.wrap (x % 4294967296) = x := by
  unfold isI32 at h
  simp [IntKind.wrap, IntKind.bits, IntKind.signed]
  omega

set_option maxRecDepth 100000 in
set_option maxHeartbeats 1000000 in
theorem getNInts_any (b g off cap k : Nat) (xs : List Int) (pre post : List Value) (w : World) (h : Dec w b g off cap (pre ++ encInts xs ++ post) k) (hk : k = pre.length) (hx : ∀ x ∈ xs, isI32 x) (hxl : xs.length ≤ 100000000) (hgw : g < w.heap.size) :
    Calls Tryz.prog 349 #[.pointer (some ⟨b, 0, none⟩)] w fun e w' => ∃ R, Gets b g off cap (pre ++ encInts xs ++ post) (k + 4 + 4 * xs.length) (.slice (some ⟨R, 0, none⟩) xs.length xs.length) w e w' ∧ SlInts w' (.slice (some ⟨R, 0, none⟩) xs.length xs.length) xs ∧ w.heap.size ≤ R ∧ R < w'.heap.size := by
  have e0 : pre ++ encInts xs ++ post = pre ++ be32 xs.length ++ (be32s xs ++ post) := by simp [encInts]
  rw [e0] at h ⊢
  have hb4 : (be32s xs).length = 4 * xs.length := be32s_length xs
  have hsm := h.small
  have h1 := getArrayLength_any b g off cap k xs.length pre (be32s xs ++ post) w h hk (by rw [List.length_append, hb4]; omega) hxl
  have H1 := Lib.hid h1; clear h1
  have hat : ∀ (w1 : World) (j : Nat) (x : Int), Dec w1 b g off cap (pre ++ be32 xs.length ++ (be32s xs ++ post)) (k + 4 + 4 * j) → xs[j]? = some x → ∀ (n c : Nat), 4 ≤ n → ∀ w', Kept [] w1 w' →
      Calls Tryz.prog 346 #[.agg #[], .slice (some ⟨g, off + (k + 4 + 4 * j), none⟩) n c] w' fun e w2 => e = .returned (.int .u32 (x % 4294967296)) ∧ Kept [] w' w2 := fun w1 j x hd hj n c hn w' kk => by
    obtain ⟨hj1, hj2⟩ := List.getElem?_eq_some_iff.1 hj
    have e1 : be32s xs = be32s (xs.take j) ++ be32 (x % 4294967296) ++ be32s (xs.drop (j + 1)) := by
      conv => lhs; rw [← List.take_append_drop j xs, List.drop_eq_getElem_cons hj1, hj2]
      simp [be32s]
    have e2 : pre ++ be32 xs.length ++ (be32s xs ++ post) = (pre ++ be32 xs.length ++ be32s (xs.take j)) ++ be32 (x % 4294967296) ++ (be32s (xs.drop (j + 1)) ++ post) := by
      rw [e1]; simp
    rw [e2] at hd
    exact u32_at b g off cap (k + 4 + 4 * j) (x % 4294967296) _ _ w1 hd (by simp [be32, be32s_length]; omega) (by omega) (by omega) n c hn w' kk
  have HAT := Lib.hid hat; clear hat
  have hlen : k + 4 + 4 * xs.length ≤ (pre ++ be32 xs.length ++ (be32s xs ++ post)).length := by simp [be32, hb4]; omega
  have hcap := h.cap
  have hbg := h.ne
  have hbw := h.lt
  clear h e0 hk hb4
  generalize pre ++ be32 (xs.length : Int) ++ (be32s xs ++ post) = cs at *
  have hr2 := fun (w' : World) (k' : Nat) (hd : Dec w' b g off cap cs k') => remaining_any b g off cap k' cs w' hd
  have HR2 := Lib.hid hr2; clear hr2
  have HX := Lib.hid hx; clear hx
  have hmk := make_i32 xs.length hxl
  generalize hn : xs.length = n at *
  have HXN := Lib.hid hn; clear hn
  generalize hN : cs.length = N at *
  have HN := Lib.hid hN; clear hN
  have nm1 : ¬ ((n : Int) < -1) := by omega
  have nm2 : ¬ ((n : Int) = -1) := by omega
  have nlt : ¬ (((N : Int) - ((k + 4 : Nat) : Int)) / 4 < (n : Int)) := by omega
  have nge : (0 : Int) ≤ (N : Int) - ((k + 4 : Nat) : Int) := by omega
  go_enter Tryz.func349, Tryz.ntmps349
  go_wp2_with fail
  refine H1.out.mono ?_
  rintro e w1 ⟨rfl, hd1, hk1⟩
  go_wp2_with (first
    | (go_at_call 345; refine (HR2.out _ _ hd1).mono ?_; rintro e w2 ⟨rfl, hk2⟩)
    | fail)
  generalize hR : w2.heap.size = R
  have hs1 := hk1.size
  have hs2 := hk2.size
  have hRg : g < R := by omega
  have hRb : b < R := by omega
  have hRw : w.heap.size ≤ R := by omega
  have hk12 : Kept [b] w w2 := hk1.trans hk2 (by simp) (by simp)
  have hd2 := hd1.kept hk2 (by simp) (by simp)
  have hrow0 : RowIs (w2.alloc (.cells (Array.replicate n (.int .i32 0)) 21)) R 21 (fillTo (i32s xs) (.int .i32 0) n 0) := by
    have := heap_alloc_new w2 (.cells (Array.replicate n (.int .i32 0)) 21)
    rw [hR] at this
    unfold RowIs
    rw [this]
    simp [fillTo]
  have HR := Lib.hid hR; clear hR
  have HD2 := Lib.hid (And.intro hd2 (And.intro hk12 hrow0)); clear hd2 hk12 hrow0 hd1 hk1 hk2 hs1 hs2
  clear nlt nge
  have hcapN : N ≤ cap := hcap
  have hbR : b ≠ R := by omega
  have hgR : g ≠ R := by omega
  go_loopw [7, 40] (fun _ i wr => ∃ j : Nat, j ≤ n ∧ i = .int .i64 j ∧ Dec wr b g off cap cs (k + 4 + 4 * j) ∧ RowIs wr R 21 (fillTo (i32s xs) (.int .i32 0) n j) ∧ Kept [b] w wr) (fun _ i _ => n - (intOf i).toNat)
  case atStart => exact ⟨0, Nat.zero_le _, rfl, HD2.out.1.kept ((Kept.refl [] _).alloc _) (by simp) (by simp), HD2.out.2.2, HD2.out.2.1.alloc _⟩
  case round =>
    obtain ⟨j, hj, rfl, hd, hrow, hkr⟩ := hrel
    by_cases hjn : j < n
    · obtain ⟨x, hxj⟩ : ∃ x, xs[j]? = some x := ⟨_, List.getElem?_eq_getElem (by have := HXN.out; omega)⟩
      have hxi := HX.out x (List.mem_of_getElem? hxj)
      have hcall := HAT.out wr j x hd hxj
      have hsg := sg32_mod x hxi
      have hil : n = (i32s xs).length := by rw [i32s, List.length_map]; exact HXN.out.symm
      obtain ⟨hf1, hf2⟩ := fillTo_at (i32s xs) (.int .i32 0) n j hjn hil
      have hnx := fillTo_next (i32s xs) (.int .i32 0) n j (.int .i32 x) (by simp [i32s, hxj])
      have HROW := Lib.hid (And.intro hrow (And.intro hf1 (And.intro hf2 hnx))); clear hrow hf1 hf2 hnx hil
      have HCALL := Lib.hid hcall; clear hcall
      have HXJ := Lib.hid hxj; clear hxj hxi
      have HD := Lib.hid hd; clear hd
      have hS : ∀ w', Kept [R] wr w' → w'.cell? ⟨b, 0, none⟩ = some (.slice (some ⟨g, off, none⟩) N cap) ∧ w'.cell? ⟨b, 0 + 1, none⟩ = some (.int .i64 ((k + 4 + 4 * j : Nat) : Int)) := fun w' kk => by
        have hd' := HD.out.kept kk (by simpa using hbR) (by simpa using hgR)
        have h0 := hd'.c0
        rw [HN.out] at h0
        exact ⟨h0, hd'.c1⟩
      have HS := Lib.hid hS; clear hS
      have hkN : k + 4 + 4 * j + 4 ≤ N := by omega
      generalize hkk : k + 4 + 4 * j = kj at *
      have i0 : (0 : Int) ≤ (kj : Int) := by omega
      have i1 : (kj : Int) ≤ (N : Int) := by omega
      have i5 : (N : Int) ≤ 1000000000 := by omega
      have ne : ¬ cap = kj := by omega
      have j0 : (0 : Int) ≤ (j : Int) := by omega
      have j1 : (j : Int) < (n : Int) := by omega
      have j2 : (n : Int) ≤ 100000000 := by omega
      have hF : ∀ w' : World, Kept [] wr w' → w'.cell? ⟨R, j, none⟩ = some (.int .i32 0) ∧ w'.frozen? ⟨R, j, none⟩ = false := fun w' kk =>
        ⟨(HROW.out.1.kept kk (by simp)).cell HROW.out.2.1 HROW.out.2.2.1.symm, (HROW.out.1.kept kk (by simp)).fz _⟩
      have HF := Lib.hid hF; clear hF
      have hE : ∀ w' : World, Kept [] wr w' → w'.frozen? ⟨b, 0 + 1, none⟩ = false ∧ Dec ((w'.setCell ⟨R, j, none⟩ (.int .i32 x)).setCell ⟨b, 0 + 1, none⟩ (.int .i64 ((kj : Int) + 4))) b g off cap cs (kj + 4) ∧ RowIs ((w'.setCell ⟨R, j, none⟩ (.int .i32 x)).setCell ⟨b, 0 + 1, none⟩ (.int .i64 ((kj : Int) + 4))) R 21 (fillTo (i32s xs) (.int .i32 0) n (j + 1)) ∧
          Kept [b] w ((w'.setCell ⟨R, j, none⟩ (.int .i32 x)).setCell ⟨b, 0 + 1, none⟩ (.int .i64 ((kj : Int) + 4))) := fun w' kk => by
        have hd' := HD.out.kept kk (by simp) (by simp)
        have hd3 := hd'.kept (((Kept.refl [R] w').setCell (p := ⟨R, j, none⟩) (.int .i32 x) (by simp))) (by simpa using hbR) (by simpa using hgR)
        refine ⟨hd'.fz _, ?_, ?_, ?_⟩
        · have := hd3.set (kj + 4) (by rw [HN.out]; omega)
          simpa using this
        · have h1 := (HROW.out.1.kept kk (by simp)).set HROW.out.2.1 HROW.out.2.2.1.symm (.int .i32 x)
          rw [HROW.out.2.2.2]
          exact h1.kept ((Kept.refl [b] _).setCell (p := ⟨b, 0 + 1, none⟩) _ (by simp)) (by simp; omega)
        · exact ((hkr.trans kk (by simp) (by simp)).setCell _ (by simp; omega)).setCell _ (by simp)
      have HE := Lib.hid hE; clear hE
      have HKR := Lib.hid hkr; clear hkr
      go_wp2_with fail
      go_region_held3 (fun w' => w'.cell? ⟨b, 0, none⟩ = some (.slice (some ⟨g, off, none⟩) N cap) ∧ w'.cell? ⟨b, 0 + 1, none⟩ = some (.int .i64 (kj : Int)))
        (first | with_reducible exact HS.out _ (Kept.refl _ _).drew | with_reducible exact HS.out _ hk3' | with_reducible exact HS.out _ (hk3'.setCell _ (by simp)) | fail)
        (first
          | (go_at_call 346
             refine (HCALL.out _ _ (by omega) _ (Kept.refl _ _).drew).mono ?_
             rintro e w3 ⟨rfl, hk3⟩
             have hk3' : Kept [R] wr w3 := hk3.of_drew.mono (by simp)
             obtain ⟨cR, fR⟩ := HF.out _ hk3.of_drew)
          | fail)
      obtain ⟨f1, hd4, hr4, hk4⟩ := HE.out _ hk3.of_drew
      have c1' := (HS.out _ (hk3'.setCell (p := ⟨R, j, none⟩) (.int .i32 x) (by simp))).2
      have HEND := Lib.hid (And.intro hd4 (And.intro hr4 hk4)); clear hd4 hr4 hk4
      have HKK := Lib.hid hkk; clear hkk
      go_wp2
      go_roundw
      case rel => exact ⟨j + 1, by omega, by go_num, by rw [show k + 4 + 4 * (j + 1) = kj + 4 by have := HKK.out; omega]; exact HEND.out.1, HEND.out.2.1, HEND.out.2.2⟩
      case measure => simp [intOf]; omega
    · obtain rfl : j = n := by omega
      have hil : (i32s xs).length = j := by rw [i32s, List.length_map]; exact HXN.out
      have hrow' : RowIs wr R 21 (i32s xs) := by
        have e : fillTo (i32s xs) (.int .i32 0) j j = i32s xs := by unfold fillTo; rw [Nat.sub_self, List.take_of_length_le (by omega)]; simp
        rw [e] at hrow; exact hrow
      have hsl := hrow'.sl hil (fun u hu => by obtain ⟨y, _, rfl⟩ := List.mem_map.1 hu; rfl)
      have hRl := lt_of_heap hrow'
      have HEND := Lib.hid (And.intro hd (And.intro hsl (And.intro hkr hRl))); clear hd hsl hkr hrow hrow' hil hRl
      go_wp2
      go_ret2
      exact ⟨R, ⟨rfl, HEND.out.1, HEND.out.2.2.1⟩, ⟨⟨_, _, by rw [HXN.out]⟩, by rw [HXN.out]; exact HEND.out.2.1, HX.out⟩, hRw, HEND.out.2.2.2⟩

set_option maxRecDepth 100000 in
set_option maxHeartbeats 400000 in
theorem getInts_any (b g off cap k : Nat) (xs : List Int) (pre post : List Value) (w : World) (h : Dec w b g off cap (pre ++ encInts xs ++ post) k) (hk : k = pre.length) (hx : ∀ x ∈ xs, isI32 x) (hxl : xs.length ≤ 100000000) (hgw : g < w.heap.size) :
    Calls Tryz.prog 340 #[.pointer (some ⟨b, 0, none⟩)] w fun e w' => ∃ R, Gets b g off cap (pre ++ encInts xs ++ post) (k + 4 + 4 * xs.length) (.slice (some ⟨R, 0, none⟩) xs.length xs.length) w e w' ∧ SlInts w' (.slice (some ⟨R, 0, none⟩) xs.length xs.length) xs ∧ w.heap.size ≤ R ∧ R < w'.heap.size := by
  have h1 := getNInts_any b g off cap k xs pre post w h hk hx hxl hgw
  have H1 := Lib.hid h1; clear h1
  have hnil := fun (w : World) (a : Addr) => Lib.run_eql_slice_nil (P := Tryz.prog) w 31 21 (some a) xs.length xs.length 0 0 Tryz.underlying31
  clear h hx hxl hk
  go_enter Tryz.func340, Tryz.ntmps340
  go_wp2_with (first
    | (go_at_call 349
       refine H1.out.mono ?_
       rintro e w1 ⟨R, ⟨rfl, hd1, hk1⟩, hsl, hR⟩
       have HE := Lib.hid (And.intro hd1 (And.intro hk1 (And.intro hsl hR))); clear hd1 hk1 hsl hR)
    | fail)
  go_ret2
  exact ⟨R, ⟨rfl, HE.out.1, HE.out.2.1⟩, HE.out.2.2.1, HE.out.2.2.2⟩
end Go.Proofs.YticcnlpfmekagaaGreat
namespace Go.Proofs.YticcnlpfmekagaaGreat
open Go Go.Proofs Go.RowKit
set_option linter.unusedVariables false
set_option linter.unusedSimpArgs false

/-! ## the reference's bytes -/

/-- v holds xs, in memory that was made since wB -/
structure Acc (wB w : World) (v : Value) (xs : List Value) : Prop where
  own : w.ownsRow 0 5 1 v xs.length xs
  fr : Fresh wB v
  kept : Kept [] wB w
theorem Acc.nil {wB w : World} (h : Kept [] wB w) : Acc wB w (.slice none 0 0) [] := ⟨own_nil _ _, Fresh.nil _, h⟩
theorem own_n {w : World} {v : Value} {n : Nat} {xs : List Value} (h : w.ownsRow 0 5 1 v n xs) : n = xs.length := by have := h.1; omega
theorem Acc.form {wB w : World} {v : Value} {xs : List Value} (h : Acc wB w v xs) : ∃ a n c, v = .slice a n c := own_form h.own
theorem Acc.len {wB w : World} {a : Option Addr} {n c : Nat} {xs : List Value} (h : Acc wB w (.slice a n c) xs) : n = xs.length := by
  rcases h.own.2 with ⟨h1, h2⟩ | ⟨g, cap, cur, h1, _⟩
  · cases h1; exact h2.symm
  · cases h1; rfl
theorem Acc.later {wB w w' : World} {v : Value} {xs : List Value} (h : Acc wB w v xs) (k : Kept [] w w') : Acc wB w' v xs := ⟨own_kept h.own k (by simp), h.fr, h.kept.trans k (by simp) (by simp)⟩
theorem Acc.step {wB w w1 w2 : World} {v v' : Value} {xs ys : List Value} {m : Nat} (h : Acc wB w v xs) (hk : Kept [] w w1) (ho : w2.ownsRow 0 5 1 v' (xs.length + m) (xs ++ ys)) (hk1 : Kept v.ownBlock.toList w1 w2)
    (hd : (v'.ownBlock = v.ownBlock ∧ w2.heap.size = w1.heap.size) ∨ (v'.ownBlock = some w1.heap.size ∧ w2.heap.size = w1.heap.size + 1)) : Acc wB w2 v' (xs ++ ys) := by
  obtain ⟨h1, h2⟩ := app_step h.fr (h.kept.trans hk (U := []) (by simp) (by simp)) hk1 hd
  exact ⟨by rw [← own_n ho]; exact ho, h1, h2⟩

set_option maxRecDepth 100000 in
set_option maxHeartbeats 1000000 in
theorem putBig4_any (wB w : World) (v : Value) (xs : List Value) (x : Int) (h : Acc wB w v xs) (hn : xs.length ≤ 10000000) (h0 : 0 ≤ x) (h1 : x < 18446744073709551616) :
    Calls Tryz.prog 52 #[v, .int .u64 x, .int .i64 4] w fun e w' => ∃ v', e = .returned v' ∧ Acc wB w' v' (xs ++ be32 (x % 4294967296)) := by
  have HA := Lib.hid h
  have ho := h.own
  generalize hnn : xs.length = n at ho hn
  have HNN := Lib.hid hnn; clear hnn h
  have HO := Lib.hid ho; clear ho
  go_enter Tryz.func52, Tryz.ntmps52
  go_wp2
  refine wp_loop_rounds 5 ?_
  rw [rounds_succ]
  go_wp2_with (refine wl_app (v := v) rfl rfl elU8 rfl rfl (HO.out.alloc _) (src_one (heap_alloc_new w _) rfl Tryz.underlying28) (by omega) (by omega) ?_; intro v1 w1 ho1 hk1 hd1)
  rw [rounds_succ]
  go_wp2_with (refine wl_app (v := v1) rfl rfl elU8 rfl rfl (ho1.alloc _) (src_one (heap_alloc_new w1 _) rfl Tryz.underlying28) (by omega) (by omega) ?_; intro v2 w2 ho2 hk2 hd2)
  rw [rounds_succ]
  go_wp2_with (refine wl_app (v := v2) rfl rfl elU8 rfl rfl (ho2.alloc _) (src_one (heap_alloc_new w2 _) rfl Tryz.underlying28) (by omega) (by omega) ?_; intro v3 w3 ho3 hk3 hd3)
  rw [rounds_succ]
  go_wp2_with (refine wl_app (v := v3) rfl rfl elU8 rfl rfl (ho3.alloc _) (src_one (heap_alloc_new w3 _) rfl Tryz.underlying28) (by omega) (by omega) ?_; intro v4 w4 ho4 hk4 hd4)
  rw [rounds_succ]
  go_wp2
  go_ret
  obtain ⟨f1, k1⟩ := app_step HA.out.fr (HA.out.kept.alloc _) hk1 hd1
  obtain ⟨f2, k2⟩ := app_step f1 (k1.alloc _) hk2 hd2
  obtain ⟨f3, k3⟩ := app_step f2 (k2.alloc _) hk3 hd3
  obtain ⟨f4, k4⟩ := app_step f3 (k3.alloc _) hk4 hd4
  have e := be32_mod x
  have e4 : xs ++ be32 (x % 4294967296) = xs ++ [Value.int .u8 (x / 16777216 % 256)] ++ [.int .u8 (x / 65536 % 256)] ++ [.int .u8 (x / 256 % 256)] ++ [.int .u8 (x % 256)] := by rw [e]; simp
  rw [e4]
  exact ⟨v4, rfl, by rw [← own_n ho4]; exact ho4, f4, k4⟩

set_option maxRecDepth 100000 in
set_option maxHeartbeats 1000000 in
theorem putBig2_any (wB w : World) (v : Value) (xs : List Value) (x : Int) (h : Acc wB w v xs) (hn : xs.length ≤ 10000000) (h0 : 0 ≤ x) (h1 : x < 18446744073709551616) :
    Calls Tryz.prog 52 #[v, .int .u64 x, .int .i64 2] w fun e w' => ∃ v', e = .returned v' ∧ Acc wB w' v' (xs ++ be16 (x % 65536)) := by
  have HA := Lib.hid h
  have ho := h.own
  generalize hnn : xs.length = n at ho hn
  have HNN := Lib.hid hnn; clear hnn h
  have HO := Lib.hid ho; clear ho
  go_enter Tryz.func52, Tryz.ntmps52
  go_wp2
  refine wp_loop_rounds 3 ?_
  rw [rounds_succ]
  go_wp2_with (refine wl_app (v := v) rfl rfl elU8 rfl rfl (HO.out.alloc _) (src_one (heap_alloc_new w _) rfl Tryz.underlying28) (by omega) (by omega) ?_; intro v1 w1 ho1 hk1 hd1)
  rw [rounds_succ]
  go_wp2_with (refine wl_app (v := v1) rfl rfl elU8 rfl rfl (ho1.alloc _) (src_one (heap_alloc_new w1 _) rfl Tryz.underlying28) (by omega) (by omega) ?_; intro v2 w2 ho2 hk2 hd2)
  rw [rounds_succ]
  go_wp2
  go_ret
  obtain ⟨f1, k1⟩ := app_step HA.out.fr (HA.out.kept.alloc _) hk1 hd1
  obtain ⟨f2, k2⟩ := app_step f1 (k1.alloc _) hk2 hd2
  have e := be16_mod x
  have e4 : xs ++ be16 (x % 65536) = xs ++ [Value.int .u8 (x / 256 % 256)] ++ [.int .u8 (x % 256)] := by rw [e]; simp
  rw [e4]
  exact ⟨v2, rfl, by rw [← own_n ho2]; exact ho2, f2, k2⟩

set_option maxRecDepth 100000 in
set_option maxHeartbeats 400000 in
theorem putText_any (wB w : World) (v : Value) (xs : List Value) (s : ByteArray) (h : Acc wB w v xs) (hn : xs.length ≤ 1000000) (hs : s.size ≤ 32767) :
    Calls Tryz.prog 53 #[v, .string s] w fun e w' => ∃ v', e = .returned v' ∧ Acc wB w' v' (xs ++ encStr s) := by
  have h1 := putBig2_any wB w v xs s.size h (by omega) (by omega) (by omega)
  rw [Int.emod_eq_of_lt (by omega) (by omega)] at h1
  have H1 := Lib.hid h1; clear h1
  have hxl : (xs ++ be16 (s.size : Int)).length ≤ 1000002 := by simp [be16]; omega
  have hw : IntKind.u64.wrap (s.size : Int) = s.size := by simp [IntKind.wrap, IntKind.bits, IntKind.signed]; omega
  have e : xs ++ encStr s = xs ++ be16 (s.size : Int) ++ byteCells s := by simp [encStr]
  rw [e]
  clear e h
  generalize hys : xs ++ be16 (s.size : Int) = ys at *
  have HYS := Lib.hid hys; clear hys
  go_enter Tryz.func53, Tryz.ntmps53
  go_wp2_with (first
    | (go_at_call 52
       refine H1.out.mono ?_
       rintro e w1 ⟨v1, rfl, ha1⟩
       have HA1 := Lib.hid ha1; clear ha1)
    | (refine wl_app (v := v1) rfl rfl elU8 rfl rfl HA1.out.own (Src.ofString _ Tryz.underlying9 s) (by omega) (by omega) ?_
       intro v2 w2 ho2 hk2 hd2)
    | fail)
  go_ret
  exact ⟨v2, rfl, HA1.out.step (Kept.refl _ _) ho2 hk2 hd2⟩

/-- bytes behind their length, -1 for none -/
def specData (data : List Value) : List Value := if data = [] then be32 4294967295 else be32 data.length ++ data

set_option maxRecDepth 100000 in
set_option maxHeartbeats 400000 in
theorem putData_any (wB w : World) (v : Value) (xs : List Value) (a : Option Addr) (c : Nat) (data : List Value) (h : Acc wB w v xs) (hn : xs.length ≤ 1000000) (hd : SlAt wB 1 (.slice a data.length c) data.length data) (hl : data.length ≤ 1000000) :
    Calls Tryz.prog 54 #[v, .slice a data.length c] w fun e w' => ∃ v', e = .returned v' ∧ Acc wB w' v' (xs ++ specData data) := by
  by_cases h0 : data = []
  · subst h0
    have HA := Lib.hid h; clear h
    have hs4 : ∀ w' : World, SlAt (w'.alloc (.cells #[.int .u8 255, .int .u8 255, .int .u8 255, .int .u8 255] 5)) 1 (.slice (some ⟨w'.heap.size, 0, none⟩) 4 4) 4 [.int .u8 255, .int .u8 255, .int .u8 255, .int .u8 255] := fun w' => by
      refine ⟨rfl, by simp [Value.oneCell'], .inr ⟨_, 0, 4, rfl, fun j u hj => ?_⟩⟩
      rw [Nat.zero_add]
      exact (cells_of (heap_alloc_new w' _)).1 j u (by simpa using hj)
    have hsrc := (hs4 w).src Tryz.underlying28
    have HS := Lib.hid hsrc; clear hsrc hs4
    simp only [List.length_nil] at *
    generalize hnn : xs.length = n at *
    have HNN := Lib.hid hnn; clear hnn
    go_enter Tryz.func54, Tryz.ntmps54
    go_wp2_with (first
      | (refine wl_app (v := v) rfl rfl elU8 rfl rfl (own_kept HA.out.own ((Kept.refl [] w).alloc _) (by simp)) HS.out (by have := HNN.out; omega) (by have := HNN.out; omega) ?_
         intro v2 w2 ho2 hk2 hd2)
      | fail)
    go_ret
    refine ⟨v2, rfl, ?_⟩
    have := HA.out.step ((Kept.refl [] w).alloc _) ho2 hk2 hd2
    simpa [specData, be32] using this
  · have hlen : data.length ≠ 0 := fun e => h0 (List.eq_nil_of_length_eq_zero e)
    have hb : ¬ ((data.length : Int) = 0) := by omega
    have h1 := putBig4_any wB w v xs data.length h (by omega) (by omega) (by omega)
    rw [Int.emod_eq_of_lt (by omega) (by omega)] at h1
    have H1 := Lib.hid h1; clear h1
    have hxl : (xs ++ be32 (data.length : Int)).length ≤ 1000004 := by simp [be32]; omega
    have hw : IntKind.u64.wrap (data.length : Int) = data.length := by simp [IntKind.wrap, IntKind.bits, IntKind.signed]; omega
    have e : xs ++ specData data = xs ++ be32 (data.length : Int) ++ data := by simp [specData, h0]
    rw [e]
    have hsrc : ∀ w', Kept [] wB w' → Src Tryz.prog 1 28 (.slice a data.length c) data.length data w' := fun w' k => (hd.kept k (by simp)).src Tryz.underlying28
    have HSRC := Lib.hid hsrc; clear hsrc
    clear e h hd h0 hlen
    generalize hys : xs ++ be32 (data.length : Int) = ys at *
    have HYS := Lib.hid hys; clear hys
    generalize hnn : data.length = n at *
    have HNN := Lib.hid hnn; clear hnn
    go_enter Tryz.func54, Tryz.ntmps54
    go_wp2_with (first
      | (go_at_call 52
         refine H1.out.mono ?_
         rintro e w1 ⟨v1, rfl, ha1⟩
         have HA1 := Lib.hid ha1; clear ha1)
      | (refine wl_app (v := v1) rfl rfl elU8 rfl rfl HA1.out.own (HSRC.out _ HA1.out.kept) (by omega) (by omega) ?_
         intro v2 w2 ho2 hk2 hd2)
      | fail)
    go_ret
    exact ⟨v2, rfl, HA1.out.step (Kept.refl _ _) ho2 hk2 hd2⟩

def shrBytes (x : Shr) : List Value := encStr x.top ++ encInts x.parts
end Go.Proofs.YticcnlpfmekagaaGreat
