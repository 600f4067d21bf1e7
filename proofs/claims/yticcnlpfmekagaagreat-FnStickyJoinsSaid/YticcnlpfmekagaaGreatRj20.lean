/- Part 20 of the proof of the row: Dec3, Spec, Spec2, Dec4, Dec5, Pop. -/
import Derived.Test.YticcnlpfmekagaaGreatRj00
import Derived.Test.YticcnlpfmekagaaGreatRj19
import Derived.Test.YticcnlpfmekagaaGreatRj10
import Derived.Test.YticcnlpfmekagaaGreatRj09
import Derived.Test.YticcnlpfmekagaaGreatRj17
import Derived.Test.YticcnlpfmekagaaGreatRj18
set_option linter.unusedVariables false
set_option linter.unusedSimpArgs false
set_option maxRecDepth 100000
set_option maxHeartbeats 8000000
namespace Go.Proofs.YticcnlpfmekagaaGreat
section
open Go Go.Proofs Go.RowKit
theorem make_i32 (n : Nat) (hn : n ≤ 100000000) (w : World) : (Instr.makeSlice 31 (.int .i64 n) (.int .i64 n)).run Tryz.prog w = .ok (.slice (some ⟨w.heap.size, 0, none⟩) n n) (w.alloc (.cells (List.replicate n (.int .i32 0)).toArray 21)) := by
 obtain ⟨i, hi, h1, h2, h3⟩ : ∃ i, Tryz.prog.info? 21 = some i ∧ i.zero = some (.int .i32 0) ∧ i.size = 1 ∧ i.bytes = 4 := info_parts infoI32
 have hr := run_make (P := Tryz.prog) w 31 21 i (.int .i32 0) Tryz.underlying31 hi h1 .i64 .i64 n n (by omega) (Int.le_refl _) (by rw [h3]; omega) (by omega)
 rw [hr, h2]
 have : madeCells (Value.int .i32 0).cells ((n : Int).toNat * 1) = (List.replicate n (.int .i32 0)).toArray := by
  apply Array.toList_inj.1
  have := toList_madeCells_one (.int .i32 0) n
  simpa [Value.cells] using this
 rw [this]; simp
def RowIs (w : World) (R E : Nat) (L : List Value) : Prop := w.heap[R]? = some (.cells L.toArray E (0, 0))
theorem RowIs.cell {w : World} {R E k : Nat} {L pre post : List Value} {x : Value} (h : RowIs w R E L) (e : L = pre ++ x :: post) (hk : k = pre.length) : w.cell? ⟨R, k, none⟩ = some x := by
 subst hk e; unfold RowIs at h; simp [World.cell?, h]
theorem RowIs.fz {w : World} {R E : Nat} {L : List Value} (h : RowIs w R E L) (k : Nat) : w.frozen? ⟨R, k, none⟩ = false := by unfold RowIs at h; simp [World.frozen?, h]
theorem RowIs.set {w : World} {R E k : Nat} {L pre post : List Value} {x : Value} (h : RowIs w R E L) (e : L = pre ++ x :: post) (hk : k = pre.length) (v : Value) : RowIs (w.setCell ⟨R, k, none⟩ v) R E (pre ++ v :: post) := by
 subst hk e; unfold RowIs at *
 simp [World.setCell, Array.getElem?_modify, h]
theorem RowIs.kept {w w' : World} {R E : Nat} {L : List Value} {S : List Nat} (h : RowIs w R E L) (k : Kept S w w') (hs : R ∉ S) : RowIs w' R E L := k.heap h hs
theorem RowIs.sl {w : World} {R E n : Nat} {L : List Value} (h : RowIs w R E L) (hl : L.length = n) (h1 : ∀ u ∈ L, u.oneCell' = true) : SlAt w 1 (.slice (some ⟨R, 0, none⟩) n n) n L :=
 ⟨by omega, h1, .inr ⟨R, 0, n, rfl, fun j u hj => by rw [Nat.zero_add]; exact (cells_of h).1 j u (by simpa using hj)⟩⟩
def fillTo (xs : List Value) (z : Value) (n j : Nat) : List Value := xs.take j ++ List.replicate (n - j) z
theorem fillTo_at (xs : List Value) (z : Value) (n j : Nat) (hj : j < n) (hn : n = xs.length) : fillTo xs z n j = xs.take j ++ z :: List.replicate (n - (j + 1)) z ∧ (xs.take j).length = j := by
 refine ⟨?_, by rw [List.length_take]; omega⟩
 unfold fillTo
 rw [show n - j = (n - (j + 1)) + 1 by omega, List.replicate_succ]
theorem fillTo_next (xs : List Value) (z : Value) (n j : Nat) (x : Value) (hx : xs[j]? = some x) : fillTo xs z n (j + 1) = xs.take j ++ x :: List.replicate (n - (j + 1)) z := by
 obtain ⟨h1, h2⟩ := List.getElem?_eq_some_iff.1 hx
 unfold fillTo
 rw [List.take_succ_eq_append_getElem h1, h2, List.append_assoc]; rfl
theorem sg32_mod (x : Int) (h : isI32 x) : IntKind.i32.wrap (x % 4294967296) = x := by
 unfold isI32 at h
 simp [IntKind.wrap, IntKind.bits, IntKind.signed]
 omega
theorem getNInts_any (b g off cap k : Nat) (xs : List Int) (pre post : List Value) (w : World) (h : Dec w b g off cap (pre ++ encInts xs ++ post) k) (hk : k = pre.length) (hx : ∀ x ∈ xs, isI32 x) (hxl : xs.length ≤ 100000000) (hgw : g < w.heap.size) :
 Calls Tryz.prog 349 #[.pointer (some ⟨b, 0, none⟩)] w fun e w' => ∃ R, Gets b g off cap (pre ++ encInts xs ++ post) (k + 4 + 4 * xs.length) (.slice (some ⟨R, 0, none⟩) xs.length xs.length) w e w' ∧ SlInts w' (.slice (some ⟨R, 0, none⟩) xs.length xs.length) xs ∧ w.heap.size ≤ R ∧ R < w'.heap.size := by
 have e0 : pre ++ encInts xs ++ post = pre ++ be32 xs.length ++ (be32s xs ++ post) := by simp [encInts]
 rw [e0] at h ⊢
 have hb4 : (be32s xs).length = 4 * xs.length := be32s_length xs
 have hsm := h.small
 have h1 := getArrayLength_any b g off cap k xs.length pre (be32s xs ++ post) w h hk (by rw [List.length_append, hb4]; omega) hxl
 have H1 := Zhd h1; clear h1
 have hat : ∀ (w1 : World) (j : Nat) (x : Int), Dec w1 b g off cap (pre ++ be32 xs.length ++ (be32s xs ++ post)) (k + 4 + 4 * j) → xs[j]? = some x → ∀ (n c : Nat), 4 ≤ n → ∀ w', Kept [] w1 w' →
  Calls Tryz.prog 346 #[.agg #[], .slice (some ⟨g, off + (k + 4 + 4 * j), none⟩) n c] w' fun e w2 => e = .returned (.int .u32 (x % 4294967296)) ∧ Kept [] w' w2 := fun w1 j x hd hj n c hn w' kk => by
  obtain ⟨hj1, hj2⟩ := List.getElem?_eq_some_iff.1 hj
  have e1 : be32s xs = be32s (xs.take j) ++ be32 (x % 4294967296) ++ be32s (xs.drop (j + 1)) := by
   conv => lhs; rw [← List.take_append_drop j xs, List.drop_eq_getElem_cons hj1, hj2]
   simp [be32s]
  have e2 : pre ++ be32 xs.length ++ (be32s xs ++ post) = (pre ++ be32 xs.length ++ be32s (xs.take j)) ++ be32 (x % 4294967296) ++ (be32s (xs.drop (j + 1)) ++ post) := by
   rw [e1]; simp
  rw [e2] at hd
  exact u32_at b g off cap (k + 4 + 4 * j) (x % 4294967296) _ _ w1 hd (by simp [be32, be32s_length]; omega) (by omega) (by omega) n c hn w' kk
 have HAT := Zhd hat; clear hat
 have hlen : k + 4 + 4 * xs.length ≤ (pre ++ be32 xs.length ++ (be32s xs ++ post)).length := by simp [be32, hb4]; omega
 have hcap := h.cap
 have hbg := h.ne
 have hbw := h.lt
 clear h e0 hk hb4
 generalize pre ++ be32 (xs.length : Int) ++ (be32s xs ++ post) = cs at *
 have hr2 := fun (w' : World) (k' : Nat) (hd : Dec w' b g off cap cs k') => remaining_any b g off cap k' cs w' hd
 have HR2 := Zhd hr2; clear hr2
 have HX := Zhd hx; clear hx
 have hmk := make_i32 xs.length hxl
 generalize hn : xs.length = n at *
 have HXN := Zhd hn; clear hn
 generalize hN : cs.length = N at *
 have HN := Zhd hN; clear hN
 have nm1 : ¬ ((n : Int) < -1) := by omega
 have nm2 : ¬ ((n : Int) = -1) := by omega
 have nlt : ¬ (((N : Int) - ((k + 4 : Nat) : Int)) / 4 < (n : Int)) := by omega
 have nge : (0 : Int) ≤ (N : Int) - ((k + 4 : Nat) : Int) := by omega
 go_enter Tryz.func349, Tryz.ntmps349
 go_wp2_with fail
 refine H1.out.mono ?_
 rintro e w1 ⟨rfl, hd1, hk1⟩
 go_wp2_with (first
  | (go_at_call 345; refine (HR2.out _ _ hd1).mono ?_; rintro e w2 ⟨rfl, hk2⟩)
  | fail)
 generalize hR : w2.heap.size = R
 have hs1 := hk1.size
 have hs2 := hk2.size
 have hRg : g < R := by omega
 have hRb : b < R := by omega
 have hRw : w.heap.size ≤ R := by omega
 have hk12 : Kept [b] w w2 := hk1.trans hk2 (by simp) (by simp)
 have hd2 := hd1.kept hk2 (by simp) (by simp)
 have hrow0 : RowIs (w2.alloc (.cells (Array.replicate n (.int .i32 0)) 21)) R 21 (fillTo (i32s xs) (.int .i32 0) n 0) := by
  have := heap_alloc_new w2 (.cells (Array.replicate n (.int .i32 0)) 21)
  rw [hR] at this
  unfold RowIs
  rw [this]
  simp [fillTo]
 have HR := Zhd hR; clear hR
 have HD2 := Zhd (Zan hd2 (Zan hk12 hrow0)); clear hd2 hk12 hrow0 hd1 hk1 hk2 hs1 hs2
 clear nlt nge
 have hcapN : N ≤ cap := hcap
 have hbR : b ≠ R := by omega
 have hgR : g ≠ R := by omega
 go_loopw [7, 40] (fun _ i wr => ∃ j : Nat, j ≤ n ∧ i = .int .i64 j ∧ Dec wr b g off cap cs (k + 4 + 4 * j) ∧ RowIs wr R 21 (fillTo (i32s xs) (.int .i32 0) n j) ∧ Kept [b] w wr) (fun _ i _ => n - (intOf i).toNat)
 case atStart => exact ⟨0, Nat.zero_le _, rfl, HD2.out.1.kept ((Kept.refl [] _).alloc _) (by simp) (by simp), HD2.out.2.2, HD2.out.2.1.alloc _⟩
 case round =>
  obtain ⟨j, hj, rfl, hd, hrow, hkr⟩ := hrel
  by_cases hjn : j < n
  · obtain ⟨x, hxj⟩ : ∃ x, xs[j]? = some x := ⟨_, List.getElem?_eq_getElem (by have := HXN.out; omega)⟩
    have hxi := HX.out x (List.mem_of_getElem? hxj)
    have hcall := HAT.out wr j x hd hxj
    have hsg := sg32_mod x hxi
    have hil : n = (i32s xs).length := by rw [i32s, List.length_map]; exact HXN.out.symm
    obtain ⟨hf1, hf2⟩ := fillTo_at (i32s xs) (.int .i32 0) n j hjn hil
    have hnx := fillTo_next (i32s xs) (.int .i32 0) n j (.int .i32 x) (by simp [i32s, hxj])
    have HROW := Zhd (Zan hrow (Zan hf1 (Zan hf2 hnx))); clear hrow hf1 hf2 hnx hil
    have HCALL := Zhd hcall; clear hcall
    have HXJ := Zhd hxj; clear hxj hxi
    have HD := Zhd hd; clear hd
    have hS : ∀ w', Kept [R] wr w' → w'.cell? ⟨b, 0, none⟩ = some (.slice (some ⟨g, off, none⟩) N cap) ∧ w'.cell? ⟨b, 0 + 1, none⟩ = some (.int .i64 ((k + 4 + 4 * j : Nat) : Int)) := fun w' kk => by
     have hd' := HD.out.kept kk (by simpa using hbR) (by simpa using hgR)
     have h0 := hd'.c0
     rw [HN.out] at h0
     exact ⟨h0, hd'.c1⟩
    have HS := Zhd hS; clear hS
    have hkN : k + 4 + 4 * j + 4 ≤ N := by omega
    generalize hkk : k + 4 + 4 * j = kj at *
    have i0 : (0 : Int) ≤ (kj : Int) := by omega
    have i1 : (kj : Int) ≤ (N : Int) := by omega
    have i5 : (N : Int) ≤ 1000000000 := by omega
    have ne : ¬ cap = kj := by omega
    have j0 : (0 : Int) ≤ (j : Int) := by omega
    have j1 : (j : Int) < (n : Int) := by omega
    have j2 : (n : Int) ≤ 100000000 := by omega
    have hF : ∀ w' : World, Kept [] wr w' → w'.cell? ⟨R, j, none⟩ = some (.int .i32 0) ∧ w'.frozen? ⟨R, j, none⟩ = false := fun w' kk =>
     ⟨(HROW.out.1.kept kk (by simp)).cell HROW.out.2.1 HROW.out.2.2.1.symm, (HROW.out.1.kept kk (by simp)).fz _⟩
    have HF := Zhd hF; clear hF
    have hE : ∀ w' : World, Kept [] wr w' → w'.frozen? ⟨b, 0 + 1, none⟩ = false ∧ Dec ((w'.setCell ⟨R, j, none⟩ (.int .i32 x)).setCell ⟨b, 0 + 1, none⟩ (.int .i64 ((kj : Int) + 4))) b g off cap cs (kj + 4) ∧ RowIs ((w'.setCell ⟨R, j, none⟩ (.int .i32 x)).setCell ⟨b, 0 + 1, none⟩ (.int .i64 ((kj : Int) + 4))) R 21 (fillTo (i32s xs) (.int .i32 0) n (j + 1)) ∧
     Kept [b] w ((w'.setCell ⟨R, j, none⟩ (.int .i32 x)).setCell ⟨b, 0 + 1, none⟩ (.int .i64 ((kj : Int) + 4))) := fun w' kk => by
     have hd' := HD.out.kept kk (by simp) (by simp)
     have hd3 := hd'.kept (((Kept.refl [R] w').setCell (p := ⟨R, j, none⟩) (.int .i32 x) (by simp))) (by simpa using hbR) (by simpa using hgR)
     refine ⟨hd'.fz _, ?_, ?_, ?_⟩
     · have := hd3.set (kj + 4) (by rw [HN.out]; omega)
       simpa using this
     · have h1 := (HROW.out.1.kept kk (by simp)).set HROW.out.2.1 HROW.out.2.2.1.symm (.int .i32 x)
       rw [HROW.out.2.2.2]
       exact h1.kept ((Kept.refl [b] _).setCell (p := ⟨b, 0 + 1, none⟩) _ (by simp)) (by simp; omega)
     · exact ((hkr.trans kk (by simp) (by simp)).setCell _ (by simp; omega)).setCell _ (by simp)
    have HE := Zhd hE; clear hE
    have HKR := Zhd hkr; clear hkr
    go_wp2_with fail
    go_region_held3 (fun w' => w'.cell? ⟨b, 0, none⟩ = some (.slice (some ⟨g, off, none⟩) N cap) ∧ w'.cell? ⟨b, 0 + 1, none⟩ = some (.int .i64 (kj : Int)))
     (first | with_reducible exact HS.out _ (Kept.refl _ _).drew | with_reducible exact HS.out _ hk3' | with_reducible exact HS.out _ (hk3'.setCell _ (by simp)) | fail)
     (first
       | (go_at_call 346
          refine (HCALL.out _ _ (by omega) _ (Kept.refl _ _).drew).mono ?_
          rintro e w3 ⟨rfl, hk3⟩
          have hk3' : Kept [R] wr w3 := hk3.of_drew.mono (by simp)
          obtain ⟨cR, fR⟩ := HF.out _ hk3.of_drew)
       | fail)
    obtain ⟨f1, hd4, hr4, hk4⟩ := HE.out _ hk3.of_drew
    have c1' := (HS.out _ (hk3'.setCell (p := ⟨R, j, none⟩) (.int .i32 x) (by simp))).2
    have HEND := Zhd (Zan hd4 (Zan hr4 hk4)); clear hd4 hr4 hk4
    have HKK := Zhd hkk; clear hkk
    go_wp2
    go_roundw
    case rel => exact ⟨j + 1, by omega, by go_num, by rw [show k + 4 + 4 * (j + 1) = kj + 4 by have := HKK.out; omega]; exact HEND.out.1, HEND.out.2.1, HEND.out.2.2⟩
    case measure => simp [intOf]; omega
  · obtain rfl : j = n := by omega
    have hil : (i32s xs).length = j := by rw [i32s, List.length_map]; exact HXN.out
    have hrow' : RowIs wr R 21 (i32s xs) := by
     have e : fillTo (i32s xs) (.int .i32 0) j j = i32s xs := by unfold fillTo; rw [Nat.sub_self, List.take_of_length_le (by omega)]; simp
     rw [e] at hrow; exact hrow
    have hsl := hrow'.sl hil (fun u hu => by obtain ⟨y, _, rfl⟩ := List.mem_map.1 hu; rfl)
    have hRl := lt_of_heap hrow'
    have HEND := Zhd (Zan hd (Zan hsl (Zan hkr hRl))); clear hd hsl hkr hrow hrow' hil hRl
    go_wp2
    go_ret2
    exact ⟨R, ⟨rfl, HEND.out.1, HEND.out.2.2.1⟩, ⟨⟨_, _, by rw [HXN.out]⟩, by rw [HXN.out]; exact HEND.out.2.1, HX.out⟩, hRw, HEND.out.2.2.2⟩
theorem getInts_any (b g off cap k : Nat) (xs : List Int) (pre post : List Value) (w : World) (h : Dec w b g off cap (pre ++ encInts xs ++ post) k) (hk : k = pre.length) (hx : ∀ x ∈ xs, isI32 x) (hxl : xs.length ≤ 100000000) (hgw : g < w.heap.size) :
 Calls Tryz.prog 340 #[.pointer (some ⟨b, 0, none⟩)] w fun e w' => ∃ R, Gets b g off cap (pre ++ encInts xs ++ post) (k + 4 + 4 * xs.length) (.slice (some ⟨R, 0, none⟩) xs.length xs.length) w e w' ∧ SlInts w' (.slice (some ⟨R, 0, none⟩) xs.length xs.length) xs ∧ w.heap.size ≤ R ∧ R < w'.heap.size := by
 have h1 := getNInts_any b g off cap k xs pre post w h hk hx hxl hgw
 have H1 := Zhd h1; clear h1
 have hnil := fun (w : World) (a : Addr) => Lib.run_eql_slice_nil (P := Tryz.prog) w 31 21 (some a) xs.length xs.length 0 0 Tryz.underlying31
 clear h hx hxl hk
 go_enter Tryz.func340, Tryz.ntmps340
 go_wp2_with (first
  | (go_at_call 349
     refine H1.out.mono ?_
     rintro e w1 ⟨R, ⟨rfl, hd1, hk1⟩, hsl, hR⟩
     have HE := Zhd (Zan hd1 (Zan hk1 (Zan hsl hR))); clear hd1 hk1 hsl hR)
  | fail)
 go_ret2
 exact ⟨R, ⟨rfl, HE.out.1, HE.out.2.1⟩, HE.out.2.2.1, HE.out.2.2.2⟩
end
section
open Go Go.Proofs Go.RowKit
end
section
open Go Go.Proofs Go.RowKit
end
section
open Go Go.Proofs Go.RowKit
theorem rdI32 : IsMeth 215 "pub-kestrel/pub/sarama.getInt32" 339 := ⟨fun _ _ => by kernel_rfl, fun _ _ => by kernel_rfl, fun _ _ => by kernel_rfl⟩
theorem rdArr : IsMeth 215 "pub-kestrel/pub/sarama.getArrayLength" 335 := ⟨fun _ _ => by kernel_rfl, fun _ _ => by kernel_rfl, fun _ _ => by kernel_rfl⟩
theorem rdStr : IsMeth 215 "pub-kestrel/pub/sarama.getString" 342 := ⟨fun _ _ => by kernel_rfl, fun _ _ => by kernel_rfl, fun _ _ => by kernel_rfl⟩
theorem rdInts : IsMeth 215 "pub-kestrel/pub/sarama.getInt32Array" 340 := ⟨fun _ _ => by kernel_rfl, fun _ _ => by kernel_rfl, fun _ _ => by kernel_rfl⟩
theorem sg32_mod' (x : Int) (h : isI32 x) : sg32 (x % 4294967296) = x := sg32_mod x h
section
variable {b g off cap : Nat} {cs pre post : List Value} {w : World}
theorem at_i32 (x : Int) (hx : isI32 x) (e : cs = pre ++ be32 (x % 4294967296) ++ post) (h : Dec w b g off cap cs pre.length) :
 Calls Tryz.prog 339 #[.pointer (some ⟨b, 0, none⟩)] w (Gets b g off cap cs (pre ++ be32 (x % 4294967296)).length (.int .i32 x) w) := by
 subst e
 have := getInt32_any b g off cap _ (x % 4294967296) pre post w h rfl (by omega) (by omega)
 rw [sg32_mod' x hx] at this
 rw [show (pre ++ be32 (x % 4294967296)).length = pre.length + 4 by simp [be32]]; exact this
theorem at_arr (n : Nat) (hn : n ≤ post.length) (hn2 : n ≤ 100000000) (e : cs = pre ++ be32 n ++ post) (h : Dec w b g off cap cs pre.length) :
 Calls Tryz.prog 335 #[.pointer (some ⟨b, 0, none⟩)] w (Gets b g off cap cs (pre ++ be32 n).length (.int .i64 n) w) := by
 subst e
 have := getArrayLength_any b g off cap _ n pre post w h rfl hn hn2
 rw [show (pre ++ be32 (n : Int)).length = pre.length + 4 by simp [be32]]; exact this
theorem at_str (s : ByteArray) (hn2 : s.size ≤ 32767) (e : cs = pre ++ encStr s ++ post) (h : Dec w b g off cap cs pre.length) :
 Calls Tryz.prog 342 #[.pointer (some ⟨b, 0, none⟩)] w (Gets b g off cap cs (pre ++ encStr s).length (.string s) w) := by
 subst e
 have := getString_any b g off cap _ s pre post w h rfl hn2
 rw [show (pre ++ encStr s).length = pre.length + 2 + s.size by rw [List.length_append, encStr_length]; omega]; exact this
theorem at_ints (xs : List Int) (hx : ∀ x ∈ xs, isI32 x) (hxl : xs.length ≤ 100000000) (hgw : g < w.heap.size) (e : cs = pre ++ encInts xs ++ post) (h : Dec w b g off cap cs pre.length) :
 Calls Tryz.prog 340 #[.pointer (some ⟨b, 0, none⟩)] w fun e w' => ∃ R, Gets b g off cap cs (pre ++ encInts xs).length (.slice (some ⟨R, 0, none⟩) xs.length xs.length) w e w' ∧ SlInts w' (.slice (some ⟨R, 0, none⟩) xs.length xs.length) xs ∧ w.heap.size ≤ R ∧ R < w'.heap.size := by
 subst e
 have := getInts_any b g off cap _ xs pre post w h rfl hx hxl hgw
 rw [show (pre ++ encInts xs).length = pre.length + 4 + 4 * xs.length by rw [List.length_append, encInts_length]; omega]; exact this
end
def encTP (x : ByteArray × List Int) : List Value := encStr x.1 ++ encInts x.2
theorem encTP_length (x : ByteArray × List Int) : (encTP x).length = 6 + x.1.size + 4 * x.2.length := by simp [encTP, encStr_length, encInts_length]; omega
theorem encTPs_ge (D : List (ByteArray × List Int)) : D.length ≤ (D.flatMap encTP).length := by
 induction D with
 | nil => simp
 | cons y D ih => rw [List.flatMap_cons, List.length_append, encTP_length, List.length_cons]; omega
structure TPOk (x : ByteArray × List Int) : Prop where
 top : x.1.size ≤ 32767
 len : x.2.length ≤ 1000000
 i32 : ∀ y ∈ x.2, isI32 y
theorem flat_split (D : List (ByteArray × List Int)) (j : Nat) (x : ByteArray × List Int) (hj : D[j]? = some x) : D.flatMap encTP = (D.take j).flatMap encTP ++ encTP x ++ (D.drop (j + 1)).flatMap encTP ∧ (D.take (j + 1)).flatMap encTP = (D.take j).flatMap encTP ++ encTP x := by
 obtain ⟨h1, h2⟩ := List.getElem?_eq_some_iff.1 hj
 constructor
 · conv => lhs; rw [← List.take_append_drop j D, List.drop_eq_getElem_cons h1, h2]
   simp
 · rw [List.take_succ_eq_append_getElem h1, h2, List.flatMap_append]; simp
end
section
open Go Go.Proofs Go.RowKit
theorem decode_any (T : TypeId) (f : FuncId) (hmeth : IsMeth T "pub-kestrel/pub/sarama.decode" f) (m g off cap : Nat) (cs : List Value) (w : World) (Post : World → Prop) (hsl : SlAt w 1 (.slice (some ⟨g, off, none⟩) cs.length cap) cs.length cs) (hu : ∀ u ∈ cs, ∃ x, u = .int .u8 x ∧ isU8 x)
 (hgw : g < w.heap.size) (hcap : cs.length ≤ cap) (hsm : cs.length ≤ 1000000000)
 (hdec : ∀ w1, Kept [] w w1 → w.heap.size < w1.heap.size → Dec w1 w.heap.size g off cap cs 0 → Calls Tryz.prog f #[.pointer (some ⟨m, 0, none⟩), .iface 215 (.pointer (some ⟨w.heap.size, 0, none⟩))] w1 fun e w' => e = .returned .nilIface ∧ Dec w' w.heap.size g off cap cs cs.length ∧ Post w' ∧ Kept [w.heap.size, m] w1 w') :
 Calls Tryz.prog 82 #[.slice (some ⟨g, off, none⟩) cs.length cap, .iface T (.pointer (some ⟨m, 0, none⟩))] w fun e w' => e = .returned .nilIface ∧ Post w' ∧ Kept [m] w w' := by
 have hmt := hmeth.m
 have hnl := hmeth.n
 have hcf := hmeth.c
 have hnil := fun w => Lib.run_eql_slice_nil (P := Tryz.prog) w 28 5 (some ⟨g, off, none⟩) cs.length cap 0 0 Tryz.underlying28
 have hd : ∀ W : World, W = w.alloc (.cells #[.slice (some ⟨g, off, none⟩) cs.length cap, .int .i64 0, .slice none 0 0] 213) → Dec W w.heap.size g off cap cs 0 ∧ Kept [] w W ∧ w.heap.size < W.heap.size := by
  intro W e
  subst e
  refine ⟨⟨heap_alloc_new w _, fun j u hj => ca (hsl.cell hj), hu, by omega, hcap, hsm, Nat.zero_le _⟩, (Kept.refl _ _).alloc _, by simp⟩
 obtain ⟨hd1, hk1, hl1⟩ := hd _ rfl
 have hc := hdec _ hk1 hl1 hd1
 have HC := Zhd hc; clear hc
 have HK1 := Zhd hk1; clear hk1
 clear hd hd1 hdec hu hsl hl1
 generalize hN : cs.length = N at *
 have HN := Zhd hN; clear hN
 go_enter Tryz.func82, Tryz.ntmps82
 go_wp2_with (first
  | (refine HC.out.mono ?_
     rintro e w2 ⟨rfl, hd2, hpost, hk2⟩
     have c1 := hd2.c1
     have HP := Zhd hpost; clear hpost
     clear hd2)
  | fail)
 go_ret
 exact ⟨rfl, HP.out, HK1.out.trans hk2 (by simp) (by simp <;> omega)⟩
def U8L (l : List Value) : Prop := ∀ u ∈ l, ∃ x, u = Value.int .u8 x ∧ isU8 x
theorem U8L.app {a b : List Value} (ha : U8L a) (hb : U8L b) : U8L (a ++ b) := fun u hu => by
 rcases Zap.1 hu with h | h
 · exact ha u h
 · exact hb u h
theorem U8L.flat {α : Type} {f : α → List Value} {L : List α} (h : ∀ x ∈ L, U8L (f x)) : U8L (L.flatMap f) := fun u hu => by
 obtain ⟨x, hx, hu⟩ := List.mem_flatMap.1 hu
 exact h x hx u hu
theorem be16_u8 (x : Int) (h0 : 0 ≤ x) (h1 : x < 65536) : U8L (be16 x) := by
 intro u hu
 simp [be16] at hu
 rcases hu with rfl | rfl <;> exact ⟨_, rfl, by unfold isU8; omega⟩
theorem be32_u8 (x : Int) (h0 : 0 ≤ x) (h1 : x < 4294967296) : U8L (be32 x) := by
 intro u hu
 simp [be32] at hu
 rcases hu with rfl | rfl | rfl | rfl <;> exact ⟨_, rfl, by unfold isU8; omega⟩
theorem byteCells_u8 (s : ByteArray) : U8L (byteCells s) := by
 intro u hu
 unfold byteCells at hu
 obtain ⟨b, _, rfl⟩ := List.mem_map.1 hu
 exact ⟨_, rfl, by unfold isU8; have := b.toNat_lt; omega⟩
theorem encStr_u8 (s : ByteArray) (h : s.size ≤ 32767) : U8L (encStr s) := (be16_u8 _ (by omega) (by omega)).app (byteCells_u8 s)
theorem encInts_u8 (xs : List Int) (h : xs.length ≤ 1000000) : U8L (encInts xs) := (be32_u8 _ (by omega) (by omega)).app (U8L.flat fun x _ => be32_u8 _ (by omega) (by omega))
end
section
open Go Go.Proofs Go.RowKit Go.Lib
open Classical
def Rs.tops (r : Nat) (T : Tops) : Res where
 foot := r :: T.flatMap (fun x => x.2.1.ownBlock.toList)
 holds := fun w => TopsAt w r T
 stable := fun w w' S k hs h => h.kept k (hs r (by simp)) (fun x hx g hg => hs g (by
  refine List.mem_cons_of_mem _ (List.mem_flatMap.2 ⟨x, hx, by simp [hg]⟩)))
theorem tops_foot (r : Nat) (T : Tops) : r ∈ (Rs.tops r T).foot := by simp [Rs.tops]
def tpsOf (x : ByteArray × List Int) : List TP := x.2.map fun n => (x.1, n)
theorem rawT_append (A B : Tops) : rawT (A ++ B) = rawT A ++ rawT B := by simp [rawT]
theorem rawT_nil {A : Tops} (h : rawT A = []) : A = [] := by simpa [rawT] using h
abbrev itTops (r : Nat) (T : Tops) (lf : List (Value × Value)) (it : Nat) : Res := Rs.it (Rs.tops r T) r (rawT T) lf it (tops_foot r T)
def topTps (T : Tops) : List TP := T.flatMap fun x => tpsOf (x.1, x.2.2)
theorem topTps_append (A B : Tops) : topTps (A ++ B) = topTps A ++ topTps B := by simp [topTps]
theorem topTps_perm {A B : Tops} (h : A.Perm B) : (topTps A).Perm (topTps B) := h.flatMap_right _
def PopInv (w : World) (r it : Nat) (T : Tops) (v : Value) (wr : World) : Prop :=
 ∃ (Dn Lf : Tops) (na : Nat) (ps : List TP), ps = topTps Dn ∧ ps.length = na ∧ (Dn ++ Lf).Perm T ∧ St [] w wr [Rs.row 384 2 v na (ps.flatMap encTp)] [itTops r T (rawT Lf) it]
def PopIn (w : World) (r it : Nat) (T : Tops) (R : List Res) (top : ByteArray) (xs : List Int) (xn : Nat) (ps : List TP) (v i : Value) (wr : World) : Prop :=
 ∃ (k na : Nat), i = .int .i64 k ∧ k ≤ xn ∧ (ps ++ tpsOf (top, xs.take k)).length = na ∧ St [] w wr [Rs.row 384 2 v na ((ps ++ tpsOf (top, xs.take k)).flatMap encTp)] R
theorem tpsOf_len (top : ByteArray) (xs : List Int) : (tpsOf (top, xs)).length = xs.length := by simp [tpsOf]
theorem tpsOf_snoc (ps : List TP) (top : ByteArray) (xs : List Int) (k : Nat) (n : Int) (h : xs[k]? = some n) : ps ++ tpsOf (top, xs.take k) ++ [(top, n)] = ps ++ tpsOf (top, xs.take (k + 1)) := by
 obtain ⟨h1, h2⟩ := List.getElem?_eq_some_iff.1 h
 rw [List.take_succ_eq_append_getElem h1, h2]
 simp [tpsOf]
def PopPost (w : World) (T : Tops) (e : Ending) (w' : World) : Prop :=
 ∃ (v : Value) (n : Nat) (ps : List TP), e = .returned v ∧ ps.length = n ∧ ps.Perm (topTps T) ∧ St [] w w' [Rs.row 384 2 v n (ps.flatMap encTp)] []
theorem populate_any (r : Nat) (T : Tops) (w : World) (how : Ow w [Rs.tops r T]) (hb : (topTps T).length ≤ 100000) : Calls Tryz.prog 411 #[.map (some r)] w (PopPost w T) := by
 have hst0 : St [] w w [] [Rs.tops r T] := St.start0 how
 have HB := Zhd hb; clear hb how
 go_enter Tryz.func411, Tryz.ntmps411
 go_wp2_with (first
  | (refine wl_mkslice 0 rfl rfl rfl rfl elTp hst0 (by omega) (by unfold maxLen; omega) ?_
     intro g w1 hst1 hg)
  | (refine wl_rngR 0 rfl rfl rfl Tryz.underlying90 hst1 rfl (tops_foot r T) (show TopsAt _ r T from hst1.r 0 rfl).map ?_
     intro it w2 hst2 hit)
  | fail)
 simp only [Zs0] at hst2
 have hfit : w.heap.size ≤ it := by have := hst1.size; omega
 have HFIT := Zhd hfit; clear hfit hit hg hst1 hst0
 have h10 : PopInv w r it T (.slice (some ⟨g, 0, none⟩) 0 0) w2 := ⟨[], T, 0, [], rfl, rfl, .refl _, hst2⟩
 have H10 := Zhd h10; clear h10 hst2
 try go_frame
 go_loopw [3] (fun v wr => PopInv w r it T v wr) (fun _ wr => leftOf wr it r)
 case atStart => exact H10.out
 case round =>
  obtain ⟨Dn, Lf, na, ps, hps, hna, hperm, hst⟩ := hrel
  by_cases hlf : rawT Lf = []
  · have h0 := rawT_nil hlf
    subst h0
    have hit0 : IterAt wr it r (rawT T) [] := (hst.r 0 rfl).2.1
    have hst1 := hst.noR
    rw [List.append_nil] at hperm
    have HF := Zhd (Zan hst1 (Zan hna (show ps.Perm (topTps T) from by rw [hps]; exact topTps_perm hperm))); clear hst1 hna hperm hps hst
    go_wp2_with (first | (refine wl_nx0 rfl rfl rfl hit0 ?_) | fail)
    go_ret
    exact ⟨_, na, ps, rfl, HF.out.2.1, HF.out.2.2, HF.out.1⟩
  · obtain ⟨wB, rfl⟩ : ∃ wB, wB = wr := ⟨_, rfl⟩
    have HL := Zhd (Zan hperm (Zan hps hna)); clear hperm hna
    go_wp2_with (first
     | (refine wl_nx1R 0 (tops_foot r T) rfl rfl rfl hst rfl hlf HFIT.out ?_
        intro k v l1 l2 w3 hsp hst2 hent
        simp only [Zs0] at hst2
        obtain ⟨L1, x, L2, rfl, rfl, rfl, rfl, rfl⟩ := rawT_split hsp
        obtain ⟨top, xv, xs⟩ := x
        have hxT : (top, xv, xs) ∈ T := HL.out.1.mem_iff.1 (by simp)
        obtain ⟨⟨xa, xc, hxv⟩, hxs, _⟩ := (show TopsAt w3 r T from (hst2.r 0 rfl).1).parts _ hxT
        simp only at hxv hxs
        subst hxv
        obtain ⟨xn, hxn⟩ : ∃ xn, xs.length = xn := ⟨_, rfl⟩
        rw [hxn] at hxs hent
        have HS := Zhd (Zan hsp (Zan hxT hxn)); clear hsp hxT hxs)
     | (refine wl_entry rfl rfl rfl hent ?_)
     | fail)
    have hlx : ps.length + xs.length ≤ 100000 := by
     have h1 := (topTps_perm HL.out.1).length_eq
     have h2 := HB.out
     simp only [topTps_append, List.length_append, HL.out.2.1] at h1 ⊢
     have h3 : (topTps ((top, Value.slice xa xs.length xc, xs) :: L2)).length = xs.length + (topTps L2).length := by simp [topTps, tpsOf]
     have h4 : (topTps (L1 ++ (top, Value.slice xa xs.length xc, xs) :: L2)).length = (topTps L1).length + (topTps ((top, Value.slice xa xs.length xc, xs) :: L2)).length := by simp [topTps]
     rw [topTps_append] at h4
     simp only [List.length_append] at h4
     omega
    have hxb : xn ≤ 100000 := by have := HS.out.2.2; omega
    have HLX := Zhd hlx; clear hlx hps
    have h20 : PopIn w r it T [itTops r T (rawT L1 ++ rawT L2) it] top xs xn ps u3 (.int .i64 0) w3 := ⟨0, na, rfl, Nat.zero_le _, by simpa [tpsOf] using HL.out.2.2, by simpa [tpsOf] using hst2⟩
    have H20 := Zhd h20; clear h20
    have hk0 := hst2
    have HK := Zhd hst2; clear hst2 hk0 hent
    go_loopw [3, 18] (fun v i wr => PopIn w r it T [itTops r T (rawT L1 ++ rawT L2) it] top xs xn ps v i wr) (fun _ i _ => xn - (intOf i).toNat)
    case atStart => exact H20.out
    case round =>
     obtain ⟨k, na2, rfl, hk, hna2, hst3⟩ := hrel
     clear H20
     by_cases hkn : k < xn
     · obtain ⟨n, hn⟩ : ∃ n, xs[k]? = some n := ⟨_, List.getElem?_eq_getElem (by rw [HS.out.2.2]; exact hkn)⟩
       have hpt := ((show TopsAt wr r T from (hst3.r 0 rfl).1).parts _ HS.out.2.1).2.1
       simp only [HS.out.2.2] at hpt
       obtain ⟨b, off, cap, hv, hcells⟩ : ∃ b off cap, Value.slice xa xn xc = .slice (some ⟨b, off, none⟩) xn cap ∧ ∀ j u, (i32s xs)[j]? = some u → wr.cell? ⟨b, off + j, none⟩ = some u := by
        rcases hpt.2.2 with ⟨_, _, _, h0⟩ | h
        · omega
        · exact h
       simp only [Value.slice.injEq] at hv
       obtain ⟨rfl, _, rfl⟩ := hv
       have c1 := hcells k (.int .i32 n) (by simp [i32s, hn])
       have hki : (k : Int) < (xn : Int) := by omega
       have hnb : na2 ≤ 100000 := by
        have h1 := HLX.out
        have h2 := HS.out.2.2
        rw [← hna2, List.length_append, tpsOf_len, List.length_take]; omega
       have hsn := tpsOf_snoc ps top xs k n hn
       have hen := enc_snoc (ps ++ tpsOf (top, xs.take k)) (top, n)
       simp only at hen
       have HN := Zhd (Zan hsn hna2); clear hsn hna2 hn hpt hcells
       go_wp2_with (first
        | (refine wl_build1 (x := tpV (top, n)) rfl rfl rfl (build_tp (top, n) _) ?_)
        | (refine wl_push 0 rfl rfl elTp rfl rfl (hst3.alloc _) rfl ((new_tp _ (top, n)).src Tryz.underlying375) (by omega) (by omega) ?_
           intro v' w7 hst7
           simp only [Zs0] at hst7
           rw [hen, HN.out.1] at hst7)
        | fail)
       exact ⟨⟨k + 1, na2 + 1, by go_num, by omega, by rw [← HN.out.1, List.length_append, HN.out.2]; rfl, hst7⟩, by simp [intOf]; omega⟩
     · obtain rfl : k = xn := by omega
       rw [List.take_of_length_le (by rw [HS.out.2.2]; exact Nat.le_refl _)] at hst3 hna2
       have e : rawT L1 ++ rawT L2 = rawT (L1 ++ L2) := by rw [rawT_append]
       rw [e] at hst3
       have hps2 : ps ++ tpsOf (top, xs) = topTps (Dn ++ [(top, .slice xa k xc, xs)]) := by rw [HL.out.2.1, topTps_append]; simp [topTps]
       have h1 : IterAt wr it r (rawT T) (rawT (L1 ++ L2)) := (hst3.r 0 rfl).2.1
       have h2 : IterAt wB it r (rawT T) _ := (hst.r 0 rfl).2.1
       have hle : leftOf wr it r < leftOf wB it r := by
        rw [h1.leftOf, h2.leftOf, HS.out.1, ← e]
        simp
       have hfin : PopInv w r it T u3 wr := ⟨Dn ++ [(top, .slice xa k xc, xs)], L1 ++ L2, na2, ps ++ tpsOf (top, xs), hps2, hna2, by
        refine List.Perm.trans ?_ HL.out.1
        rw [HS.out.2.2, List.append_assoc]
        exact List.Perm.append_left _ (by simpa using (List.perm_middle (l₁ := L1) (l₂ := L2) (a := ((top, .slice xa k xc, xs) : ByteArray × Value × List Int))).symm), hst3⟩
       have HFN := Zhd (Zan hfin hle); clear hfin hle h1 h2 hst3 hna2
       go_wp2_with fail
       exact HFN.out
end
end Go.Proofs.YticcnlpfmekagaaGreat
