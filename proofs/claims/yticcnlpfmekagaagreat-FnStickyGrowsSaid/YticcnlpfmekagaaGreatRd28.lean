/- Part 28 of 51 of the proof of the row: the texts Dec4, Dec5. -/
import Derived.Test.YticcnlpfmekagaaGreatRd26
import Derived.Test.YticcnlpfmekagaaGreatRd27
namespace Go.Proofs.YticcnlpfmekagaaGreat
open Go Go.Proofs Go.RowKit
set_option linter.unusedVariables false
set_option linter.unusedSimpArgs false

/-! ## The decoder of an assignment -/

theorem rdI16 : IsMeth 215 "pub-kestrel/pub/sarama.getInt16" 338 := ⟨fun _ _ => by kernel_rfl, fun _ _ => by kernel_rfl, fun _ _ => by kernel_rfl⟩
theorem rdI32 : IsMeth 215 "pub-kestrel/pub/sarama.getInt32" 339 := ⟨fun _ _ => by kernel_rfl, fun _ _ => by kernel_rfl, fun _ _ => by kernel_rfl⟩
theorem rdArr : IsMeth 215 "pub-kestrel/pub/sarama.getArrayLength" 335 := ⟨fun _ _ => by kernel_rfl, fun _ _ => by kernel_rfl, fun _ _ => by kernel_rfl⟩
theorem rdStr : IsMeth 215 "pub-kestrel/pub/sarama.getString" 342 := ⟨fun _ _ => by kernel_rfl, fun _ _ => by kernel_rfl, fun _ _ => by kernel_rfl⟩
theorem rdInts : IsMeth 215 "pub-kestrel/pub/sarama.getInt32Array" 340 := ⟨fun _ _ => by kernel_rfl, fun _ _ => by kernel_rfl, fun _ _ => by kernel_rfl⟩
theorem rdBytes : IsMeth 215 "pub-kestrel/pub/sarama.getBytes" 336 := ⟨fun _ _ => by kernel_rfl, fun _ _ => by kernel_rfl, fun _ _ => by kernel_rfl⟩
theorem rdStrs : IsMeth 215 "pub-kestrel/pub/sarama.getStringArray" 343 := ⟨fun _ _ => by kernel_rfl, fun _ _ => by kernel_rfl, fun _ _ => by kernel_rfl⟩
theorem rdNStr : IsMeth 215 "pub-kestrel/pub/sarama.getNullableString" 341 := ⟨fun _ _ => by kernel_rfl, fun _ _ => by kernel_rfl, fun _ _ => by kernel_rfl⟩

theorem sg16_mod (x : Int) (h : isI16 x) : sg16 (x % 65536) = x := by
  unfold isI16 at h; unfold sg16
  simp [IntKind.wrap, IntKind.bits, IntKind.signed]; omega
theorem sg32_mod' (x : Int) (h : isI32 x) : sg32 (x % 4294967296) = x := sg32_mod x h

section
variable {b g off cap : Nat} {cs pre post : List Value} {w : World}
theorem at_i16 (x : Int) (hx : isI16 x) (e : cs = pre ++ be16 (x % 65536) ++ post) (h : Dec w b g off cap cs pre.length) :
    Calls Tryz.prog 338 #[.pointer (some ⟨b, 0, none⟩)] w (Gets b g off cap cs (pre ++ be16 (x % 65536)).length (.int .i16 x) w) := by
  subst e
  have := getInt16_any b g off cap _ (x % 65536) pre post w h rfl (by omega) (by omega)
  rw [sg16_mod x hx] at this
  rw [show (pre ++ be16 (x % 65536)).length = pre.length + 2 by simp [be16]]; exact this
theorem at_i32 (x : Int) (hx : isI32 x) (e : cs = pre ++ be32 (x % 4294967296) ++ post) (h : Dec w b g off cap cs pre.length) :
    Calls Tryz.prog 339 #[.pointer (some ⟨b, 0, none⟩)] w (Gets b g off cap cs (pre ++ be32 (x % 4294967296)).length (.int .i32 x) w) := by
  subst e
  have := getInt32_any b g off cap _ (x % 4294967296) pre post w h rfl (by omega) (by omega)
  rw [sg32_mod' x hx] at this
  rw [show (pre ++ be32 (x % 4294967296)).length = pre.length + 4 by simp [be32]]; exact this
theorem at_arr (n : Nat) (hn : n ≤ post.length) (hn2 : n ≤ 100000000) (e : cs = pre ++ be32 n ++ post) (h : Dec w b g off cap cs pre.length) :
    Calls Tryz.prog 335 #[.pointer (some ⟨b, 0, none⟩)] w (Gets b g off cap cs (pre ++ be32 n).length (.int .i64 n) w) := by
  subst e
  have := getArrayLength_any b g off cap _ n pre post w h rfl hn hn2
  rw [show (pre ++ be32 (n : Int)).length = pre.length + 4 by simp [be32]]; exact this
theorem at_str (s : ByteArray) (hn2 : s.size ≤ 32767) (e : cs = pre ++ encStr s ++ post) (h : Dec w b g off cap cs pre.length) :
    Calls Tryz.prog 342 #[.pointer (some ⟨b, 0, none⟩)] w (Gets b g off cap cs (pre ++ encStr s).length (.string s) w) := by
  subst e
  have := getString_any b g off cap _ s pre post w h rfl hn2
  rw [show (pre ++ encStr s).length = pre.length + 2 + s.size by rw [List.length_append, encStr_length]; omega]; exact this
theorem at_ints (xs : List Int) (hx : ∀ x ∈ xs, isI32 x) (hxl : xs.length ≤ 100000000) (hgw : g < w.heap.size) (e : cs = pre ++ encInts xs ++ post) (h : Dec w b g off cap cs pre.length) :
    Calls Tryz.prog 340 #[.pointer (some ⟨b, 0, none⟩)] w fun e w' => ∃ R, Gets b g off cap cs (pre ++ encInts xs).length (.slice (some ⟨R, 0, none⟩) xs.length xs.length) w e w' ∧ SlInts w' (.slice (some ⟨R, 0, none⟩) xs.length xs.length) xs ∧ w.heap.size ≤ R ∧ R < w'.heap.size := by
  subst e
  have := getInts_any b g off cap _ xs pre post w h rfl hx hxl hgw
  rw [show (pre ++ encInts xs).length = pre.length + 4 + 4 * xs.length by rw [List.length_append, encInts_length]; omega]; exact this

/-- a slice over these bytes, nil where there are none -/
def BytesV (w : World) (u : Value) (data : List Value) : Prop := SlAt w 1 u data.length data ∧ (∃ a c, u = .slice a data.length c ∧ (data = [] → a = none ∧ c = 0))
theorem at_bytes (data : List Value) (hl : data.length ≤ 1000000) (e : cs = pre ++ specData data ++ post) (h : Dec w b g off cap cs pre.length) :
    Calls Tryz.prog 336 #[.pointer (some ⟨b, 0, none⟩)] w fun e w' => ∃ u, Gets b g off cap cs (pre ++ specData data).length u w e w' ∧ BytesV w' u data ∧ ∀ x, u.ownBlock = some x → x = g := by
  by_cases h0 : data = []
  · subst h0
    have e' : cs = pre ++ be32 4294967295 ++ post := by rw [e]; simp [specData]
    have el : (pre ++ specData []).length = pre.length + 4 := by simp [specData, be32]
    subst e'
    rw [el]
    refine (getBytes_none b g off cap _ pre post w h rfl).mono fun e w' hg => ⟨_, hg, ⟨SlAt.nil _ _, none, 0, rfl, fun _ => ⟨rfl, rfl⟩⟩, by simp [Value.ownBlock]⟩
  · have e' : cs = pre ++ be32 data.length ++ (data ++ post) := by rw [e]; simp [specData, h0]
    have el : (pre ++ specData data).length = pre.length + 4 + data.length := by simp [specData, h0, be32]; omega
    subst e'
    rw [el]
    refine (getBytes_any b g off cap _ data.length pre data post w h rfl rfl (by omega)).mono fun e w' hg => ?_
    obtain ⟨u, h1, h2, a, c, rfl, ha⟩ := hg
    exact ⟨_, h1, ⟨h2, some a, c, rfl, fun hh => absurd hh h0⟩, fun x hx => by simp [Value.ownBlock] at hx; omega⟩
end

def encTP (x : ByteArray × List Int) : List Value := encStr x.1 ++ encInts x.2
theorem encTP_length (x : ByteArray × List Int) : (encTP x).length = 6 + x.1.size + 4 * x.2.length := by simp [encTP, encStr_length, encInts_length]; omega
theorem encTPs_ge (D : List (ByteArray × List Int)) : D.length ≤ (D.flatMap encTP).length := by
  induction D with
  | nil => simp
  | cons y D ih => rw [List.flatMap_cons, List.length_append, encTP_length, List.length_cons]; omega
structure TPOk (x : ByteArray × List Int) : Prop where
  top : x.1.size ≤ 32767
  len : x.2.length ≤ 1000000
  i32 : ∀ y ∈ x.2, isI32 y
theorem tops2_nil : tops2 [] = [] := rfl
theorem flat_split (D : List (ByteArray × List Int)) (j : Nat) (x : ByteArray × List Int) (hj : D[j]? = some x) : D.flatMap encTP = (D.take j).flatMap encTP ++ encTP x ++ (D.drop (j + 1)).flatMap encTP ∧ (D.take (j + 1)).flatMap encTP = (D.take j).flatMap encTP ++ encTP x := by
  obtain ⟨h1, h2⟩ := List.getElem?_eq_some_iff.1 hj
  constructor
  · conv => lhs; rw [← List.take_append_drop j D, List.drop_eq_getElem_cons h1, h2]
    simp
  · rw [List.take_succ_eq_append_getElem h1, h2, List.flatMap_append]; simp

/-- an assignment's bytes, by topics -/
def asgBytes (ver : Int) (D : List (ByteArray × List Int)) (data : List Value) : List Value := be16 (ver % 65536) ++ be32 D.length ++ D.flatMap encTP ++ specData data

set_option maxRecDepth 100000 in
set_option maxHeartbeats 1000000 in
theorem asg_decode (b g off cap m : Nat) (ver : Int) (D : List (ByteArray × List Int)) (data : List Value) (w : World) (hd : Dec w b g off cap (asgBytes ver D data) 0)
    (hm : w.heap[m]? = some (.cells #[.int .i16 0, .map none, .slice none 0 0] 127 (0, 0))) (hmb : m ≠ b) (hmg : m ≠ g) (hver : isI16 ver) (hnd : (D.map (·.1)).Nodup) (hD : ∀ x ∈ D, TPOk x) (hDl : D.length ≤ 1000000) (hdl : data.length ≤ 1000000) (hgw : g < w.heap.size) :
    Calls Tryz.prog 163 #[.pointer (some ⟨m, 0, none⟩), .iface 215 (.pointer (some ⟨b, 0, none⟩))] w fun e w' => e = .returned .nilIface ∧ ∃ r T u, w'.heap[m]? = some (.cells #[.int .i16 ver, .map (some r), u] 127 (0, 0)) ∧ TopsAt w' r T ∧ tops2 T = D ∧
      (∀ x ∈ T, ∀ y, x.2.1.ownBlock = some y → w.heap.size ≤ y) ∧ w.heap.size ≤ r ∧ BytesV w' u data ∧ (∀ x, u.ownBlock = some x → x = g) ∧ Dec w' b g off cap (asgBytes ver D data) (asgBytes ver D data).length ∧ Kept [b, m] w w' := by
  have hmt1 := rdI16.m
  have hnl1 := rdI16.n
  have hcf1 := rdI16.c
  have hmt2 := rdArr.m
  have hnl2 := rdArr.n
  have hcf2 := rdArr.c
  have hmt3 := rdStr.m
  have hnl3 := rdStr.n
  have hcf3 := rdStr.c
  have hmt4 := rdInts.m
  have hnl4 := rdInts.n
  have hcf4 := rdInts.c
  have hmt5 := rdBytes.m
  have hnl5 := rdBytes.n
  have hcf5 := rdBytes.c
  have hmk : ∀ w : World, (Instr.makeMap 90 (some (.int .i64 D.length))).run Tryz.prog w = .ok (.map (some w.heap.size)) (w.alloc (.map #[] 0)) := fun w => by simp [Instr.makeMap, go_sem]
  have e1 : asgBytes ver D data = [] ++ be16 (ver % 65536) ++ (be32 D.length ++ D.flatMap encTP ++ specData data) := by simp [asgBytes]
  have e2 : asgBytes ver D data = be16 (ver % 65536) ++ be32 D.length ++ (D.flatMap encTP ++ specData data) := by simp [asgBytes]
  have e5 : asgBytes ver D data = be16 (ver % 65536) ++ be32 D.length ++ D.flatMap encTP ++ specData data ++ [] := by simp [asgBytes]
  have hes : ∀ j x, D[j]? = some x → asgBytes ver D data = (be16 (ver % 65536) ++ be32 D.length ++ (D.take j).flatMap encTP) ++ encStr x.1 ++ (encInts x.2 ++ ((D.drop (j + 1)).flatMap encTP ++ specData data)) ∧
      asgBytes ver D data = (be16 (ver % 65536) ++ be32 D.length ++ (D.take j).flatMap encTP ++ encStr x.1) ++ encInts x.2 ++ ((D.drop (j + 1)).flatMap encTP ++ specData data) := fun j x hj => by
    have h1 := (flat_split D j x hj).1
    constructor
    · unfold asgBytes; rw [h1]; simp [encTP]
    · unfold asgBytes; rw [h1]; simp [encTP]
  generalize hcs : asgBytes ver D data = cs at *
  have hlen : cs.length = (be16 (ver % 65536) ++ be32 (D.length : Int) ++ D.flatMap encTP ++ specData data).length := by rw [e5, List.append_nil]
  have h1 := at_i16 ver hver e1 (w := w) (b := b) (g := g) (off := off) (cap := cap) hd
  rw [List.nil_append] at h1
  have H1 := Lib.hid h1; clear h1
  have h2 := fun (w1 : World) (h : Dec w1 b g off cap cs (be16 (ver % 65536)).length) => at_arr D.length (by rw [List.length_append]; have := encTPs_ge D; omega) (by omega) e2 h
  have H2 := Lib.hid h2; clear h2
  have h3 := fun (w1 : World) (j : Nat) (x : ByteArray × List Int) (hj : D[j]? = some x) (h : Dec w1 b g off cap cs (be16 (ver % 65536) ++ be32 (D.length : Int) ++ (D.take j).flatMap encTP).length) => at_str x.1 (hD x (List.mem_of_getElem? hj)).top (hes j x hj).1 h
  have H3 := Lib.hid h3; clear h3
  have h4 := fun (w1 : World) (j : Nat) (x : ByteArray × List Int) (hj : D[j]? = some x) (hgw : g < w1.heap.size) (h : Dec w1 b g off cap cs (be16 (ver % 65536) ++ be32 (D.length : Int) ++ (D.take j).flatMap encTP ++ encStr x.1).length) =>
    at_ints x.2 (hD x (List.mem_of_getElem? hj)).i32 (by have := (hD x (List.mem_of_getElem? hj)).len; omega) hgw (hes j x hj).2 h
  have H4 := Lib.hid h4; clear h4
  have h5 := fun (w1 : World) (h : Dec w1 b g off cap cs (be16 (ver % 65536) ++ be32 (D.length : Int) ++ D.flatMap encTP).length) => at_bytes data hdl e5 h
  have H5 := Lib.hid h5; clear h5
  have HLEN := Lib.hid hlen; clear hlen
  have HND := Lib.hid hnd; clear hnd
  clear e1 e2 e5 hes hcs hdl
  obtain ⟨hc0, hz0⟩ := cells_of hm
  have HM := Lib.hid hm; clear hm
  have hbw := hd.lt
  have hmw := lt_of_heap HM.out
  clear hd hD
  generalize hDn : D.length = n at *
  have HDN := Lib.hid hDn; clear hDn
  go_enter Tryz.func163, Tryz.ntmps163
  go_wp2_with (first
    | (go_at_call 338
       refine H1.out.mono ?_
       rintro e w1 ⟨rfl, hd1, hk1⟩
       have hm1 := hk1.heap HM.out (by simpa using hmb)
       obtain ⟨hc1, hz1⟩ := cells_of hm1
       have q0 := hc1 0 _ rfl
       have y0 := hz1 0
       have hds : Dec (w1.setCell ⟨m, 0, none⟩ (.int .i16 ver)) b g off cap cs (be16 (ver % 65536)).length := hd1.kept ((Kept.refl [m] w1).setCell (p := ⟨m, 0, none⟩) _ (by simp)) (by simpa using hmb.symm) (by simpa using hmg.symm)
       have hms : (w1.setCell ⟨m, 0, none⟩ (.int .i16 ver)).heap[m]? = some (.cells #[.int .i16 ver, .map none, .slice none 0 0] 127 (0, 0)) := by simpa using row_set hm1 0 (.int .i16 ver)
       have hks : Kept [b, m] w (w1.setCell ⟨m, 0, none⟩ (.int .i16 ver)) := (hk1.mono (by simp)).setCell _ (by simp)
       have HD1 := Lib.hid (And.intro hds (And.intro hks hms)); clear hd1 hm1 hc1 hz1 hk1 hds hms hks)
    | (go_at_call 335
       refine (H2.out _ HD1.out.1).mono ?_
       rintro e w2 ⟨rfl, hd2, hk2⟩
       have hm2 := hk2.heap HD1.out.2.2 (by simpa using hmb)
       have hkw2 : Kept [b, m] w w2 := HD1.out.2.1.trans hk2 (fun _ h => h) (by simp)
       have hm2a : (w2.alloc (.map #[] 0)).heap[m]? = some (.cells #[.int .i16 ver, .map none, .slice none 0 0] 127 (0, 0)) := ha hm2
       obtain ⟨hc2, hz2⟩ := cells_of hm2a
       have q1 := hc2 1 _ rfl
       have y1 := hz2 1
       have HD2 := Lib.hid (And.intro hd2 (And.intro hkw2 hm2)); clear hd2 hm2 hm2a hc2 hz2 hk2 hkw2)
    | fail)
  have hr2 := HD2.out.2.1.size
  have hmr : m ≠ w2.heap.size := by omega
  have hbr : b ≠ w2.heap.size := by omega
  have hgr : g ≠ w2.heap.size := by omega
  have hw3 : ∀ W : World, W = (w2.alloc (.map #[] 0)).setCell ⟨m, 1, none⟩ (.map (some w2.heap.size)) → Dec W b g off cap cs (be16 (ver % 65536) ++ be32 (n : Int)).length ∧ W.heap[m]? = some (.cells #[.int .i16 ver, .map (some w2.heap.size), .slice none 0 0] 127 (0, 0)) ∧ TopsAt W w2.heap.size [] ∧ Kept [b, m] w W ∧ w2.heap.size < W.heap.size := by
    intro W e
    subst e
    have hka : Kept [m] w2 ((w2.alloc (.map #[] 0)).setCell ⟨m, 1, none⟩ (.map (some w2.heap.size))) := ((Kept.refl _ _).alloc _).setCell _ (by simp)
    refine ⟨HD2.out.1.kept hka (by simpa using hmb.symm) (by simpa using hmg.symm), ?_, ⟨(MapAt.new w2 isStr).setCell _ _ (by simpa using hmr.symm), by simp⟩, HD2.out.2.1.trans hka (fun _ h => h) (by simp), by simp⟩
    simpa using row_set (ha HD2.out.2.2 : (w2.alloc (.map #[] 0)).heap[m]? = _) 1 (.map (some w2.heap.size))
  have HW3 := Lib.hid (hw3 _ rfl); clear hw3
  generalize w2.heap.size = r at *
  go_loopw [6] (fun i wr => ∃ (j : Nat) (T : Tops), j ≤ n ∧ i = .int .i64 j ∧ Dec wr b g off cap cs (be16 (ver % 65536) ++ be32 (n : Int) ++ (D.take j).flatMap encTP).length ∧ wr.heap[m]? = some (.cells #[.int .i16 ver, .map (some r), .slice none 0 0] 127 (0, 0)) ∧ TopsAt wr r T ∧ tops2 T = D.take j ∧
    (∀ x ∈ T, ∀ y, x.2.1.ownBlock = some y → w.heap.size ≤ y ∧ y < wr.heap.size ∧ y ≠ r) ∧ Kept [b, m] w wr ∧ r < wr.heap.size) (fun i _ => n - (intOf i).toNat)
  case atStart => exact ⟨0, [], Nat.zero_le _, rfl, by simpa using HW3.out.1, HW3.out.2.1, HW3.out.2.2.1, by simp [tops2], by simp, HW3.out.2.2.2.1, HW3.out.2.2.2.2⟩
  case round =>
    obtain ⟨j, T, hj, rfl, hd, hmr', hT, hTD, hfr, hkr, hrl⟩ := hrel
    by_cases hjn : j < n
    · obtain ⟨x, hx⟩ : ∃ x, D[j]? = some x := ⟨_, List.getElem?_eq_getElem (by have := HDN.out; omega)⟩
      have hcs := H3.out wr j x hx hd
      have HCS := Lib.hid hcs; clear hcs
      have hsl := (flat_split D j x hx).2
      have hmiss : ∀ u, (Value.string x.1, u) ∉ rawT T := by
        intro u hu
        unfold rawT at hu
        obtain ⟨y, hy, hye⟩ := List.mem_map.1 hu
        have hyt : y.1 = x.1 := by simpa using (Prod.mk.inj hye).1
        have hmem : (y.1, y.2.2) ∈ D.take j := by rw [← hTD]; exact List.mem_map_of_mem (f := fun x : ByteArray × Value × List Int => (x.1, x.2.2)) hy
        obtain ⟨hk', hx'⟩ := List.getElem?_eq_some_iff.1 hx
        have hsp : D.map (·.1) = (D.take j).map (·.1) ++ x.1 :: (D.drop (j + 1)).map (·.1) := by
          conv => lhs; rw [← List.take_append_drop j D, List.drop_eq_getElem_cons hk', hx']
          simp
        have hn := HND.out
        rw [hsp] at hn
        exact (List.nodup_append.1 hn).2.2 _ (List.mem_map.2 ⟨_, hmem, hyt⟩) _ (by simp) rfl
      have HI := Lib.hid (And.intro hx (And.intro hsl (And.intro hmiss (And.intro hT (And.intro hTD (And.intro hfr (And.intro hkr hmr'))))))); clear hx hsl hmiss hT hTD hfr hkr hmr' hd
      have hgw' : g < wr.heap.size := by omega
      go_upto_region 13 with (first
        | (go_at_call 342
           refine HCS.out.mono ?_
           rintro e w4 ⟨rfl, hd4, hk4⟩
           have hs4 := hk4.size
           have hm4 := hk4.heap HI.out.2.2.2.2.2.2.2 (by simpa using hmb)
           have hci := H4.out w4.drew j x HI.out.1 (by simp; omega) (hd4.kept (Kept.refl [] _).drew (by simp) (by simp))
           have hS : ∀ w', Kept [b, r] w4 w' → w'.cell? ⟨m, 1, none⟩ = some (.map (some r)) := fun w' kk => kk.cell ((cells_of hm4).1 1 _ rfl) (by simp; omega)
           have hT4 := HI.out.2.2.2.1.kept hk4 (by simpa using hbr.symm) (fun y hy q hq => by have := HI.out.2.2.2.2.2.1 y hy q hq; simp; omega)
           have HS := Lib.hid hS; clear hS
           have HCI := Lib.hid hci; clear hci
           have H44 := Lib.hid (And.intro hd4 (And.intro hk4 (And.intro hm4 hT4))); clear hd4 hk4 hm4 hT4)
        | fail)
      go_region_held3 (fun w' => w'.cell? ⟨m, 1, none⟩ = some (.map (some r)))
        (first | with_reducible exact HS.out _ (Kept.refl _ _).drew | with_reducible exact HS.out _ hk5' | with_reducible exact HS.out _ hk6' | fail)
        (first
          | (go_at_call 340
             refine HCI.out.mono ?_
             rintro e w5 ⟨R, ⟨rfl, hd5, hk5⟩, hsi5, hR5, hRl⟩
             have hk5' : Kept [b, r] w4 w5 := hk5.of_drew.mono (by simp)
             have hT5 := H44.out.2.2.2.kept hk5.of_drew (by simpa using hbr.symm) (fun y hy q hq => by have := HI.out.2.2.2.2.2.1 y hy q hq; simp; omega)
             have HT5 := Lib.hid (And.intro hT5 (And.intro hd5 (And.intro hk5.of_drew (And.intro hsi5 hR5)))); clear hT5 hd5 hk5 hsi5)
          | (refine up_update (fun _ _ => rfl) (keyT_str Tryz.underlying9) Tryz.underlying90 HT5.out.1.map ⟨_, rfl⟩ ?_
             intro w6 hm6 hk6 hs6
             have hk6' : Kept [b, r] w4 w6 := hk5'.trans hk6 (fun _ h => h) (by simp))
          | fail)
      have hend : Dec w6 b g off cap cs (be16 (ver % 65536) ++ be32 (n : Int) ++ (D.take (j + 1)).flatMap encTP).length ∧ w6.heap[m]? = some (.cells #[.int .i16 ver, .map (some r), .slice none 0 0] 127 (0, 0)) ∧ TopsAt w6 r (T ++ [(x.1, .slice (some ⟨R, 0, none⟩) x.2.length x.2.length, x.2)]) ∧
          tops2 (T ++ [(x.1, .slice (some ⟨R, 0, none⟩) x.2.length x.2.length, x.2)]) = D.take (j + 1) ∧ (∀ z ∈ T ++ [(x.1, .slice (some ⟨R, 0, none⟩) x.2.length x.2.length, x.2)], ∀ y, z.2.1.ownBlock = some y → w.heap.size ≤ y ∧ y < w6.heap.size ∧ y ≠ r) ∧ Kept [b, m] w w6 ∧ r < w6.heap.size := by
        obtain ⟨hx, hsl, hmiss, hT, hTD, hfr, hkr, hmr'⟩ := HI.out
        obtain ⟨hd4, hk4, hm4, hT4⟩ := H44.out
        obtain ⟨hT5, hd5, hk5, hsi5, hR5⟩ := HT5.out
        have hs5 := hk5.size
        have hsr := hkr.size
        have hk46 : Kept [b, r] wr w6 := (hk4.mono (T := [b, r]) (by simp)).trans hk6' (fun _ h => h) (fun _ h _ => h)
        refine ⟨?_, ?_, ⟨?_, ?_⟩, ?_, ?_, ?_, by omega⟩
        · have := hd5.kept hk6 (by simpa using hbr) (by simpa using hgr)
          rw [hsl]
          simpa [encTP, List.append_assoc, Nat.add_assoc] using this
        · exact hk6'.heap hm4 (by simp; omega)
        · rw [putE_miss hmiss] at hm6
          simpa [rawT] using hm6
        · intro z hz
          rcases List.mem_append.1 hz with hz | hz
          · exact (hT5.parts z hz).kept hk6 (fun y hy => by have := hfr z hz y hy; simp; omega)
          · simp only [List.mem_cons, List.not_mem_nil, or_false] at hz
            subst hz
            exact hsi5.kept hk6 (fun y hy => by simp [Value.ownBlock] at hy; simp at hR5 ⊢; omega)
        · obtain ⟨h1, h2⟩ := List.getElem?_eq_some_iff.1 hx
          rw [List.take_succ_eq_append_getElem h1, h2, ← hTD]
          simp [tops2]
        · intro z hz y hy
          rcases List.mem_append.1 hz with hz | hz
          · have := hfr z hz y hy; exact ⟨this.1, by omega, this.2.2⟩
          · simp only [List.mem_cons, List.not_mem_nil, or_false] at hz
            subst hz
            simp [Value.ownBlock] at hy
            simp at hR5
            omega
        · exact hkr.trans hk46 (fun _ h => h) (fun y hy hl => by simp at hy; rcases hy with rfl | rfl; exact List.mem_cons_self ..; exfalso; omega)
      have HEND := Lib.hid hend; clear hend
      go_wp2
      go_roundw
      case rel => exact ⟨j + 1, _, by omega, by go_num, HEND.out⟩
      case measure => simp [intOf]; omega
    · obtain rfl : j = n := by omega
      rw [List.take_of_length_le (by have := HDN.out; omega)] at hd hTD
      have h5 := H5.out wr hd
      have H5' := Lib.hid h5; clear h5
      obtain ⟨hcm, hzm⟩ := cells_of hmr'
      have HI := Lib.hid (And.intro hT (And.intro hTD (And.intro hfr (And.intro hkr hmr')))); clear hT hTD hfr hkr hmr' hd hcm hzm
      go_wp2_with (first
        | (go_at_call 336
           refine H5'.out.mono ?_
           rintro e w4 ⟨u, ⟨rfl, hd4, hk4⟩, hby, hug⟩
           obtain ⟨ua, uc, rfl, hun⟩ := hby.2
           have hm4 := hk4.heap HI.out.2.2.2.2 (by simpa using hmb)
           obtain ⟨hc4, hz4⟩ := cells_of hm4
           have q2 := hc4 2 _ rfl
           have y2 := hz4 2
           have HE := Lib.hid (And.intro hd4 (And.intro hk4 (And.intro hby (And.intro hug (And.intro hm4 hun))))); clear hd4 hk4 hby hug hm4 hc4 hz4 hun)
        | fail)
      go_ret
      obtain ⟨hd4, hk4, hby, hug, hm4, hun⟩ := HE.out
      obtain ⟨hT, hTD, hfr, hkr, hmr'⟩ := HI.out
      have hkm : Kept [m] w4 (w4.setCell ⟨m, 2, none⟩ (.slice ua data.length uc)) := (Kept.refl _ _).setCell _ (by simp)
      have hwr := hkr.size
      refine ⟨rfl, r, T, _, by simpa using row_set hm4 2 (.slice ua data.length uc), (hT.kept hk4 (by simpa using hbr.symm) (fun y hy q hq => by have := hfr y hy q hq; simp; omega)).kept hkm (by simp; omega) (fun y hy q hq => by have := hfr y hy q hq; simp; omega), hTD,
        fun z hz y hy => (hfr z hz y hy).1, by omega, ⟨hby.1.kept hkm (fun y hy => by have := hug y hy; simp; omega), _, _, rfl, hun⟩, hug, ?_, (hkr.trans hk4 (fun _ h => h) (by simp)).trans hkm (fun _ h => h) (by simp)⟩
      have := hd4.kept hkm (by simpa using hmb.symm) (by simpa using hmg.symm)
      rw [HLEN.out]
      exact this
end Go.Proofs.YticcnlpfmekagaaGreat
namespace Go.Proofs.YticcnlpfmekagaaGreat
open Go Go.Proofs Go.RowKit
set_option linter.unusedVariables false
set_option linter.unusedSimpArgs false

/-! ## decode -/

set_option maxRecDepth 100000 in
set_option maxHeartbeats 1000000 in
theorem decode_any (T : TypeId) (f : FuncId) (hmeth : IsMeth T "pub-kestrel/pub/sarama.decode" f) (m g off cap : Nat) (cs : List Value) (w : World) (Post : World → Prop) (hsl : SlAt w 1 (.slice (some ⟨g, off, none⟩) cs.length cap) cs.length cs) (hu : ∀ u ∈ cs, ∃ x, u = .int .u8 x ∧ isU8 x)
    (hgw : g < w.heap.size) (hcap : cs.length ≤ cap) (hsm : cs.length ≤ 1000000000)
    (hdec : ∀ w1, Kept [] w w1 → w.heap.size < w1.heap.size → Dec w1 w.heap.size g off cap cs 0 → Calls Tryz.prog f #[.pointer (some ⟨m, 0, none⟩), .iface 215 (.pointer (some ⟨w.heap.size, 0, none⟩))] w1 fun e w' => e = .returned .nilIface ∧ Dec w' w.heap.size g off cap cs cs.length ∧ Post w' ∧ Kept [w.heap.size, m] w1 w') :
    Calls Tryz.prog 82 #[.slice (some ⟨g, off, none⟩) cs.length cap, .iface T (.pointer (some ⟨m, 0, none⟩))] w fun e w' => e = .returned .nilIface ∧ Post w' ∧ Kept [m] w w' := by
  have hmt := hmeth.m
  have hnl := hmeth.n
  have hcf := hmeth.c
  have hnil := fun w => Lib.run_eql_slice_nil (P := Tryz.prog) w 28 5 (some ⟨g, off, none⟩) cs.length cap 0 0 Tryz.underlying28
  have hd : ∀ W : World, W = w.alloc (.cells #[.slice (some ⟨g, off, none⟩) cs.length cap, .int .i64 0, .slice none 0 0] 213) → Dec W w.heap.size g off cap cs 0 ∧ Kept [] w W ∧ w.heap.size < W.heap.size := by
    intro W e
    subst e
    refine ⟨⟨heap_alloc_new w _, fun j u hj => ca (hsl.cell hj), hu, by omega, hcap, hsm, Nat.zero_le _⟩, (Kept.refl _ _).alloc _, by simp⟩
  obtain ⟨hd1, hk1, hl1⟩ := hd _ rfl
  have hc := hdec _ hk1 hl1 hd1
  have HC := Lib.hid hc; clear hc
  have HK1 := Lib.hid hk1; clear hk1
  clear hd hd1 hdec hu hsl hl1
  generalize hN : cs.length = N at *
  have HN := Lib.hid hN; clear hN
  go_enter Tryz.func82, Tryz.ntmps82
  go_wp2_with (first
    | (refine HC.out.mono ?_
       rintro e w2 ⟨rfl, hd2, hpost, hk2⟩
       have c1 := hd2.c1
       have HP := Lib.hid hpost; clear hpost
       clear hd2)
    | fail)
  go_ret
  exact ⟨rfl, HP.out, HK1.out.trans hk2 (by simp) (by simp <;> omega)⟩


def U8L (l : List Value) : Prop := ∀ u ∈ l, ∃ x, u = Value.int .u8 x ∧ isU8 x
theorem U8L.app {a b : List Value} (ha : U8L a) (hb : U8L b) : U8L (a ++ b) := fun u hu => by
  rcases List.mem_append.1 hu with h | h
  · exact ha u h
  · exact hb u h
theorem U8L.flat {α : Type} {f : α → List Value} {L : List α} (h : ∀ x ∈ L, U8L (f x)) : U8L (L.flatMap f) := fun u hu => by
  obtain ⟨x, hx, hu⟩ := List.mem_flatMap.1 hu
  exact h x hx u hu
theorem be16_u8 (x : Int) (h0 : 0 ≤ x) (h1 : x < 65536) : U8L (be16 x) := by
  intro u hu
  simp [be16] at hu
  rcases hu with rfl | rfl <;> exact ⟨_, rfl, by unfold isU8; omega⟩
theorem be32_u8 (x : Int) (h0 : 0 ≤ x) (h1 : x < 4294967296) : U8L (be32 x) := by
  intro u hu
  simp [be32] at hu
  rcases hu with rfl | rfl | rfl | rfl <;> exact ⟨_, rfl, by unfold isU8; omega⟩
theorem byteCells_u8 (s : ByteArray) : U8L (byteCells s) := by
  intro u hu
  unfold byteCells at hu
  obtain ⟨b, _, rfl⟩ := List.mem_map.1 hu
  exact ⟨_, rfl, by unfold isU8; have := b.toNat_lt; omega⟩
theorem encStr_u8 (s : ByteArray) (h : s.size ≤ 32767) : U8L (encStr s) := (be16_u8 _ (by omega) (by omega)).app (byteCells_u8 s)
theorem encInts_u8 (xs : List Int) (h : xs.length ≤ 1000000) : U8L (encInts xs) := (be32_u8 _ (by omega) (by omega)).app (U8L.flat fun x _ => be32_u8 _ (by omega) (by omega))
theorem specData_u8 (data : List Value) (hl : data.length ≤ 1000000) (hu : U8L data) : U8L (specData data) := by
  unfold specData
  split
  · exact be32_u8 _ (by omega) (by omega)
  · exact (be32_u8 _ (by omega) (by omega)).app hu
theorem asgBytes_u8 (ver : Int) (D : List (ByteArray × List Int)) (data : List Value) (hver : isI16 ver) (hD : ∀ x ∈ D, TPOk x) (hDl : D.length ≤ 1000000) (hdl : data.length ≤ 1000000) (hu : U8L data) : U8L (asgBytes ver D data) :=
  (((be16_u8 _ (by omega) (by omega)).app (be32_u8 _ (by omega) (by omega))).app (U8L.flat fun x hx => (encStr_u8 _ (hD x hx).top).app (encInts_u8 _ (hD x hx).len))).app (specData_u8 _ hdl hu)

/-- an assignment as it has been read, at block m -/
def AsgAt (w : World) (lo m g : Nat) (ver : Int) (D : List (ByteArray × List Int)) (data : List Value) : Prop :=
  ∃ r T u, w.heap[m]? = some (.cells #[.int .i16 ver, .map (some r), u] 127 (0, 0)) ∧ TopsAt w r T ∧ tops2 T = D ∧ (∀ x ∈ T, ∀ y, x.2.1.ownBlock = some y → lo ≤ y) ∧ lo ≤ r ∧ BytesV w u data ∧ (∀ x, u.ownBlock = some x → x = g)

theorem asgMeth : IsMeth 123 "pub-kestrel/pub/sarama.decode" 163 := ⟨fun _ _ => by kernel_rfl, fun _ _ => by kernel_rfl, fun _ _ => by kernel_rfl⟩

set_option maxRecDepth 100000 in
set_option maxHeartbeats 1000000 in
theorem getAsg_any (p g off cap : Nat) (ver : Int) (D : List (ByteArray × List Int)) (data : List Value) (w : World) (hp : w.cell? ⟨p, 6, none⟩ = some (.slice (some ⟨g, off, none⟩) (asgBytes ver D data).length cap))
    (hsl : SlAt w 1 (.slice (some ⟨g, off, none⟩) (asgBytes ver D data).length cap) (asgBytes ver D data).length (asgBytes ver D data)) (hgw : g < w.heap.size) (hcap : (asgBytes ver D data).length ≤ cap) (hsm : (asgBytes ver D data).length ≤ 1000000000)
    (hver : isI16 ver) (hnd : (D.map (·.1)).Nodup) (hD : ∀ x ∈ D, TPOk x) (hDl : D.length ≤ 1000000) (hdl : data.length ≤ 1000000) (hu : U8L data) :
    Calls Tryz.prog 64 #[.pointer (some ⟨p, 0, none⟩)] w fun e w' => e = .returned (.tuple #[.pointer (some ⟨w.heap.size, 0, none⟩), .nilIface]) ∧ AsgAt w' w.heap.size w.heap.size g ver D data ∧ Kept [] w w' := by
  have hu8 := asgBytes_u8 ver D data hver hD hDl hdl hu
  have hne : ¬ (((asgBytes ver D data).length : Int) = 0) := by simp [asgBytes, be16]; omega
  have hk0 : Kept [] w (w.alloc (.cells #[.int .i16 0, .map none, .slice none 0 0] 127)) := (Kept.refl _ _).alloc _
  have hcp := hk0.cell hp (by simp)
  have hm0 : (w.alloc (.cells #[.int .i16 0, .map none, .slice none 0 0] 127)).heap[w.heap.size]? = some (.cells #[.int .i16 0, .map none, .slice none 0 0] 127 (0, 0)) := heap_alloc_new w _
  have hdc := decode_any 123 163 asgMeth w.heap.size g off cap (asgBytes ver D data) (w.alloc (.cells #[.int .i16 0, .map none, .slice none 0 0] 127)) (fun w' => AsgAt w' w.heap.size w.heap.size g ver D data) (hsl.kept hk0 (by simp)) hu8 (by simp; omega) hcap hsm (by
    intro w1 hk1 hl1 hd1
    have hm1 := hk1.heap hm0 (by simp)
    have hs1 := hk1.size
    simp only [World.size_alloc] at hs1 hl1
    refine (asg_decode _ g off cap w.heap.size ver D data w1 hd1 hm1 (by simp) (by omega) hver hnd hD hDl hdl (by omega)).mono ?_
    rintro e w' ⟨rfl, r, T, u, h1, h2, h3, h4, h5, h6, h7, h8, h9⟩
    exact ⟨rfl, h8, ⟨r, T, u, h1, h2, h3, fun x hx y hy => by have := h4 x hx y hy; omega, by omega, h6, h7⟩, h9⟩)
  have HD := Lib.hid hdc; clear hdc
  clear hm0 hu8 hsl
  generalize (asgBytes ver D data).length = N at *
  go_enter Tryz.func64, Tryz.ntmps64
  go_wp2_with (first
    | (go_at_call 82
       refine HD.out.mono ?_
       rintro e w2 ⟨rfl, hpost, hk2⟩
       have HP := Lib.hid (And.intro hpost hk2); clear hpost hk2)
    | fail)
  go_ret2
  exact ⟨rfl, HP.out.1, hk0.trans HP.out.2 (by simp) (by simp)⟩

set_option maxRecDepth 100000 in
set_option maxHeartbeats 400000 in
theorem copied_any (a : Option Addr) (c : Nat) (cs : List Value) (w : World) (hs : SlAt w 1 (.slice a cs.length c) cs.length cs) (hn : 1 ≤ cs.length) (hl : cs.length ≤ 100000000) :
    Calls Tryz.prog 58 #[.slice a cs.length c] w fun e w' => ∃ g c', e = .returned (.slice (some ⟨g, 0, none⟩) cs.length c') ∧ cs.length ≤ c' ∧ SlAt w' 1 (.slice (some ⟨g, 0, none⟩) cs.length c') cs.length cs ∧ w.heap.size ≤ g ∧ g < w'.heap.size ∧ Kept [] w w' := by
  have hsrc := (hs.alloc (.cells #[] 5)).src Tryz.underlying28
  have hone := hs.2.1
  have HS := Lib.hid hsrc; clear hsrc hs
  have HO := Lib.hid hone; clear hone
  generalize hN : cs.length = n at *
  have HN := Lib.hid hN; clear hN
  go_enter Tryz.func58, Tryz.ntmps58
  go_wp2_with (refine wl_app (v := .slice (some ⟨w.heap.size, 0, none⟩) 0 0) rfl rfl elU8 rfl rfl (own_new 5 1) HS.out (by omega) (by omega) ?_; intro v' w1 hown hk hd)
  go_ret
  have hk' : Kept [] w w1 := ((Kept.refl [] w).alloc _).trans hk (by simp) (by simp [Value.ownBlock])
  rw [List.nil_append, Nat.zero_add] at hown
  have hsl := own_sl hown HO.out
  rcases hown.2 with ⟨e1, e2⟩ | ⟨g, cap, cur, rfl, _, hg, hn1, _⟩
  · omega
  · refine ⟨g, cap, rfl, hn1, hsl, ?_, lt_of_heap hg, hk'⟩
    rcases hd with ⟨h1, h2⟩ | ⟨h1, h2⟩
    · simp [Value.ownBlock] at h1; omega
    · simp [Value.ownBlock] at h1; omega
end Go.Proofs.YticcnlpfmekagaaGreat
