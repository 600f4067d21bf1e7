import Derived.Test.YticcnlpfmekagaaGreatSink2
import Derived.Test.YticcnlpfmekagaaGreatMeta2
import Derived.Test.YticcnlpfmekagaaGreatMSpec
namespace Go.Proofs.YticcnlpfmekagaaGreat
open Go Go.Proofs Go.RowKit
set_option linter.unusedVariables false
set_option linter.unusedSimpArgs false

/-! ## a subscription's encode -/

def encOw (x : OwT) : List Value := encStr x.1 ++ encInts x.2.2.2
theorem encOw_length (x : OwT) : (encOw x).length = 6 + x.1.size + 4 * x.2.2.2.length := by simp [encOw, encStr_length, encInts_length]; omega

set_option maxRecDepth 100000 in
set_option maxHeartbeats 2000000 in
theorem own_encode (s : Sink2) (x : OwT) (w : World) (d : List Value) (hs : s.St d w) (hx : OwAt w x) (hroom : d.length + (encOw x).length ≤ s.max) (hsz : x.1.size ≤ 32767) (hxo : x.2.1 ∉ s.own) (hpo : ∀ g, x.2.2.1.ownBlock = some g → g ∉ s.own) :
    Calls Tryz.prog 158 #[.pointer (some ⟨x.2.1, 0, none⟩), .iface s.T (.pointer (some ⟨s.b, 0, none⟩))] w fun e w' => e = .returned .nilIface ∧ s.St (d ++ encOw x) w' ∧ Kept s.own w w' := by
  obtain ⟨top, m, pv, parts⟩ := x
  obtain ⟨hm, hp⟩ := hx
  simp only [encOw] at *
  obtain ⟨⟨pa, pc, rfl⟩, hp2⟩ := hp
  have hS : ∀ w', Kept s.own w w' → w'.cell? ⟨m, 0, none⟩ = some (.string top) ∧ w'.cell? ⟨m, 0 + 1, none⟩ = some (.slice pa parts.length pc) := fun w' k => by
    have h := k.heap hm hxo
    exact ⟨(cells_of h).1 0 _ rfl, (cells_of h).1 1 _ rfl⟩
  have c0 := (hS w (Kept.refl _ _)).1
  rw [List.length_append, encStr_length, encInts_length] at hroom
  have h1 := s.cStr top (s.drew hs) (by rw [encStr_length]; omega) hsz
  have h2 := fun w' (k : Kept s.own w w') (hst : s.St (d ++ encStr top) w') => s.cInts pa pc parts (s.drew hst) (by rw [List.length_append, encStr_length, encInts_length]; omega) (hp2.1.kept k.drew hpo) hp2.2 hpo
  have HS := Lib.hid hS; clear hS
  have H1 := Lib.hid h1; clear h1
  have H2 := Lib.hid h2; clear h2
  clear hm hp2 hpo hroom hsz hs
  generalize parts.length = pn at *
  have m1 := s.mStr.m
  have m2 := s.mStr.n
  have m3 := s.mStr.c
  have n1 := s.mInts.m
  have n2 := s.mInts.n
  have n3 := s.mInts.c
  go_enter Tryz.func158, Tryz.ntmps158
  go_wp2
  go_region_held3 (fun w' => w'.cell? ⟨m, 0, none⟩ = some (.string top)) (first | exact (HS.out _ hk1.of_drew).1 | exact c0 | fail)
    (first | (refine H1.out.mono ?_; rintro e w1 ⟨rfl, hs1, hk1⟩) | fail)
  have c1 := (HS.out _ hk1.of_drew).2
  have h2' := H2.out _ hk1.of_drew hs1
  have H2' := Lib.hid h2'; clear h2' H2
  go_wp2
  go_region_held3 (fun w' => w'.cell? ⟨m, 0 + 1, none⟩ = some (.slice pa pn pc)) (first | exact (HS.out _ (hk1.of_drew.trans hk2.of_drew (fun _ h => h) (fun _ h _ => h))).2 | exact c1 | fail)
    (first | (refine H2'.out.mono ?_; rintro e w2 ⟨rfl, hs2, hk2⟩) | fail)
  go_wp2
  go_ret
  exact ⟨rfl, by simpa [List.append_assoc] using hs2, hk1.of_drew.trans hk2.of_drew (fun _ h => h) (fun _ h _ => h)⟩

/-- what metadata's encode reads -/
structure EncIn (w : World) (m : Nat) (mm : Mem) (tv dv ov rk : Value) (OL : List OwT) : Prop where
  at_ : w.heap[m]? = some (.cells #[.int .i16 mm.ver, tv, dv, ov, .int .i32 mm.gen, rk] 78 (0, 0))
  tops : SlStrs w tv mm.tops
  data : DataAt w dv mm.data
  ow : ow2 OL = mm.owned.map owOf
  each : ∀ x ∈ OL, OwAt w x
  row : w.ownsRow 0 119 1 ov OL.length (ptrsO OL)
  rack : PStr w rk (if mm.has then some mm.rack else none)
def encFoot (m : Nat) (tv dv ov rk : Value) (OL : List OwT) : List Nat := m :: (tv.ownBlock.toList ++ dv.ownBlock.toList ++ footO OL ++ ov.ownBlock.toList ++ (match rk with | .pointer (some a) => [a.block] | _ => []))
theorem EncIn.kept {w w' : World} {m : Nat} {mm : Mem} {tv dv ov rk : Value} {OL : List OwT} {S : List Nat} (h : EncIn w m mm tv dv ov rk OL) (k : Kept S w w') (hs : ∀ g ∈ encFoot m tv dv ov rk OL, g ∉ S) : EncIn w' m mm tv dv ov rk OL := by
  refine ⟨k.heap h.at_ (hs _ (by simp [encFoot])), h.tops.kept k (fun g hg => hs g (by simp [encFoot, hg])), h.data.kept k (fun g hg => hs g (by simp [encFoot, hg])), h.ow, fun x hx => ⟨k.heap (h.each x hx).1 (hs _ ?_), (h.each x hx).2.kept k (fun g hg => hs g ?_)⟩, own_kept h.row k (fun g hg => hs g (by simp [encFoot, hg])), ?_⟩
  · have : x.2.1 ∈ footO OL := List.mem_flatMap.2 ⟨x, hx, by simp⟩
    simp [encFoot, this]
  · have : g ∈ footO OL := List.mem_flatMap.2 ⟨x, hx, by simp [hg]⟩
    simp [encFoot, this]
  · rcases h.rack with h1 | ⟨g, off, st, e1, e2, e3⟩
    · exact .inl h1
    · exact .inr ⟨g, off, st, e1, e2, k.cell e3 (by subst e1; exact hs g (by simp [encFoot]))⟩

theorem encData_spec {w : World} {v : Value} {data : List Value} (h : DataAt w v data) : ∃ a c, v = .slice a data.length c ∧ encData a data = specData data ∧ SlAt w 1 v data.length data := by
  obtain ⟨a, c, e, h1, h2⟩ := h
  refine ⟨a, c, e, ?_, h1⟩
  unfold encData specData
  cases a with
  | none => rw [h2.2 rfl]; simp
  | some p =>
    have : data ≠ [] := fun e => by have := h2.1 e; cases this
    simp [this]
theorem encOws_eq {OL : List OwT} {L : List Shr} (h : ow2 OL = L.map owOf) : OL.flatMap encOw = L.flatMap shrBytes ∧ OL.length = L.length := by
  have hl : OL.length = L.length := by simpa [ow2] using congrArg List.length h
  refine ⟨?_, hl⟩
  have e1 : OL.flatMap encOw = (ow2 OL).flatMap (fun p => encStr p.1 ++ encInts p.2) := by simp [ow2, List.flatMap_map]; rfl
  have e2 : L.flatMap shrBytes = (L.map owOf).flatMap (fun p => encStr p.1 ++ encInts p.2) := by simp [owOf, List.flatMap_map]; rfl
  rw [e1, e2, h]
theorem encNStr_eq (ver : Int) (has : Bool) (rack : ByteArray) (h : 3 ≤ ver) : encNStr (if has then some rack else none) = rackB ver has rack := by
  unfold rackB
  rw [if_pos h]
  cases has <;> simp [encNStr, be16]

set_option maxRecDepth 100000 in
set_option maxHeartbeats 8000000 in
theorem mem_encode (s : Sink2) (m : Nat) (mm : Mem) (tv dv ov rk : Value) (OL : List OwT) (w : World) (hs : s.St [] w) (hin : EncIn w m mm tv dv ov rk OL) (hf : MemFit mm) (hgen : isI32 mm.gen)
    (hroom : (memBytes mm).length ≤ s.max) (hno : ∀ g ∈ encFoot m tv dv ov rk OL, g ∉ s.own) :
    Calls Tryz.prog 155 #[.pointer (some ⟨m, 0, none⟩), .iface s.T (.pointer (some ⟨s.b, 0, none⟩))] w fun e w' => e = .returned .nilIface ∧ s.St (memBytes mm) w' ∧ Kept s.own w w' := by
  have hK : ∀ w', Kept s.own w w' → EncIn w' m mm tv dv ov rk OL := fun w' k => hin.kept k hno
  obtain ⟨⟨ta, tc, rfl⟩, _⟩ := hin.tops
  obtain ⟨da, dc, rfl, hde, _⟩ := encData_spec hin.data
  obtain ⟨oa, on, oc, rfl⟩ := own_form hin.row
  obtain rfl := own_len hin.row
  obtain ⟨hoe, hol⟩ := encOws_eq hin.ow
  obtain ⟨ra, rfl⟩ : ∃ ra, rk = .pointer ra := by
    rcases hin.rack with ⟨h1, _⟩ | ⟨g, off, st, e1, _⟩
    · exact ⟨_, h1⟩
    · exact ⟨_, e1⟩
  obtain ⟨id, ver, tv, tops, dv, data, ov, owned, gen, rack, has⟩ := mm
  obtain ⟨⟨hv0, hv3⟩, ⟨ht1, ht2⟩, hd1, ⟨hr1, hr2⟩, hof⟩ := hf
  simp only [memBytes] at *
  have hS : ∀ w', Kept s.own w w' → w'.cell? ⟨m, 0, none⟩ = some (.int .i16 ver) ∧ w'.cell? ⟨m, 0 + 1, none⟩ = some (.slice ta tops.length tc) ∧ w'.cell? ⟨m, 0 + 2, none⟩ = some (.slice da data.length dc) ∧ w'.cell? ⟨m, 0 + 3, none⟩ = some (.slice oa OL.length oc) ∧
      w'.cell? ⟨m, 0 + 4, none⟩ = some (.int .i32 gen) ∧ w'.cell? ⟨m, 0 + 5, none⟩ = some (.pointer ra) := fun w' k => by
    obtain ⟨h1, _⟩ := cells_of (hK w' k).at_
    exact ⟨h1 0 _ rfl, h1 1 _ rfl, h1 2 _ rfl, h1 3 _ rfl, h1 4 _ rfl, h1 5 _ rfl⟩
  have c0 := (hS w (Kept.refl _ _)).1
  have hno1 : ∀ g, (Value.slice ta tops.length tc).ownBlock = some g → g ∉ s.own := fun g hg => hno g (by simp [encFoot, hg])
  have hno2 : ∀ g, (Value.slice da data.length dc).ownBlock = some g → g ∉ s.own := fun g hg => hno g (by simp [encFoot, hg])
  have hts : (tops.flatMap encStr).length ≤ 520 := by have := encStrs_le tops tops.length ht2; rw [List.take_length] at this; omega
  have hstr : encStrs tops = be32 tops.length ++ tops.flatMap encStr := rfl
  simp only [List.length_append] at hroom
  have h1 := s.cI16 ver (s.drew hs) (by simp [be16] at hroom ⊢; omega) (by omega) (by omega)
  have h2 := fun w' (k : Kept s.own w w') (hst : s.St ([] ++ be16 (ver % 65536)) w') => s.cStrs ta tc tops (s.drew hst) (by rw [hstr]; simp only [List.length_append, List.nil_append] at hroom ⊢; omega) ((hK _ k.drew).tops) (fun x hx => by have := ht2 x hx; omega) hno1
  have h3 := fun w' (k : Kept s.own w w') (hst : s.St ([] ++ be16 (ver % 65536) ++ encStrs tops) w') => s.cBytes da dc data (s.drew hst) (by rw [hstr, hde]; simp only [List.length_append, List.nil_append] at hroom ⊢; omega) (encData_spec ((hK _ k.drew).data)).choose_spec.choose_spec.2.2 hno2
  have HS := Lib.hid hS; clear hS
  have H1 := Lib.hid h1; clear h1
  have H2 := Lib.hid h2; clear h2
  have H3 := Lib.hid h3; clear h3
  have HK := Lib.hid hK; clear hK
  have HNO := Lib.hid hno; clear hno hno1 hno2
  have HX := Lib.hid (And.intro hde (And.intro hoe hstr)); clear hde hoe hstr
  have HOF := Lib.hid (And.intro hof hol); clear hof hol
  have hgg := hgen
  have HGEN := Lib.hid hgg; clear hgg
  clear hin hr2 ht2 hgen hs
  generalize htn : tops.length = tn at *
  generalize hdn : data.length = dn at *
  generalize hon : OL.length = on at *
  have HTN := Lib.hid (And.intro htn (And.intro hdn hon)); clear htn hdn hon
  have m1 := s.mI16.m
  have m2 := s.mI16.n
  have m3 := s.mI16.c
  have n1 := s.mStrs.m
  have n2 := s.mStrs.n
  have n3 := s.mStrs.c
  have p1 := s.mBytes.m
  have p2 := s.mBytes.n
  have p3 := s.mBytes.c
  go_enter Tryz.func155, Tryz.ntmps155
  go_wp2
  go_region_held3 (fun w' => w'.cell? ⟨m, 0, none⟩ = some (.int .i16 ver)) (first | exact (HS.out _ hk1.of_drew).1 | exact c0 | fail)
    (first | (refine H1.out.mono ?_; rintro e w1 ⟨rfl, hs1, hk1⟩) | fail)
  have c1 := (HS.out _ hk1.of_drew).2.1
  have h2' := H2.out _ hk1.of_drew hs1
  have H2' := Lib.hid h2'; clear h2' H2
  go_wp2
  go_region_held3 (fun w' => w'.cell? ⟨m, 0 + 1, none⟩ = some (.slice ta tn tc)) (first | exact (HS.out _ (hk1.of_drew.trans hk2.of_drew (fun _ h => h) (fun _ h _ => h))).2.1 | exact c1 | fail)
    (first | (refine H2'.out.mono ?_; rintro e w2 ⟨rfl, hs2, hk2⟩) | fail)
  have hk12 : Kept s.own w w2 := hk1.of_drew.trans hk2.of_drew (fun _ h => h) (fun _ h _ => h)
  have c2 := (HS.out _ hk12).2.2.1
  have h3' := H3.out _ hk12 hs2
  have H3' := Lib.hid h3'; clear h3' H3
  go_wp2
  go_region_held3 (fun w' => w'.cell? ⟨m, 0 + 2, none⟩ = some (.slice da dn dc)) (first | exact (HS.out _ (hk12.trans hk3.of_drew (fun _ h => h) (fun _ h _ => h))).2.2.1 | exact c2 | fail)
    (first | (refine H3'.out.mono ?_; rintro e w3 ⟨rfl, hs3, hk3⟩) | fail)
  have hk13 : Kept s.own w w3 := hk12.trans hk3.of_drew (fun _ h => h) (fun _ h _ => h)
  obtain ⟨d0, d1, d2, d3, d4, d5⟩ := HS.out _ hk13
  clear m1 m2 m3 n1 n2 n3 p1 p2 p3 c0 c1 c2
  go_upto_if 49 with fail
  go_cut [] (fun wx => s.St ([] ++ be16 (ver % 65536) ++ encStrs tops ++ encData da data ++ ownB ver owned) wx ∧ Kept s.own w wx)
  case first =>
    by_cases hv1 : 1 ≤ ver
    · have hon10 : on ≤ 10 := by have := HOF.out.2; have := HOF.out.1.2; omega
      have hob : ownB ver owned = be32 on ++ OL.flatMap encOw := by unfold ownB; rw [if_pos hv1, HX.out.2.1, HOF.out.2]
      have hl0 : ([] ++ be16 (ver % 65536) ++ encStrs tops ++ encData da data).length + (be32 (on : Int) ++ OL.flatMap encOw).length ≤ s.max := by
        rw [hob] at hroom
        rw [HX.out.1, HX.out.2.2]
        simp only [List.length_append, List.nil_append] at hroom ⊢
        omega
      have h4 := s.cArr on (s.drew hs3) (by simp only [List.length_append] at hl0 ⊢; have : (be32 (on : Int)).length = 4 := rfl; omega) (by omega)
      have H4 := Lib.hid h4; clear h4
      have HOB := Lib.hid hob; clear hob
      have HL0 := Lib.hid hl0; clear hl0 hroom
      have q1 := s.mArr.m
      have q2 := s.mArr.n
      have q3 := s.mArr.c
      go_wp2
      go_region_held3 (fun w' => w'.cell? ⟨m, 0 + 3, none⟩ = some (.slice oa on oc)) (first | exact (HS.out _ (hk13.trans hk4.of_drew (fun _ h => h) (fun _ h _ => h))).2.2.2.1 | exact d3 | fail)
        (first | (refine H4.out.mono ?_; rintro e w4 ⟨rfl, hs4, hk4⟩) | fail)
      have hk14 : Kept s.own w w4 := hk13.trans hk4.of_drew (fun _ h => h) (fun _ h _ => h)
      obtain ⟨e0, e1, e2, e3, e4, e5⟩ := HS.out _ hk14
      clear q1 q2 q3
      generalize hbs : [] ++ be16 (ver % 65536) ++ encStrs tops ++ encData da data = bs at *
      have HBS := Lib.hid hbs; clear hbs
      go_wp2
      go_loopw [68] (fun i wr => ∃ k : Nat, i = .int .i64 k ∧ k ≤ on ∧ s.St (bs ++ be32 on ++ (OL.take k).flatMap encOw) wr ∧ Kept s.own w wr) (fun i _ => on - (intOf i).toNat)
      case atStart => exact ⟨0, rfl, Nat.zero_le _, by simpa using hs4, hk14⟩
      case round =>
        obtain ⟨k, rfl, hk, hst, hkw⟩ := hrel
        by_cases hlt : k < on
        · obtain ⟨x, hkx⟩ : ∃ x, OL[k]? = some x := ⟨_, List.getElem?_eq_getElem (by have := HTN.out.2.2; omega)⟩
          have hinw := HK.out wr hkw
          have hxm := List.mem_of_getElem? hkx
          have hxx := hinw.each x hxm
          have hsl := own_sl hinw.row (fun u hu => by obtain ⟨y, _, rfl⟩ := List.mem_map.1 hu; rfl)
          rw [HTN.out.2.2] at hsl
          obtain ⟨_, hcase⟩ := hsl.cases
          rcases hcase with ⟨_, h0, _⟩ | ⟨g, off, hva, hcell⟩
          · omega
          cases hva
          have cx := hcell k (.pointer (some ⟨x.2.1, 0, none⟩)) (by simp [ptrsO, hkx])
          obtain ⟨hk', hx'⟩ := List.getElem?_eq_some_iff.1 hkx
          have hsplit : OL.flatMap encOw = (OL.take k).flatMap encOw ++ encOw x ++ (OL.drop (k + 1)).flatMap encOw := by
            conv => lhs; rw [← List.take_append_drop k OL, List.drop_eq_getElem_cons hk', hx']
            simp
          have hrm : (bs ++ be32 (on : Int) ++ (OL.take k).flatMap encOw).length + (encOw x).length ≤ s.max := by
            have := HL0.out
            rw [hsplit] at this
            simp only [List.length_append] at this ⊢
            omega
          have hfx : x.1.size ≤ 50 := by
            have h1 : (x.1, x.2.2.2) ∈ owned.map owOf := by rw [← hinw.ow]; exact List.mem_map.2 ⟨x, hxm, rfl⟩
            obtain ⟨z, hz, ez⟩ := List.mem_map.1 h1
            have := (HOF.out.1.1 z hz).2.1
            have e : z.top = x.1 := congrArg Prod.fst ez
            rw [← e]; exact this
          have hfo : x.2.1 ∈ footO OL := List.mem_flatMap.2 ⟨x, hxm, by simp⟩
          have henc := own_encode s x wr _ hst hxx hrm (by omega) (HNO.out _ (by simp [encFoot, hfo])) (fun g hg => HNO.out g (by
            have : g ∈ footO OL := List.mem_flatMap.2 ⟨x, hxm, by simp [hg]⟩
            simp [encFoot, this]))
          have HE := Lib.hid henc; clear henc
          have HXK := Lib.hid hkx
          clear hsplit hrm hfx hfo hkx hxm hxx hsl hcell hinw hk' hx'
          go_wp2_with (first
            | (go_at_call 158
               refine HE.out.mono ?_
               rintro e w5 ⟨rfl, hs5, hk5⟩
               have HS5 := Lib.hid (And.intro hs5 hk5); clear hs5 hk5)
            | fail)
          go_roundw
          case rel =>
            refine ⟨k + 1, by go_num, by omega, ?_, hkw.trans HS5.out.2 (fun _ h => h) (fun _ h _ => h)⟩
            obtain ⟨hk', hx'⟩ := List.getElem?_eq_some_iff.1 HXK.out
            rw [List.take_succ_eq_append_getElem hk', hx', List.flatMap_append]
            simpa [List.append_assoc] using HS5.out.1
          case measure => simp [intOf]; omega
        · have hall : OL.take k = OL := List.take_of_length_le (by have := HTN.out.2.2; omega)
          rw [hall] at hst
          have HE := Lib.hid (And.intro hst hkw); clear hst hkw hall
          go_wp2_with fail
          go_meet
          rw [HOB.out]
          exact ⟨by simpa [List.append_assoc] using HE.out.1, HE.out.2⟩
    · have hob : ownB ver owned = [] := by unfold ownB; rw [if_neg hv1]
      have HE := Lib.hid (And.intro hs3 (And.intro hk13 hob)); clear hs3 hk13 hob
      go_wp2_with fail
      go_meet
      rw [HE.out.2.2, List.append_nil]
      exact ⟨HE.out.1, HE.out.2.1⟩
  case rest =>
    obtain ⟨hsc, hkc⟩ := hcut
    obtain ⟨e0, e1, e2, e3, e4, e5⟩ := HS.out _ hkc
    clear d0 d1 d2 d3 d4 d5 hk13 hs3 hk3 hk12 hk1 hk2
    rcases (by omega : ver < 2 ∨ ver = 2 ∨ ver = 3) with hv | rfl | rfl
    · have e6 : genB ver gen = [] := by unfold genB; rw [if_neg (by omega)]
      have e7 : rackB ver has rack = [] := by unfold rackB; rw [if_neg (by omega)]
      have HE := Lib.hid (And.intro hsc (And.intro hkc (And.intro e6 e7))); clear hsc hkc e6 e7
      go_wp2_with fail
      go_ret
      obtain ⟨hsc, hkc, e6, e7⟩ := HE.out
      refine ⟨rfl, ?_, hkc⟩
      rw [e6, e7, List.append_nil, List.append_nil, ← HX.out.1]
      rw [HX.out.2.2] at hsc
      simpa [List.append_assoc] using hsc
    · have e6 : genB 2 gen = be32 (gen % 4294967296) := rfl
      have hl5 : ([] ++ be16 (2 % 65536) ++ encStrs tops ++ encData da data ++ ownB 2 owned).length + 4 ≤ s.max := by
        rw [e6] at hroom
        rw [HX.out.1, HX.out.2.2]
        have : (be32 (gen % 4294967296)).length = 4 := rfl
        simp only [List.length_append, List.nil_append] at hroom ⊢
        omega
      have h5 := s.cI32 gen (s.drew hsc) hl5 HGEN.out
      have H5 := Lib.hid h5; clear h5 hl5
      have HE6 := Lib.hid e6; clear e6 hroom hsc
      have q1 := s.mI32.m
      have q2 := s.mI32.n
      have q3 := s.mI32.c
      go_wp2
      go_region_held3 (fun w' => w'.cell? ⟨m, 0 + 4, none⟩ = some (.int .i32 gen)) (first | exact (HS.out _ (hkc.trans hk5.of_drew (fun _ h => h) (fun _ h _ => h))).2.2.2.2.1 | exact e4 | fail)
        (first | (refine H5.out.mono ?_; rintro e w5 ⟨rfl, hs5, hk5⟩) | fail)
      have hk05 : Kept s.own w w5 := hkc.trans hk5.of_drew (fun _ h => h) (fun _ h _ => h)
      obtain ⟨f0, f1, f2, f3, f4, f5⟩ := HS.out _ hk05
      have e7 : rackB 2 has rack = [] := rfl
      have HE := Lib.hid (And.intro hs5 e7); clear hs5 e7
      go_wp2
      go_ret
      refine ⟨rfl, ?_, hk05⟩
      have := HE.out.1
      rw [HX.out.1, HX.out.2.2] at this
      rw [HE6.out, HE.out.2, List.append_nil]
      simpa [List.append_assoc] using this
    · have e6 : genB 3 gen = be32 (gen % 4294967296) := rfl
      have hl5 : ([] ++ be16 (3 % 65536) ++ encStrs tops ++ encData da data ++ ownB 3 owned).length + 4 ≤ s.max := by
        rw [e6] at hroom
        rw [HX.out.1, HX.out.2.2]
        have : (be32 (gen % 4294967296)).length = 4 := rfl
        simp only [List.length_append, List.nil_append] at hroom ⊢
        omega
      have h5 := s.cI32 gen (s.drew hsc) hl5 HGEN.out
      have H5 := Lib.hid h5; clear h5 hl5
      have hl6 : ([] ++ be16 (3 % 65536) ++ encStrs tops ++ encData da data ++ ownB 3 owned ++ be32 (gen % 4294967296)).length + (encNStr (if has then some rack else none)).length ≤ s.max := by
        rw [e6] at hroom
        rw [HX.out.1, HX.out.2.2, encNStr_eq 3 has rack (by omega)]
        simp only [List.length_append, List.nil_append] at hroom ⊢
        omega
      have h6 := fun w' (k : Kept s.own w w') (hst : s.St ([] ++ be16 (3 % 65536) ++ encStrs tops ++ encData da data ++ ownB 3 owned ++ be32 (gen % 4294967296)) w') => s.cNStr (.pointer ra) (if has then some rack else none) (s.drew hst) hl6 (HK.out _ k.drew).rack (fun st hst => by
        cases has with
        | false => simp at hst
        | true => simp at hst; subst hst; omega)
      have H6 := Lib.hid h6; clear h6 hl6
      have r1 := s.mNStr.m
      have r2 := s.mNStr.n
      have r3 := s.mNStr.c
      have HE6 := Lib.hid e6; clear e6 hroom hsc
      have q1 := s.mI32.m
      have q2 := s.mI32.n
      have q3 := s.mI32.c
      go_wp2
      go_region_held3 (fun w' => w'.cell? ⟨m, 0 + 4, none⟩ = some (.int .i32 gen)) (first | exact (HS.out _ (hkc.trans hk5.of_drew (fun _ h => h) (fun _ h _ => h))).2.2.2.2.1 | exact e4 | fail)
        (first | (refine H5.out.mono ?_; rintro e w5 ⟨rfl, hs5, hk5⟩) | fail)
      have hk05 : Kept s.own w w5 := hkc.trans hk5.of_drew (fun _ h => h) (fun _ h _ => h)
      obtain ⟨f0, f1, f2, f3, f4, f5⟩ := HS.out _ hk05
      have h6' := H6.out _ hk05 hs5
      have H6' := Lib.hid h6'; clear h6' H6
      go_wp2
      go_region_held3 (fun w' => w'.cell? ⟨m, 0 + 5, none⟩ = some (.pointer ra)) (first | exact (HS.out _ (hk05.trans hk6.of_drew (fun _ h => h) (fun _ h _ => h))).2.2.2.2.2 | exact f5 | fail)
        (first | (refine H6'.out.mono ?_; rintro e w6 ⟨rfl, hs6, hk6⟩) | fail)
      have HE := Lib.hid hs6; clear hs6
      go_wp2
      go_ret
      refine ⟨rfl, ?_, hk05.trans hk6.of_drew (fun _ h => h) (fun _ h _ => h)⟩
      have := HE.out
      rw [HX.out.1, HX.out.2.2, encNStr_eq 3 has rack (by omega)] at this
      rw [HE6.out]
      simpa [List.append_assoc] using this
end Go.Proofs.YticcnlpfmekagaaGreat
