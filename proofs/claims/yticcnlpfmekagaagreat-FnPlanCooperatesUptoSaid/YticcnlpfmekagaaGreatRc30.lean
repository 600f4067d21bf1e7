/- Part 30 of the proof of the row: Mov. -/
import Derived.Test.YticcnlpfmekagaaGreatRc00
import Derived.Test.YticcnlpfmekagaaGreatRc29
import Derived.Test.YticcnlpfmekagaaGreatRc15
import Derived.Test.YticcnlpfmekagaaGreatRc21
set_option linter.unusedVariables false
set_option linter.unusedSimpArgs false
set_option maxRecDepth 100000
set_option maxHeartbeats 8000000
namespace Go.Proofs.YticcnlpfmekagaaGreat
section
open Go Go.Proofs Go.RowKit Go.Lib
open Classical
abbrev Pr := ByteArray × ByteArray
def prV (x : Pr) : Value := .agg #[.string x.1, .string x.2]
def isPr (v : Value) : Prop := ∃ s d, v = .agg #[.string s, .string d]
theorem prV_is (x : Pr) : isPr (prV x) := ⟨_, _, rfl⟩
theorem prV_inj {x y : Pr} (h : prV x = prV y) : x = y := by
 simp only [prV, Value.agg.injEq] at h
 have h2 := congrArg Array.toList h
 simp only [List.cons.injEq, Value.string.injEq, and_true] at h2
 exact Prod.ext h2.1 h2.2
theorem pr_und : Tryz.prog.underlying 466 = some (.struct (Tryz.prog.fieldsOf 466)) := by kernel_rfl
theorem equal_pr (a b : Value) (w : World) (ha : isPr a) (hb : isPr b) : (Op.equal 466 a b).run Tryz.prog w = .ok (decide (a = b)) w := by
 obtain ⟨s, n, rfl⟩ := ha
 obtain ⟨t, m, rfl⟩ := hb
 have u9 := Tryz.underlying9
 have hp : Tryz.prog.stoodInHeld 466 = false := by kernel_rfl
 unfold Op.equal
 rw [show Op.maxDepth = 9999 + 1 from rfl, run_equalIn_agg w 9999 466 _ _ pr_und hp]
 simp only [Program.fieldsOf, Tryz.underlying466]
 go_simp
 have hst := ba_inj s t
 have hnm := ba_inj n m
 by_cases h1 : s = t <;> by_cases h2 : n = m <;> simp [h1, h2, hst, hnm, ba_beq]
theorem check_pr (k : Value) (em : Bool) (w : World) (hk : isPr k) : (Instr.checkKey em 10000 466 k).run Tryz.prog w = .ok () w := by
 obtain ⟨s, n, rfl⟩ := hk
 have u9 := Tryz.underlying9
 obtain ⟨m, hm⟩ : ∃ m : Nat, (10000 : Nat) = m + 1 + 1 := ⟨9998, rfl⟩
 rw [hm]
 have c9 : ∀ v, (Instr.checkKey em (m + 1) 9 v).run Tryz.prog w = .ok () w := fun v => ck_plain u9 rfl v w m
 rw [Instr.checkKey]
 simp only [Sem.run_bind, run_underlying pr_und, Result.andThen_ok]
 simp only [Program.fieldsOf, Tryz.underlying466]
 go_simp
theorem keyT_pr : KeyT Tryz.prog 466 isPr where
 check := fun k em w hk => check_pr k em w hk
 find := fun k es w hk hes => findKey_of pr_und (fun v ⟨s, n, h⟩ => ⟨_, h⟩) (fun a b w ha hb => equal_pr a b w ha hb) k hk w es hes
 stay := by
  rintro k w ⟨s, n, rfl⟩
  exact stay_flat w (by simp [flat])
section
variable {P : Program} {o : Oper} {a : Act} {w : World} {K : Act → World → Prop} {Q : Exit → Act → World → Prop} {V : Value → Prop} {r s : Nat} {l : List (Value × Value)} {T kT eT : TypeId} {kv vv z : Value}
variable {S : List Nat} {w0 : World} {M R : List Res}
theorem up_lk2 {f : Value → World → Result Next} (hf : ∀ u w', f u w' = .ok (.value u) w') (K0 : KeyT P kT V) (hT : P.underlying T = some (.map kT eT)) (h : MapAt w V r l) (hin : (kv, vv) ∈ l)
 (hK : K (a.put o.dst (.tuple #[vv, .bool true])) w) : Oper.upon P o a K Q ((Sem.run P (Instr.lookup T (.map (some r)) kv true) w).andThen f) := by
 have := map_lookup_hit h K0 hT hin true
 rw [this, Result.andThen_ok, hf]
 exact hK
theorem up_lkN2 {f : Value → World → Result Next} (hf : ∀ u w', f u w' = .ok (.value u) w') (K0 : KeyT P kT V) (hT : P.underlying T = some (.map kT eT)) (h : MapAt w V r l) (hV : V kv) (hno : ∀ v, (kv, v) ∉ l) (hz : (zeroValue eT).run P w = .ok vv w)
 (hK : K (a.put o.dst (.tuple #[vv, .bool false])) w) : Oper.upon P o a K Q ((Sem.run P (Instr.lookup T (.map (some r)) kv true) w).andThen f) := by
 have := map_lookup_miss h K0 hT hV hno hz true
 rw [this, Result.andThen_ok, hf]
 exact hK
theorem up_mk {f : Value → World → Result Next} (hf : ∀ u w', f u w' = .ok (.value u) w') (hst : St S w0 w M R)
 (hK : ∀ r w', St S w0 w' (Rs.map r V [] :: M) R → K (a.put o.dst (.map (some r))) w') : Oper.upon P o a K Q ((Sem.run P (Instr.makeMap T none) w).andThen f) := by
 have : Sem.run P (Instr.makeMap T none) w = .ok (.map (some w.heap.size)) (w.alloc (.map #[] 0)) := rfl
 rw [this, Result.andThen_ok, hf]
 exact hK _ _ (hst.push ((Kept.refl _ _).alloc _) (MapAt.new w V) (by simp [Rs.map]))
theorem up_updJ (i : Nat) {J1 J2 : List MpR} {f : Unit → World → Result Next} (hf : ∀ u w', f u w' = .ok .skip w') (K0 : KeyT P kT V) (hT : P.underlying T = some (.map kT eT)) (hst : St S w0 w M R) (hi : M[i]? = some (Rs.maps (J1 ++ (r, V, l) :: J2))) (hV : V kv)
 (hK : ∀ w', St S w0 w' (M.set i (Rs.maps (J1 ++ (r, V, putE l kv vv) :: J2))) R → K (a.put o.dst undef) w') : Oper.upon P o a K Q ((Sem.run P (Instr.mapUpdate T (.map (some r)) kv vv) w).andThen f) := by
 have hh : (Rs.maps (J1 ++ (r, V, l) :: J2)).holds w := hst.m i hi
 refine up_update hf K0 hT (hh.1 (r, V, l) (by simp)) hV fun w' h1 h2 h3 => hK w' (hst.set i hi h2 (by simp [Rs.maps]) (maps_put hh h1 h2) (fun g hg => .inl (by simpa [Rs.maps] using hg)))
end
def rawE (E : List (ByteArray × Nat)) : List (Value × Value) := E.map fun x => (.string x.1, .map (some x.2))
def rawD1 (y : Nat × List (Pr × Nat)) : MpR := (y.1, isPr, y.2.map fun z => (prV z.1, .map (some z.2)))
def rawD (D : List (Nat × List (Pr × Nat))) : List MpR := D.map rawD1
def rawI (I : List (Nat × List (Value × Value))) : List MpR := I.map fun y => (y.1, isTp, y.2)
def rawV (Mv : List (TP × Pr)) : List (Value × Value) := Mv.map fun x => (tpV x.1, prV x.2)
structure MovOk (G : ByteArray → Prop) (H : TP → Prop) (E0 : List (ByteArray × Nat)) (D : List (Nat × List (Pr × Nat))) (I : List (Nat × List (Value × Value))) (Mv : List (TP × Pr)) : Prop where
 top : ∀ x ∈ E0, x.2 ∈ D.map (·.1)
 mid : ∀ y ∈ D, ∀ z ∈ y.2, G z.1.2 ∧ z.2 ∈ I.map (·.1)
 mv : ∀ x ∈ Mv, H x.1
theorem movOk_nil (G : ByteArray → Prop) (H : TP → Prop) : MovOk G H [] [] [] [] := ⟨by simp, by simp, by simp⟩
theorem MovOk.mono {G G' : ByteArray → Prop} {H H' : TP → Prop} {E0 D I Mv} (h : MovOk G H E0 D I Mv) (hG : ∀ x, G x → G' x) (hH : ∀ x, H x → H' x) : MovOk G' H' E0 D I Mv :=
 ⟨h.top, fun y hy z hz => ⟨hG _ (h.mid y hy z hz).1, (h.mid y hy z hz).2⟩, fun x hx => hH _ (h.mv x hx)⟩
def movO : Bool → Nat → Nat → Obj
 | false, rb, rm => .cells #[.map (some rb), .map (some rm), .bool false] 176 (0, 0)
 | true, rb, rm => .cells #[.map (some rb), .map (some rm), .bool true, .int .i32 (-1)] 181 (0, 0)
theorem movO_cells {w : World} {sp rb rm : Nat} {cp : Bool} (h : w.heap[sp]? = some (movO cp rb rm)) : w.cell? ⟨sp, 0, none⟩ = some (.map (some rb)) ∧ w.cell? ⟨sp, 1, none⟩ = some (.map (some rm)) ∧ w.cell? ⟨sp, 2, none⟩ = some (.bool cp) := by
 cases cp
 · exact ⟨(cells_of h).1 0 _ rfl, (cells_of h).1 1 _ rfl, (cells_of h).1 2 _ rfl⟩
 · exact ⟨(cells_of h).1 0 _ rfl, (cells_of h).1 1 _ rfl, (cells_of h).1 2 _ rfl⟩
abbrev movM (sp rb rm : Nat) (cp : Bool) (E0 : List (ByteArray × Nat)) (D : List (Nat × List (Pr × Nat))) (I : List (Nat × List (Value × Value))) (Mv : List (TP × Pr)) : List Res :=
 [Rs.blk sp (movO cp rb rm), Rs.map rb isStr (rawE E0), Rs.maps (rawD D), Rs.maps (rawI I), Rs.map rm isTp (rawV Mv)]
def AddPost (G : ByteArray → Prop) (H : TP → Prop) (sp rb rm : Nat) (cp : Bool) (p : TP) (S : List Nat) (w : World) (e : Ending) (w' : World) : Prop :=
 ∃ E0 D I Mv, e = .returned (.tuple #[]) ∧ MovOk G (fun q => H q ∨ q = p) E0 D I Mv ∧ St S w w' (movM sp rb rm cp E0 D I Mv) []
theorem rawE_hit {E : List (ByteArray × Nat)} {t : ByteArray} {r : Nat} (h : (t, r) ∈ E) : ((.string t : Value), Value.map (some r)) ∈ rawE E := List.mem_map.2 ⟨_, h, rfl⟩
theorem rawE_miss {E : List (ByteArray × Nat)} {t : ByteArray} (h : ¬ ∃ r, (t, r) ∈ E) : ∀ v, ((.string t : Value), v) ∉ rawE E := fun v hv => by
 obtain ⟨x, hx, e⟩ := List.mem_map.1 hv
 simp only [Prod.mk.injEq, Value.string.injEq] at e
 exact h ⟨x.2, by rw [← e.1]; exact hx⟩
theorem rawV_miss {Mv : List (TP × Pr)} {p : TP} (h : ∀ x ∈ Mv, x.1 ≠ p) : ∀ v, (tpV p, v) ∉ rawV Mv := fun v hv => by
 obtain ⟨x, hx, e⟩ := List.mem_map.1 hv
 simp only [Prod.mk.injEq] at e
 exact h x hx (tpV_inj e.1)
theorem pr_miss {L : List (Pr × Nat)} {x : Pr} (h : ¬ ∃ r, (x, r) ∈ L) : ∀ v, (prV x, v) ∉ L.map fun z => ((prV z.1 : Value), Value.map (some z.2)) := fun v hv => by
 obtain ⟨z, hz, e⟩ := List.mem_map.1 hv
 simp only [Prod.mk.injEq] at e
 exact h ⟨z.2, by rw [← prV_inj e.1]; exact hz⟩
theorem mov_cells {S : List Nat} {w0 W : World} {M R : List Res} {b4 b5 sp rb rm : Nat} {cp : Bool} {x : Pr} {p : TP} (h : St S w0 W (Rs.blk b5 (.cells #[.string x.1, .string x.2] 466 (0, 0)) :: Rs.blk b4 (.cells #[.string p.1, .int .i32 p.2] 384 (0, 0)) :: Rs.blk sp (movO cp rb rm) :: M) R) :
 (W.cell? ⟨b5, 0, none⟩ = some (.string x.1) ∧ W.cell? ⟨b5, 1, none⟩ = some (.string x.2)) ∧ (W.cell? ⟨b4, 0, none⟩ = some (.string p.1) ∧ W.cell? ⟨b4, 1, none⟩ = some (.int .i32 p.2)) ∧ (W.cell? ⟨sp, 0, none⟩ = some (.map (some rb)) ∧ W.cell? ⟨sp, 1, none⟩ = some (.map (some rm))) := by
 have h2 : W.heap[sp]? = some (movO cp rb rm) := h.m 2 rfl
 exact ⟨h.cell2 0 rfl, h.cell2 1 rfl, (movO_cells h2).1, (movO_cells h2).2.1⟩
theorem putE_new {l : List (Value × Value)} {k v : Value} (h : ∀ u, (k, u) ∉ l) : putE l k v = l ++ [(k, v)] := putE_miss h v
theorem add_any (G : ByteArray → Prop) (H : TP → Prop) (sp rb rm : Nat) (cp : Bool) (E0 : List (ByteArray × Nat)) (D : List (Nat × List (Pr × Nat))) (I : List (Nat × List (Value × Value))) (Mv : List (TP × Pr)) (p : TP) (x : Pr) (w : World) (how : Ow w (movM sp rb rm cp E0 D I Mv)) (hok : MovOk G H E0 D I Mv) (hp : ∀ y ∈ Mv, y.1 ≠ p) (hG : G x.2) :
 Calls Tryz.prog 279 #[.pointer (some ⟨sp, 0, none⟩), .agg #[.string p.1, .int .i32 p.2], .agg #[.string x.1, .string x.2]] w (AddPost G H sp rb rm cp p (foots (movM sp rb rm cp E0 D I Mv)) w) := by
 have hst0 : St (foots (movM sp rb rm cp E0 D I Mv)) w w (movM sp rb rm cp E0 D I Mv) [] := St.start (by simpa using how)
 clear how
 generalize foots (movM sp rb rm cp E0 D I Mv) = S at *
 have hst1 := ((hst0.blk (.cells #[.string p.1, .int .i32 p.2] 384)).blk (.cells #[.string x.1, .string x.2] 466)).drew
 have HO := Zhd (Zan hok (Zan hp hG)); clear hok hp hG hst0
 go_enter Tryz.func279, Tryz.ntmps279
 go_upto_region 1 with fail
 have hsz : (w.alloc (.cells #[.string p.1, .int .i32 p.2] 384)).heap.size = w.heap.size + 1 := by simp [go_sem]
 rw [hsz] at hst1
 obtain ⟨c5, c4, cs⟩ := mov_cells hst1
 have HSB := Zhd hst1; clear hst1 hsz
 have hK0 := keyT_tp
 have hvp : isTp (tpV p) := ⟨_, _, rfl⟩
 have hi0 : ∀ X Y : Res, (X :: Y :: movM sp rb rm cp E0 D I Mv)[6]? = some (Rs.map rm isTp (rawV Mv)) := fun _ _ => rfl
 go_region_held3 (fun W => (W.cell? ⟨w.heap.size + 1, 0, none⟩ = some (.string x.1) ∧ W.cell? ⟨w.heap.size + 1, 1, none⟩ = some (.string x.2)) ∧ (W.cell? ⟨w.heap.size, 0, none⟩ = some (.string p.1) ∧ W.cell? ⟨w.heap.size, 1, none⟩ = some (.int .i32 p.2)) ∧ W.cell? ⟨sp, 1, none⟩ = some (.map (some rm)))
  (first | exact ⟨c5, c4, cs.2⟩ | exact ⟨d5, d4, ds.2⟩ | fail)
  (first
    | (with_reducible refine up_upd 6 (fun _ _ => rfl) hK0 Tryz.underlying172 HSB.out (hi0 _ _) hvp ?_
       intro w2 hst2
       simp only [Zs0, Zs1] at hst2
       obtain ⟨d5, d4, ds⟩ := mov_cells hst2)
    | fail)
 all_goals
  rw [putE_new (rawV_miss HO.out.2.1)] at hst2
  have eMv : rawV Mv ++ [(tpV p, .agg #[.string x.1, .string x.2])] = rawV (Mv ++ [(p, x)]) := by simp [rawV, prV]
  rw [eMv] at hst2
  have HST := Zhd hst2; clear hst2 HSB c5 c4 cs d5 d4 ds hi0 hK0 hvp eMv
  generalize w.heap.size + 1 = b5 at *
  generalize w.heap.size = b4 at *
  have hok1 : MovOk G (fun q => H q ∨ q = p) E0 D I (Mv ++ [(p, x)]) := ⟨HO.out.1.top, HO.out.1.mid, fun y hy => by
   rcases Zap.1 hy with hy | hy
   · exact .inl (HO.out.1.mv y hy)
   · simp only [Zmc, Znn, or_false] at hy
     subst hy; exact .inr rfl⟩
  have hGx := HO.out.2.2
  have HOK := Zhd (Zan hok1 hGx); clear hok1 hGx HO
  generalize Mv ++ [(p, x)] = Mv1 at *
  have hst3 := HST.out.drew
  obtain ⟨c5, c4, cs⟩ := mov_cells hst3
  have hme : MapAt _ isStr rb (rawE E0) := hst3.m 3 rfl
  have HS3 := Zhd hst3; clear hst3
  rcases Classical.em (∃ r, (p.1, r) ∈ E0) with hE | hE
  case' inl =>
   obtain ⟨r1, hr1⟩ := hE
   have hin := rawE_hit hr1
   go_upto_region 2 with fail
   go_region_held3 (fun W => (W.cell? ⟨b5, 0, none⟩ = some (.string x.1) ∧ W.cell? ⟨b5, 1, none⟩ = some (.string x.2)) ∧ (W.cell? ⟨b4, 0, none⟩ = some (.string p.1) ∧ W.cell? ⟨b4, 1, none⟩ = some (.int .i32 p.2)) ∧ (W.cell? ⟨sp, 0, none⟩ = some (.map (some rb)) ∧ W.cell? ⟨sp, 1, none⟩ = some (.map (some rm))))
    (first | exact ⟨c5, c4, cs⟩ | fail)
    (first
      | (with_reducible refine up_lk2 (fun _ _ => rfl) (keyT_str Tryz.underlying9) Tryz.underlying171 hme hin ?_)
      | fail)
   go_upto_region 5 with fail
   have hst5 := HS3.out
   have HF := Zhd (Zan hr1 (Zan HOK.out.1 (Zan HOK.out.2 hst5))); clear hst5 HS3 HST HOK c5 c4 cs hme hin hr1
   generalize E0 = E1 at *
   generalize D = D1 at *
  case' inr =>
   have hmi := rawE_miss hE
   have hvs : isStr (.string p.1) := ⟨_, rfl⟩
   have hz := Tryz.zeroValue463
   go_upto_region 2 with fail
   go_region_held3 (fun W => (W.cell? ⟨b5, 0, none⟩ = some (.string x.1) ∧ W.cell? ⟨b5, 1, none⟩ = some (.string x.2)) ∧ (W.cell? ⟨b4, 0, none⟩ = some (.string p.1) ∧ W.cell? ⟨b4, 1, none⟩ = some (.int .i32 p.2)) ∧ (W.cell? ⟨sp, 0, none⟩ = some (.map (some rb)) ∧ W.cell? ⟨sp, 1, none⟩ = some (.map (some rm))))
    (first | exact ⟨c5, c4, cs⟩ | fail)
    (first
      | (with_reducible refine up_lkN2 (fun _ _ => rfl) (keyT_str Tryz.underlying9) Tryz.underlying171 hme hvs hmi (hz _) ?_)
      | fail)
   have hst4 := HS3.out.drew
   obtain ⟨c5, c4, cs⟩ := mov_cells hst4
   have HS4 := Zhd hst4; clear hst4 HS3 HST hme
   go_upto_region 4 with fail
   have hi4 : ∀ (X Y Z : Res) (r1 : Nat), (Rs.map r1 isPr [] :: X :: Y :: Z :: Rs.map rb isStr (rawE E0) :: [Rs.maps (rawD D), Rs.maps (rawI I), Rs.map rm isTp (rawV Mv1)])[4]? = some (Rs.map rb isStr (rawE E0)) := fun _ _ _ _ => rfl
   go_region_held3 (fun W => (W.cell? ⟨b5, 0, none⟩ = some (.string x.1) ∧ W.cell? ⟨b5, 1, none⟩ = some (.string x.2)) ∧ (W.cell? ⟨b4, 0, none⟩ = some (.string p.1) ∧ W.cell? ⟨b4, 1, none⟩ = some (.int .i32 p.2)) ∧ (W.cell? ⟨sp, 0, none⟩ = some (.map (some rb)) ∧ W.cell? ⟨sp, 1, none⟩ = some (.map (some rm))))
    (first | exact ⟨c5, c4, cs⟩ | exact ⟨d5, d4, ds⟩ | exact ⟨e5, e4, es⟩ | fail)
    (first
      | (with_reducible refine up_upd 4 (fun _ _ => rfl) (keyT_str Tryz.underlying9) Tryz.underlying171 hst5 (hi4 _ _ _ _) hvs ?_
         intro w6 hst6
         simp only [Zs0, Zs1] at hst6
         obtain ⟨e5, e4, es⟩ := mov_cells hst6.tail)
      | (with_reducible refine up_mk (V := isPr) (fun _ _ => rfl) HS4.out ?_
         intro r1 w5 hst5
         obtain ⟨d5, d4, ds⟩ := mov_cells hst5.tail)
      | fail)
   rw [putE_new hmi] at hst6
   have eE : rawE E0 ++ [(.string p.1, .map (some r1))] = rawE (E0 ++ [(p.1, r1)]) := by simp [rawE]
   rw [eE] at hst6
   have hst7 := (hst6.front 5 rfl).front 1 rfl
   simp only [Ze0, Ze1] at hst7
   have hst8 := hst7.mapsAdd
   have eD : rawD D ++ [(r1, isPr, [])] = rawD (D ++ [(r1, [])]) := by simp [rawD, rawD1]
   rw [eD] at hst8
   have hst9 := (((hst8.front 4 rfl).front 4 rfl).front 4 rfl).front 4 rfl
   simp only [Ze0, Ze1] at hst9
   have hokn : MovOk G (fun q => H q ∨ q = p) (E0 ++ [(p.1, r1)]) (D ++ [(r1, [])]) I Mv1 := by
    refine ⟨fun y hy => ?_, fun y hy z hz => ?_, HOK.out.1.mv⟩
    · rw [List.map_append]
      rcases Zap.1 hy with hy | hy
      · exact List.mem_append_left _ (HOK.out.1.top y hy)
      · simp only [Zmc, Znn, or_false] at hy
        subst hy; simp
    · rcases Zap.1 hy with hy | hy
      · exact HOK.out.1.mid y hy z hz
      · simp only [Zmc, Znn, or_false] at hy
        subst hy; cases hz
   have hr1 : (p.1, r1) ∈ E0 ++ [(p.1, r1)] := by simp
   go_upto_region 5 with fail
   have HF := Zhd (Zan hr1 (Zan hokn (Zan HOK.out.2 hst9)))
   clear hst9 hst8 hst7 hst6 hst5 hokn hr1 eE eD HS4 HOK c5 c4 cs d5 d4 ds e5 e4 es hmi hvs hz hi4 hE
   generalize E0 ++ [(p.1, r1)] = E1 at *
   generalize D ++ [(r1, [])] = D1 at *
  all_goals
   have hst5 := HF.out.2.2.2.drew
   obtain ⟨c5, c4, cs⟩ := mov_cells hst5
   have hme : MapAt _ isStr rb (rawE E1) := hst5.m 3 rfl
   have hin := rawE_hit HF.out.1
   have HS5 := Zhd hst5; clear hst5
   go_region_held3 (fun W => (W.cell? ⟨b5, 0, none⟩ = some (.string x.1) ∧ W.cell? ⟨b5, 1, none⟩ = some (.string x.2)) ∧ (W.cell? ⟨b4, 0, none⟩ = some (.string p.1) ∧ W.cell? ⟨b4, 1, none⟩ = some (.int .i32 p.2)) ∧ (W.cell? ⟨sp, 0, none⟩ = some (.map (some rb)) ∧ W.cell? ⟨sp, 1, none⟩ = some (.map (some rm))))
    (first | exact ⟨c5, c4, cs⟩ | fail)
    (first
      | (with_reducible refine up_lk (fun _ _ => rfl) (keyT_str Tryz.underlying9) Tryz.underlying171 hme hin ?_)
      | fail)
   go_upto_region 6 with fail
   obtain ⟨⟨r1', Lr⟩, hyD, hy1⟩ := List.mem_map.1 (HF.out.2.1.top _ HF.out.1)
   simp only at hy1
   subst hy1
   obtain ⟨DA, DB, rfl⟩ := List.append_of_mem hyD
   have eDD : rawD (DA ++ (r1', Lr) :: DB) = rawD DA ++ (r1', isPr, Lr.map fun z => ((prV z.1 : Value), Value.map (some z.2))) :: rawD DB := by simp [rawD, rawD1]
   have hst6 := HS5.out
   try simp only [movM] at hst6
   rw [eDD] at hst6
   have hmid := hst6.mapOf 4 rfl (List.mem_append_right _ (List.mem_cons_self ..))
   have hD6 := HF.out.2.1
   have hG6 := HF.out.2.2.1
   have HD6 := Zhd (Zan hD6 hG6)
   obtain ⟨⟨c50, c51⟩, ⟨c40, c41⟩, cs0, cs1⟩ := mov_cells hst6
   have HST6 := Zhd hst6
   clear hD6 hG6 hst6 HS5 HF hyD c5 c4 cs hme hin
   rcases Classical.em (∃ r, (x, r) ∈ Lr) with hE | hE
   case' inl =>
    obtain ⟨r2, hr2⟩ := hE
    have hinp : (prV x, Value.map (some r2)) ∈ Lr.map fun z => ((prV z.1 : Value), Value.map (some z.2)) := List.mem_map.2 ⟨(x, r2), hr2, rfl⟩
    go_upto_region 9 with (first
     | (refine wl_lk2 (kv := prV x) rfl rfl rfl rfl keyT_pr Tryz.underlying463 hmid hinp ?_)
     | fail)
    have HF := Zhd (Zan hr2 (Zan HD6.out.1 HST6.out)); clear HD6 HST6 hmid hinp hr2 eDD
    generalize Lr = Lr2 at *
    generalize I = I2 at *
   case' inr =>
    have hmi := pr_miss hE
    go_upto_region 9 with (first
     | (refine wl_lkN2 (kv := prV x) rfl rfl rfl rfl keyT_pr Tryz.underlying463 hmid (prV_is x) hmi (Tryz.zeroValue388 _) ?_)
     | (refine wl_mkmap (V := isTp) rfl rfl HST6.out ?_
        intro r2 w7 hst7 hr2)
     | (refine wl_updJ (kv := prV x) (vv := .map (some r2)) 5 rfl rfl rfl rfl rfl keyT_pr Tryz.underlying463 hst7 rfl (prV_is x) ?_
        intro w8 hst8
        simp only [Zs0, Zs1] at hst8)
     | fail)
    rw [putE_new hmi] at hst8
    have e1 : (Lr.map fun z => ((prV z.1 : Value), Value.map (some z.2))) ++ [(prV x, .map (some r2))] = (Lr ++ [(x, r2)]).map fun z => ((prV z.1 : Value), Value.map (some z.2)) := by simp
    rw [e1] at hst8
    have hst9 := ((hst8.front 6 rfl).front 1 rfl)
    simp only [Ze0, Ze1] at hst9
    have hst10 := hst9.mapsAdd
    have eI : rawI I ++ [(r2, isTp, [])] = rawI (I ++ [(r2, [])]) := by simp [rawI]
    rw [eI] at hst10
    have hst11 := ((((hst10.front 5 rfl).front 5 rfl).front 5 rfl).front 5 rfl).front 5 rfl
    simp only [Ze0, Ze1] at hst11
    have hokn : MovOk G (fun q => H q ∨ q = p) E1 (DA ++ (r1', Lr ++ [(x, r2)]) :: DB) (I ++ [(r2, [])]) Mv1 := by
     refine ⟨fun y hy => ?_, fun y hy z hz => ?_, HD6.out.1.mv⟩
     · have h := HD6.out.1.top y hy
       simpa using h
     · have hold : ∀ y ∈ DA ++ (r1', Lr) :: DB, ∀ z ∈ y.2, G z.1.2 ∧ z.2 ∈ (I ++ [(r2, ([] : List (Value × Value)))]).map (·.1) := fun y hy z hz => by
        have h := HD6.out.1.mid y hy z hz
        exact ⟨h.1, by rw [List.map_append]; exact List.mem_append_left _ h.2⟩
       rcases Zap.1 hy with hy | hy
       · exact hold y (List.mem_append_left _ hy) z hz
       · rcases Zmc.1 hy with rfl | hy
         · rcases Zap.1 hz with hz | hz
           · exact hold (r1', Lr) (by simp) z hz
           · simp only [Zmc, Znn, or_false] at hz
             subst hz
             exact ⟨HD6.out.2, by simp⟩
         · exact hold y (List.mem_append_right _ (List.mem_cons_of_mem _ hy)) z hz
    have hr2 : (x, r2) ∈ Lr ++ [(x, r2)] := by simp
    have HF := Zhd (Zan hr2 (Zan hokn hst11)); clear hst11 hst10 hst9 hst8 hst7 hokn hr2 e1 eI HD6 HST6 hmid hmi hE eDD
    generalize Lr ++ [(x, r2)] = Lr2 at *
    generalize I ++ [(r2, [])] = I2 at *
   all_goals
    have hst12 := HF.out.2.2.drew
    obtain ⟨c5, c4, cs⟩ := mov_cells hst12
    have hmid := hst12.mapOf 4 rfl (List.mem_append_right _ (List.mem_cons_self ..))
    have hinp : (Value.agg #[.string x.1, .string x.2], Value.map (some r2)) ∈ Lr2.map fun z => ((prV z.1 : Value), Value.map (some z.2)) := List.mem_map.2 ⟨(x, r2), HF.out.1, rfl⟩
    obtain ⟨⟨r2', li⟩, hyI, hy2⟩ := List.mem_map.1 (HF.out.2.1.mid (r1', Lr2) (by simp) _ HF.out.1).2
    simp only at hy2
    subst hy2
    obtain ⟨IA, IB, rfl⟩ := List.append_of_mem hyI
    have eII : rawI (IA ++ (r2', li) :: IB) = rawI IA ++ (r2', isTp, li) :: rawI IB := by simp [rawI]
    rw [eII] at hst12
    have HST := Zhd hst12; clear hst12
    have hvp : isTp (tpV p) := ⟨_, _, rfl⟩
    have hi5 : ∀ X Y Z V T : Res, [X, Y, Z, V, T, Rs.maps (rawI IA ++ (r2', isTp, li) :: rawI IB), Rs.map rm isTp (rawV Mv1)][5]? = some (Rs.maps (rawI IA ++ (r2', isTp, li) :: rawI IB)) := fun _ _ _ _ _ => rfl
    have hKp := keyT_pr
    go_region_held3 (fun W => (W.cell? ⟨b5, 0, none⟩ = some (.string x.1) ∧ W.cell? ⟨b5, 1, none⟩ = some (.string x.2)) ∧ (W.cell? ⟨b4, 0, none⟩ = some (.string p.1) ∧ W.cell? ⟨b4, 1, none⟩ = some (.int .i32 p.2)))
     (first | exact ⟨c5, c4⟩ | exact ⟨d5, d4⟩ | fail)
     (first
       | (with_reducible refine up_lk (fun _ _ => rfl) hKp Tryz.underlying463 hmid hinp ?_)
       | (with_reducible refine up_updJ 5 (fun _ _ => rfl) keyT_tp Tryz.underlying388 HST.out (hi5 _ _ _ _ _) hvp ?_
          intro w9 hst13
          simp only [Zs0, Zs1] at hst13
          obtain ⟨d5, d4, ds⟩ := mov_cells hst13)
       | fail)
    have eI2 : rawI IA ++ (r2', isTp, putE li (.agg #[.string p.1, .int .i32 p.2]) (.bool true)) :: rawI IB = rawI (IA ++ (r2', putE li (.agg #[.string p.1, .int .i32 p.2]) (.bool true)) :: IB) := by simp [rawI]
    have eD2 : rawD DA ++ (r1', isPr, Lr2.map fun z => ((prV z.1 : Value), Value.map (some z.2))) :: rawD DB = rawD (DA ++ (r1', Lr2) :: DB) := by simp [rawD, rawD1]
    rw [eI2, eD2] at hst13
    have hst14 := (hst13.drop 0).drop 0
    simp only [Ze0] at hst14
    have hfin : AddPost G H sp rb rm cp p S w (.returned (.tuple #[])) w9 := ⟨E1, _, _, Mv1, rfl, ⟨HF.out.2.1.top, fun y hy z hz => ⟨(HF.out.2.1.mid y hy z hz).1, by have h := (HF.out.2.1.mid y hy z hz).2; simpa using h⟩, HF.out.2.1.mv⟩, hst14⟩
    have HFN := Zhd hfin; clear hfin hst14 hst13 HF HST
    try go_wp2_with fail
    go_end0
    exact HFN.out
end
end Go.Proofs.YticcnlpfmekagaaGreat
