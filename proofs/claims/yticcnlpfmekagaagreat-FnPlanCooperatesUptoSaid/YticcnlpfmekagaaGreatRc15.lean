/- Part 15 of the proof of the row: Ident. -/
import Derived.Test.YticcnlpfmekagaaGreatRc00
import Derived.Test.YticcnlpfmekagaaGreatRc14
set_option linter.unusedVariables false
set_option linter.unusedSimpArgs false
set_option maxRecDepth 100000
set_option maxHeartbeats 8000000
namespace Go.Proofs.YticcnlpfmekagaaGreat
section
open Go Go.Proofs Go.RowKit Go.Lib
open Classical
def CntS (L : List ByteArray) : List (Value × Value) := L.map fun s => (.string s, .int .i64 1)
def CntT (L : List TP) : List (Value × Value) := L.map fun p => (tpV p, .int .i64 1)
theorem cntS_snoc (L : List ByteArray) (s : ByteArray) : CntS L ++ [(.string s, .int .i64 1)] = CntS (L ++ [s]) := by simp [CntS]
theorem cntT_snoc (L : List TP) (s : TP) : CntT L ++ [(tpV s, .int .i64 1)] = CntT (L ++ [s]) := by simp [CntT]
theorem cntS_miss {L : List ByteArray} {s : ByteArray} (h : s ∉ L) : ∀ u, (Value.string s, u) ∉ CntS L := by
 intro u hu
 obtain ⟨t, ht, e⟩ := List.mem_map.1 hu
 simp only [Prod.mk.injEq, Value.string.injEq] at e
 exact h (e.1 ▸ ht)
theorem tpV_inj {p q : TP} (h : tpV p = tpV q) : p = q := by
 obtain ⟨a, b⟩ := p
 obtain ⟨c, d⟩ := q
 simp at h
 simp [h.1, h.2]
theorem cntT_miss {L : List TP} {s : TP} (h : s ∉ L) : ∀ u, (tpV s, u) ∉ CntT L := by
 intro u hu
 obtain ⟨t, ht, e⟩ := List.mem_map.1 hu
 rw [Prod.mk.injEq] at e
 exact h (tpV_inj e.1 ▸ ht)
theorem take_new {α : Type} {L : List α} (hn : L.Nodup) {k : Nat} {x : α} (h : L[k]? = some x) : x ∉ L.take k := by
 obtain ⟨hk, rfl⟩ := List.getElem?_eq_some_iff.1 h
 intro hx
 rw [← List.take_append_drop k L, List.nodup_append] at hn
 exact hn.2.2 L[k] hx L[k] (by rw [List.drop_eq_getElem_cons hk]; exact List.mem_cons_self ..) rfl
theorem strs_get {L : List ByteArray} {k : Nat} {s : ByteArray} (h : L[k]? = some s) : (strs L)[k]? = some (.string s) := by simp [strs, h]
structure IdOk (n : Nat) (B : List Sw) (Ks : List ByteArray) : Prop where
 rows : ∀ x ∈ B, x.2.2.Perm Ks
 nd : Ks.Nodup
 len : Ks.length = n
 pos : 0 < n
 small : n ≤ 1000
abbrev itQ (rk : Nat) (B : List Sw) (lf : List (Value × Value)) (it : Nat) : Res := Rs.it (Rs.p2c rk B) rk (rawR (rowsS B)) lf it (cur_footS rk B)
def ID1 (w : World) (rk it rm : Nat) (B : List Sw) (Ks : List ByteArray) (X : Res) (wr : World) : Prop :=
 ∃ (Lf : List Sw) (l5 : List (Value × Value)), (∀ x ∈ Lf, x ∈ B) ∧ (l5 = [] ∨ ∃ K, l5 = CntS K ∧ K.Perm Ks) ∧
  St [] w wr [Rs.map rm isStr l5] [itQ rk B (rawR (rowsS Lf)) it, X]
section
variable {P : Program} {o : Oper} {a : Act} {w : World} {K : Act → World → Prop} {Q : Exit → Act → World → Prop} {V : Value → Prop} {r s : Nat} {l : List (Value × Value)} {T kT eT : TypeId} {kv vv z : Value}
variable {S : List Nat} {w0 : World} {M R : List Res}
theorem up_lk {f : Value → World → Result Next} (hf : ∀ u w', f u w' = .ok (.value u) w') (K0 : KeyT P kT V) (hT : P.underlying T = some (.map kT eT)) (h : MapAt w V r l) (hin : (kv, vv) ∈ l)
 (hK : K (a.put o.dst vv) w) : Oper.upon P o a K Q ((Sem.run P (Instr.lookup T (.map (some r)) kv false) w).andThen f) := by
 have := map_lookup_hit h K0 hT hin false
 rw [this, Result.andThen_ok, hf]
 exact hK
theorem up_lkN {f : Value → World → Result Next} (hf : ∀ u w', f u w' = .ok (.value u) w') (K0 : KeyT P kT V) (hT : P.underlying T = some (.map kT eT)) (h : MapAt w V r l) (hV : V kv) (hno : ∀ v, (kv, v) ∉ l) (hz : (zeroValue eT).run P w = .ok vv w)
 (hK : K (a.put o.dst vv) w) : Oper.upon P o a K Q ((Sem.run P (Instr.lookup T (.map (some r)) kv false) w).andThen f) := by
 have := map_lookup_miss h K0 hT hV hno hz false
 rw [this, Result.andThen_ok, hf]
 exact hK
theorem up_mentN (i : Nat) {f : Value → World → Result Next} (hf : ∀ u w', f u w' = .ok (.value u) w') (K0 : KeyT P kT V) (hT : P.underlying T = some (.map kT eT)) (hst : St S w0 w M R) (hi : M[i]? = some (Rs.map r V l)) (hV : V kv) (hno : ∀ v, (kv, v) ∉ l) (hz : (zeroValue eT).run P w = .ok z w)
 (hK : ∀ s w', St S w0 w' (M.set i (Rs.map r V (l ++ [(kv, z)]))) R → StampAt w' r kv s → K (a.put o.dst (.tuple #[z, .int .i64 (s : Nat)])) w') : Oper.upon P o a K Q ((Sem.run P (Instr.mapEntry T (.map (some r)) kv) w).andThen f) := by
 obtain ⟨w', s, hrun, h1, h2, h3, h4⟩ := map_mentry_miss (hst.m i hi) K0 hT hV hno hz
 rw [hrun, Result.andThen_ok, hf]
 exact hK s w' (hst.set i hi h3 (by simp [Rs.map]) h1 (fun g hg => .inl hg)) h2
theorem up_estore (i : Nat) {f : Unit → World → Result Next} (hf : ∀ u w', f u w' = .ok .skip w') (hst : St S w0 w M R) (hi : M[i]? = some (Rs.map r V l)) (hs : StampAt w r kv s)
 (hK : ∀ w', St S w0 w' (M.set i (Rs.map r V (putE l kv vv))) R → K (a.put o.dst undef) w') : Oper.upon P o a K Q ((Sem.run P (Instr.entryStore T (.map (some r)) (.int .i64 (s : Nat)) vv) w).andThen f) := by
 obtain ⟨w', hrun, h1, h2, h3⟩ := map_estore (P := P) (T := T) (hst.m i hi) hs vv
 rw [hrun, Result.andThen_ok, hf]
 exact hK w' (hst.set i hi h2 (by simp [Rs.map]) h1 (fun g hg => .inl hg))
end
theorem cntT_nodup {L : List TP} (h : L.Nodup) : ((CntT L).map (·.1)).Nodup := by
 have e : (CntT L).map (·.1) = L.map tpV := by simp [CntT]
 rw [e]
 exact List.nodup_iff_pairwise_ne.2 ((List.nodup_iff_pairwise_ne.1 h).map tpV (fun a b h1 h2 => h1 (tpV_inj h2)))
theorem put_zero {L : List TP} {p : TP} (hp : p ∉ L) (h : L.Nodup) : putE (CntT L ++ [(tpV p, .int .i64 0)]) (tpV p) (.int .i64 1) = CntT (L ++ [p]) := by
 rw [putE_hit (l2 := []), ← cntT_snoc]
 have h1 := cntT_nodup (L := L ++ [p]) (by rw [List.nodup_append]; exact ⟨h, by simp, fun a ha b hb => by simp at hb; subst hb; exact fun e => hp (e ▸ ha)⟩)
 simpa [CntT] using h1
theorem StampAt.drew {w : World} {r s : Nat} {k : Value} (h : StampAt w r k s) : StampAt w.drew r k s := h
abbrev itP (rp : Nat) (Pp : List Rw) (lf : List (Value × Value)) (it : Nat) : Res := Rs.it (Rs.cur rp Pp) rp (rawR (rowsT Pp)) lf it (cur_foot rp Pp)
def ID2 (w : World) (rp it rm : Nat) (Pp : List Rw) (Ps : List TP) (wr : World) : Prop :=
 ∃ (Lf : List Rw) (l5 : List (Value × Value)), (∀ x ∈ Lf, x ∈ Pp) ∧ (l5 = [] ∨ ∃ K, l5 = CntT K ∧ K.Perm Ps) ∧
  St [] w wr [Rs.map rm isTp l5] [itP rp Pp (rawR (rowsT Lf)) it]
theorem identical_true (rk rp n np : Nat) (B : List Sw) (Pp : List Rw) (Ks : List ByteArray) (Ps : List TP) (w : World) (how : Ow w [Rs.p2c rk B, Rs.cur rp Pp]) (hB : IdOk n B Ks) (hP : ∀ x ∈ Pp, x.2.2.Perm Ps) (hPn : Ps.Nodup) (hPl : Ps.length = np) (hP0 : 0 < np) (hP1 : np ≤ 1000) :
 Calls Tryz.prog 238 #[.map (some rk), .map (some rp)] w fun e w' => e = .returned (.bool true) ∧ Kept [] w w' := by
 have hst0 : St [] w w [] [Rs.p2c rk B, Rs.cur rp Pp] := St.start0 how
 have hn0 := hB.pos
 have hn1 := hB.small
 have hl0 := hB.len
 have hPP := Zan hP (Zan hPn hPl)
 have HB := Zhd hB; clear hB hl0
 have HPP := Zhd hPP; clear hPP hP hPn hPl how
 go_enter Tryz.func238, Tryz.ntmps238
 go_wp2_with (first
  | (refine wl_mkmap (V := isStr) rfl rfl hst0 ?_
     intro rm w1 hst1 hrm)
  | (refine wl_rngR 0 rfl rfl rfl Tryz.underlying382 hst1 rfl (cur_footS rk B) (show RowsAt _ isTp rk 9 1 (rowsS B) from hst1.r 0 rfl).map ?_
     intro it w2 hst2 hit)
  | fail)
 simp only [Zs0] at hst2
 have hfit : w.heap.size ≤ it := by have := hst1.size; omega
 have HFIT := Zhd hfit; clear hfit hit hrm hst1 hst0
 have h10 : ID1 w rk it rm B Ks (Rs.cur rp Pp) w2 := ⟨B, [], fun x h => h, .inl rfl, hst2⟩
 have H10 := Zhd h10; clear h10 hst2
 try go_frame
 go_loopw [7] (fun _ wr => ID1 w rk it rm B Ks (Rs.cur rp Pp) wr) (fun _ wr => leftOf wr it rk)
 case atStart => exact H10.out
 case round =>
  obtain ⟨Lf, l5, hLf, hl5, hst⟩ := hrel
  by_cases hlf : rawR (rowsS Lf) = []
  · have h0 := rawS_nil hlf
    subst h0
    have hit0 : IterAt wr it rk (rawR (rowsS B)) [] := (hst.r 0 rfl).2.1
    have hst1 := (hst.drop 0).dropR 0
    simp only [Ze0] at hst1
    clear hl5 hLf
    go_wp2_with (first
     | (refine wl_nx0 rfl rfl rfl hit0 ?_)
     | (refine wl_mkmap (V := isTp) rfl rfl hst1 ?_
        intro rm' w3 hst3 hrm')
     | (refine wl_rngR 0 rfl rfl rfl Tryz.underlying378 hst3 rfl (cur_foot rp Pp) (show RowsAt _ isStr rp 384 2 (rowsT Pp) from hst3.r 0 rfl).map ?_
        intro it' w4 hst4 hit')
     | fail)
    simp only [Zs0] at hst4
    have hfit' : w.heap.size ≤ it' := by have := hst3.size; omega
    have HFIT' := Zhd hfit'; clear hfit' hit' hrm' hst3 hst1 hst
    have h20 : ID2 w rp it' rm' Pp Ps w4 := ⟨Pp, [], fun x h => h, .inl rfl, hst4⟩
    have H20 := Zhd h20; clear h20 hst4 hit0
    try go_frame
    go_loopw [17] (fun _ wr => ID2 w rp it' rm' Pp Ps wr) (fun _ wr => leftOf wr it' rp)
    case atStart => exact H20.out
    case round =>
     obtain ⟨Lf, l5, hLf, hl5, hst⟩ := hrel
     by_cases hlf : rawR (rowsT Lf) = []
     · have h0 := rawR_nil hlf
       subst h0
       have hit0 : IterAt wr it' rp (rawR (rowsT Pp)) [] := (hst.r 0 rfl).2.1
       have hkf := hst.kept
       go_wp2_with (first | (refine wl_nx0 rfl rfl rfl hit0 ?_) | fail)
       go_ret
       exact ⟨rfl, hkf⟩
     · obtain ⟨wB, rfl⟩ : ∃ wB, wB = wr := ⟨_, rfl⟩
       have HL := Zhd (Zan hLf hl5); clear hLf
       go_upto_region 28 with (first
        | (refine wl_nx1R 0 (cur_foot rp Pp) rfl rfl rfl hst rfl hlf HFIT'.out ?_
           intro k v l1 l2 w3 hsp hst2 hent
           simp only [Zs0] at hst2
           obtain ⟨L1, x, L2, rfl, rfl, rfl, rfl, rfl⟩ := rawR_split hsp
           obtain ⟨m, pv, qs⟩ := x
           have hxP := HL.out.1 (m, pv, qs) (by simp)
           obtain ⟨hrow, pa, pc, hpv⟩ := cur_row (show RowsAt w3 isStr rp 384 2 (rowsT Pp) from (hst2.r 0 rfl).1) hxP
           have hqp := HPP.out.1 _ hxP
           simp only at hpv hqp hrow
           have hql : qs.length = np := by rw [hqp.length_eq]; exact HPP.out.2.2
           rw [hql] at hpv hrow
           subst hpv
           obtain ⟨g, c, ev⟩ := own_some hrow hP0
           cases ev
           have hnd : qs.Nodup := hqp.nodup_iff.2 HPP.out.2.1
           have HSP := Zhd (Zan hsp (Zan hxP (Zan hqp (Zan hnd hql)))); clear hsp hqp hnd hql hrow hxP)
        | (refine wl_entry rfl rfl rfl hent ?_)
        | fail)
       clear hent
       have hend : ∀ K w4, K.Perm Ps → St [] w w4 [Rs.map rm' isTp (CntT K)] [itP rp Pp (rawR (rowsT L1) ++ rawR (rowsT L2)) it'] → ID2 w rp it' rm' Pp Ps w4 ∧ leftOf w4 it' rp < leftOf wB it' rp := fun K w4 hK h4 => by
        have e : rawR (rowsT L1) ++ rawR (rowsT L2) = rawR (rowsT (L1 ++ L2)) := by rw [rowsT_append, rawR_append]
        simp only [e] at h4
        refine ⟨⟨L1 ++ L2, CntT K, fun y hy => HL.out.1 y (by rcases Zap.1 hy with h | h <;> simp [h]), .inr ⟨K, rfl, hK⟩, h4⟩, ?_⟩
        have h1 : IterAt w4 it' rp (rawR (rowsT Pp)) (rawR (rowsT (L1 ++ L2))) := (h4.r 0 rfl).2.1
        have h2 : IterAt wB it' rp (rawR (rowsT Pp)) _ := (hst.r 0 rfl).2.1
        rw [h1.leftOf, h2.leftOf, HSP.out.1, ← e]
        simp
       have HE := Zhd hend; clear hend
       by_cases h5 : l5 = []
       · subst h5
         go_wp2_with (first
          | (refine wl_len rfl rfl rfl Tryz.underlying445 (show MapAt _ isTp rm' [] from hst2.m 0 rfl) ?_)
          | fail)
         go_loopw [87] (fun i wr => ∃ k : Nat, i = .int .i64 k ∧ k ≤ np ∧ St [] w wr [Rs.map rm' isTp (CntT (qs.take k))] [itP rp Pp (rawR (rowsT L1) ++ rawR (rowsT L2)) it']) (fun i _ => np - (intOf i).toNat)
         case atStart => exact ⟨0, rfl, Nat.zero_le _, hst2⟩
         case round =>
          obtain ⟨k, rfl, hk, hst3⟩ := hrel
          by_cases hkn : k < np
          · obtain ⟨p, hks⟩ : ∃ p, qs[k]? = some p := ⟨_, List.getElem?_eq_getElem (by rw [HSP.out.2.2.2.2]; exact hkn)⟩
            obtain ⟨hrow, _⟩ := cur_row (show RowsAt wr isStr rp 384 2 (rowsT Pp) from (hst3.r 0 rfl).1) HSP.out.2.1
            simp only [HSP.out.2.2.2.2] at hrow
            obtain ⟨g1, g2⟩ := tp_get hks
            have c1 := (own_cell hrow g1).1
            have c2 := (own_cell hrow g2).1
            have hmi := cntT_miss (take_new HSP.out.2.2.2.1 hks)
            have hts := take_snoc hks
            have hpz := put_zero (take_new HSP.out.2.2.2.1 hks) (HSP.out.2.2.2.1.sublist (List.take_sublist k qs))
            rw [← hts] at hpz
            have HM := Zhd (Zan hmi (Zan hts hpz)); clear hmi hts hks g1 g2 hpz
            have hki : (k : Int) < (np : Int) := by omega
            go_wp2
            have hstB := (hst3.blk (.cells #[.string p.1, .int .i32 p.2] 384)).drew
            have b0 := hstB.cell2 0 rfl
            have hmB : MapAt _ isTp rm' (CntT (qs.take k)) := hstB.m 1 rfl
            have HSB := Zhd hstB; clear hstB hst3 c1 c2 hrow
            have hK0 := keyT_tp
            have hi0 : ∀ X : Res, [X, Rs.map rm' isTp (CntT (qs.take k))][1]? = some (Rs.map rm' isTp (CntT (qs.take k))) := fun _ => rfl
            have hi1 : ∀ X : Res, [X, Rs.map rm' isTp (CntT (qs.take k) ++ [(tpV p, .int .i64 0)])][1]? = some (Rs.map rm' isTp (CntT (qs.take k) ++ [(tpV p, .int .i64 0)])) := fun _ => rfl
            have hvp : isTp (tpV p) := ⟨_, _, rfl⟩
            have hin : (tpV p, Value.int .i64 0) ∈ CntT (qs.take k) ++ [(tpV p, .int .i64 0)] := by simp
            go_region_held3 (fun w' => w'.cell? ⟨wr.heap.size, 0, none⟩ = some (.string p.1) ∧ w'.cell? ⟨wr.heap.size, 1, none⟩ = some (.int .i32 p.2))
             (first | exact b0 | exact b3 | exact b4)
             (first
               | (with_reducible refine up_lk (fun _ _ => rfl) hK0 Tryz.underlying445 hmC hin ?_)
               | (with_reducible refine up_lkN (fun _ _ => rfl) hK0 Tryz.underlying445 hmB hvp HM.out.1 (Tryz.zeroValue3 _) ?_)
               | (with_reducible refine up_mentN 1 (fun _ _ => rfl) hK0 Tryz.underlying445 HSB.out (hi0 _) hvp HM.out.1 (Tryz.zeroValue3 _) ?_
                  intro s w5 hst5 hs5
                  simp only [Zs0, Zs1] at hst5
                  have b3 := hst5.cell2 0 rfl
                  have hmC : MapAt w5 isTp rm' (CntT (qs.take k) ++ [(tpV p, .int .i64 0)]) := hst5.m 1 rfl)
               | (with_reducible refine up_estore 1 (fun _ _ => rfl) hst5 (hi1 _) hs5 ?_
                  intro w6 hst6
                  simp only [Zs0, Zs1] at hst6
                  have b4 := hst6.cell2 0 rfl)
               | fail)
            all_goals
             have hst7 := hst6.drop 0
             simp only [Ze0, show IntKind.i64.wrap 1 = 1 from rfl] at hst7
             rw [HM.out.2.2] at hst7
             clear hst6 hst5 hs5 hmB hmC hi0 hi1 HSB b0 b3 b4 hin hK0
             go_wp2_with fail
             exact ⟨⟨k + 1, by go_num, by omega, hst7⟩, by simp [intOf]; omega⟩
          · obtain rfl : k = np := by omega
            rw [List.take_of_length_le (by rw [HSP.out.2.2.2.2]; exact Nat.le_refl _)] at hst3
            have hE := HE.out qs wr HSP.out.2.2.1 hst3
            have HEE := Zhd hE; clear hE hst3
            go_wp2_with fail
            exact HEE.out
       · obtain ⟨K, rfl, hK⟩ : ∃ K, l5 = CntT K ∧ K.Perm Ps := by
          rcases HL.out.2 with h | h
          · exact absurd h h5
          · exact h
         have hKn : (CntT K).length = np := by simp only [CntT, List.length_map]; rw [hK.length_eq]; exact HPP.out.2.2
         have hlen := fun w' (h : MapAt w' isTp rm' (CntT K)) => map_len (P := Tryz.prog) h Tryz.underlying445 3
         rw [hKn] at hlen
         have hl1 := hlen w3 (hst2.m 0 rfl)
         have hb0 : ((np : Int) == 0) = false := by simp; omega
         have HK := Zhd (Zan hK (Zan hKn h5)); clear hK hKn h5 hlen hl5
         go_wp2_with (first
          | (refine wl_mkmap (V := isTp) rfl rfl hst2 ?_
             intro rm2 w4 hst4 hrm2)
          | fail)
         have H4 := Zhd hst4
         clear hl1 hb0 hst2 hrm2
         go_loopw [106] (fun i wr => ∃ k : Nat, i = .int .i64 k ∧ k ≤ np ∧ St [] w wr [Rs.map rm2 isTp (CntT (qs.take k)), Rs.map rm' isTp (CntT K)] [itP rp Pp (rawR (rowsT L1) ++ rawR (rowsT L2)) it']) (fun i _ => np - (intOf i).toNat)
         case atStart => exact ⟨0, rfl, Nat.zero_le _, H4.out⟩
         case round =>
          obtain ⟨k, rfl, hk, hst3⟩ := hrel
          clear hst4 H4
          by_cases hkn : k < np
          · obtain ⟨p, hks⟩ : ∃ p, qs[k]? = some p := ⟨_, List.getElem?_eq_getElem (by rw [HSP.out.2.2.2.2]; exact hkn)⟩
            obtain ⟨hrow, _⟩ := cur_row (show RowsAt wr isStr rp 384 2 (rowsT Pp) from (hst3.r 0 rfl).1) HSP.out.2.1
            simp only [HSP.out.2.2.2.2] at hrow
            obtain ⟨g1, g2⟩ := tp_get hks
            have c1 := (own_cell hrow g1).1
            have c2 := (own_cell hrow g2).1
            have hmi := cntT_miss (take_new HSP.out.2.2.2.1 hks)
            have hts := take_snoc hks
            have hpz := put_zero (take_new HSP.out.2.2.2.1 hks) (HSP.out.2.2.2.1.sublist (List.take_sublist k qs))
            rw [← hts] at hpz
            have HM := Zhd (Zan hmi (Zan hts hpz)); clear hmi hts hks g1 g2 hpz
            have hki : (k : Int) < (np : Int) := by omega
            go_wp2
            have hstB := (hst3.blk (.cells #[.string p.1, .int .i32 p.2] 384)).drew
            have b0 := hstB.cell2 0 rfl
            have hmB : MapAt _ isTp rm2 (CntT (qs.take k)) := hstB.m 1 rfl
            have HSB := Zhd hstB; clear hstB hst3 c1 c2 hrow
            have hK0 := keyT_tp
            have hi0 : ∀ X : Res, [X, Rs.map rm2 isTp (CntT (qs.take k)), Rs.map rm' isTp (CntT K)][1]? = some (Rs.map rm2 isTp (CntT (qs.take k))) := fun _ => rfl
            have hi1 : ∀ X : Res, [X, Rs.map rm2 isTp (CntT (qs.take k) ++ [(tpV p, .int .i64 0)]), Rs.map rm' isTp (CntT K)][1]? = some (Rs.map rm2 isTp (CntT (qs.take k) ++ [(tpV p, .int .i64 0)])) := fun _ => rfl
            have hvp : isTp (tpV p) := ⟨_, _, rfl⟩
            have hin : (tpV p, Value.int .i64 0) ∈ CntT (qs.take k) ++ [(tpV p, .int .i64 0)] := by simp
            go_region_held3 (fun w' => w'.cell? ⟨wr.heap.size, 0, none⟩ = some (.string p.1) ∧ w'.cell? ⟨wr.heap.size, 1, none⟩ = some (.int .i32 p.2))
             (first | exact b0 | exact b3 | exact b4)
             (first
               | (with_reducible refine up_lk (fun _ _ => rfl) hK0 Tryz.underlying445 hmC hin ?_)
               | (with_reducible refine up_lkN (fun _ _ => rfl) hK0 Tryz.underlying445 hmB hvp HM.out.1 (Tryz.zeroValue3 _) ?_)
               | (with_reducible refine up_mentN 1 (fun _ _ => rfl) hK0 Tryz.underlying445 HSB.out (hi0 _) hvp HM.out.1 (Tryz.zeroValue3 _) ?_
                  intro s w5 hst5 hs5
                  simp only [Zs0, Zs1] at hst5
                  have b3 := hst5.cell2 0 rfl
                  have hmC : MapAt w5 isTp rm2 (CntT (qs.take k) ++ [(tpV p, .int .i64 0)]) := hst5.m 1 rfl)
               | (with_reducible refine up_estore 1 (fun _ _ => rfl) hst5 (hi1 _) hs5 ?_
                  intro w6 hst6
                  simp only [Zs0, Zs1] at hst6
                  have b4 := hst6.cell2 0 rfl)
               | fail)
            all_goals
             have hst7 := hst6.drop 0
             simp only [Ze0, show IntKind.i64.wrap 1 = 1 from rfl] at hst7
             rw [HM.out.2.2] at hst7
             clear hst6 hst5 hs5 hmB hmC hi0 hi1 HSB b0 b3 b4 hin hK0
             go_wp2_with fail
             exact ⟨⟨k + 1, by go_num, by omega, hst7⟩, by simp [intOf]; omega⟩
          · obtain rfl : k = np := by omega
            rw [List.take_of_length_le (by rw [HSP.out.2.2.2.2]; exact Nat.le_refl _)] at hst3
            go_wp2_with (first
             | (refine wl_rng 1 rfl rfl rfl Tryz.underlying445 hst3 rfl (by simp [Rs.map]) (show MapAt _ isTp rm' _ from hst3.m 1 rfl) ?_
                intro it3 w5 hst5 hit3)
             | fail)
            simp only [Zs0, Zs1] at hst5
            clear hst3 hit3
            try go_frame
            have H5 := Zhd hst5; clear hst5
            go_loopw [23] (fun _ wr => ∃ lf, (∀ p ∈ lf, p ∈ CntT K) ∧ St [] w wr [Rs.map rm2 isTp (CntT qs), Rs.it (Rs.map rm' isTp (CntT K)) rm' (CntT K) lf it3 (by simp [Rs.map])] [itP rp Pp (rawR (rowsT L1) ++ rawR (rowsT L2)) it']) (fun _ wr => leftOf wr it3 rm')
            case atStart => exact ⟨CntT K, fun p h => h, H5.out⟩
            case round =>
             obtain ⟨lf, hlf3, hst3⟩ := hrel
             clear H5
             by_cases hlf4 : lf = []
             · subst hlf4
               have hit0 : IterAt wr it3 rm' (CntT K) [] := (hst3.m 1 rfl).2.1
               have hst6 := ((hst3.weak 1 rfl (X' := Rs.map rm' isTp (CntT K)) (fun h => h.1) (fun g hg => List.mem_append_left [it3] hg)).drop 0)
               simp only [Zs0, Zs1, Ze0] at hst6
               have hE := HE.out K wr HK.out.1 hst6
               have HEE := Zhd hE; clear hE hst6
               go_wp2_with (first | (refine wl_nx0 rfl rfl rfl hit0 ?_) | fail)
               exact HEE.out
             · obtain ⟨wC, rfl⟩ : ∃ wC, wC = wr := ⟨_, rfl⟩
               go_wp2_with (first
                | (refine wl_nx1 1 (by simp [Rs.map]) rfl rfl rfl hst3 rfl hlf4 ?_
                   intro kx vx l1 l2 w6 hsp2 hst6 hent2
                   simp only [Zs0, Zs1] at hst6
                   obtain ⟨s, hs, hse⟩ := List.mem_map.1 (hlf3 (kx, vx) (by rw [hsp2]; simp))
                   rw [Prod.mk.injEq] at hse
                   obtain ⟨rfl, rfl⟩ := hse
                   have hsn : (tpV s, Value.int .i64 1) ∈ CntT qs := List.mem_map.2 ⟨s, HSP.out.2.2.1.mem_iff.2 (HK.out.1.mem_iff.1 hs), rfl⟩
                   have HS2 := Zhd hsp2; clear hsp2)
                | (refine wl_entry rfl rfl rfl hent2 ?_)
                | (refine wl_lk rfl rfl rfl rfl keyT_tp Tryz.underlying445 (show MapAt _ isTp rm2 _ from (hst6.alloc _).m 0 rfl) hsn ?_)
                | fail)
               refine ⟨⟨l1 ++ l2, fun q hq => hlf3 q (by rw [HS2.out]; rcases Zap.1 hq with h | h <;> simp [h]), hst6.alloc _⟩, ?_⟩
               rw [((hst6.alloc _).m 1 rfl).2.1.leftOf, (hst3.m 1 rfl).2.1.leftOf, HS2.out]
               simp
  · obtain ⟨wB, rfl⟩ : ∃ wB, wB = wr := ⟨_, rfl⟩
    have HL := Zhd (Zan hLf hl5); clear hLf
    go_upto_region 5 with (first
     | (refine wl_nx1R 0 (cur_footS rk B) rfl rfl rfl hst rfl hlf HFIT.out ?_
        intro k v l1 l2 w3 hsp hst2 hent
        simp only [Zs0] at hst2
        obtain ⟨L1, x, L2, rfl, rfl, rfl, rfl, rfl⟩ := rawS_split hsp
        obtain ⟨p, pv, nm⟩ := x
        have hxB := HL.out.1 (p, pv, nm) (by simp)
        obtain ⟨hrow, pa, pc, hpv⟩ := p2c_row (show RowsAt w3 isTp rk 9 1 (rowsS B) from (hst2.r 0 rfl).1) hxB
        have hnm := HB.out.rows _ hxB
        simp only at hpv hnm hrow
        have hnl : nm.length = n := by rw [hnm.length_eq]; exact HB.out.len
        rw [hnl] at hpv hrow
        subst hpv
        obtain ⟨g, c, ev⟩ := own_some hrow hn0
        cases ev
        have hnd : nm.Nodup := hnm.nodup_iff.2 HB.out.nd
        have HSP := Zhd (Zan hsp (Zan hxB (Zan hnm (Zan hnd hnl)))); clear hsp hnm hnd hnl hrow hxB)
     | (refine wl_entry rfl rfl rfl hent ?_)
     | fail)
    clear hent
    have hend : ∀ K w4, K.Perm Ks → St [] w w4 [Rs.map rm isStr (CntS K)] [itQ rk B (rawR (rowsS L1) ++ rawR (rowsS L2)) it, Rs.cur rp Pp] → ID1 w rk it rm B Ks (Rs.cur rp Pp) w4 ∧ leftOf w4 it rk < leftOf wB it rk := fun K w4 hK h4 => by
     have e : rawR (rowsS L1) ++ rawR (rowsS L2) = rawR (rowsS (L1 ++ L2)) := by rw [rowsS_append, rawR_append]
     simp only [e] at h4
     refine ⟨⟨L1 ++ L2, CntS K, fun y hy => HL.out.1 y (by rcases Zap.1 hy with h | h <;> simp [h]), .inr ⟨K, rfl, hK⟩, h4⟩, ?_⟩
     have h1 : IterAt w4 it rk (rawR (rowsS B)) (rawR (rowsS (L1 ++ L2))) := (h4.r 0 rfl).2.1
     have h2 : IterAt wB it rk (rawR (rowsS B)) _ := (hst.r 0 rfl).2.1
     rw [h1.leftOf, h2.leftOf, HSP.out.1, ← e]
     simp
    have HE := Zhd hend; clear hend
    by_cases h5 : l5 = []
    · subst h5
      go_wp2_with (first
       | (refine wl_len rfl rfl rfl Tryz.underlying444 (show MapAt _ isStr rm [] from hst2.m 0 rfl) ?_)
       | fail)
      go_loopw [37] (fun i wr => ∃ k : Nat, i = .int .i64 k ∧ k ≤ n ∧ St [] w wr [Rs.map rm isStr (CntS (nm.take k))] [itQ rk B (rawR (rowsS L1) ++ rawR (rowsS L2)) it, Rs.cur rp Pp]) (fun i _ => n - (intOf i).toNat)
      case atStart => exact ⟨0, rfl, Nat.zero_le _, hst2⟩
      case round =>
       obtain ⟨k, rfl, hk, hst3⟩ := hrel
       by_cases hkn : k < n
       · obtain ⟨s, hks⟩ : ∃ s, nm[k]? = some s := ⟨_, List.getElem?_eq_getElem (by rw [HSP.out.2.2.2.2]; exact hkn)⟩
         obtain ⟨hrow, _⟩ := p2c_row (show RowsAt wr isTp rk 9 1 (rowsS B) from (hst3.r 0 rfl).1) HSP.out.2.1
         simp only [HSP.out.2.2.2.2] at hrow
         have cs := (own_cell hrow (strs_get hks)).1
         have hmi := cntS_miss (take_new HSP.out.2.2.2.1 hks)
         have hts := take_snoc hks
         have HM := Zhd (Zan hmi hts); clear hmi hts hks
         have hki : (k : Int) < (n : Int) := by omega
         go_wp2_with (first
          | (refine wl_lkN (vv := .int .i64 0) rfl rfl rfl rfl (keyT_str Tryz.underlying9) Tryz.underlying444 (show MapAt _ isStr rm _ from hst3.m 0 rfl) ⟨_, rfl⟩ HM.out.1 (Tryz.zeroValue3 _) ?_)
          | (refine wl_upd (kv := .string s) (vv := .int .i64 1) 0 rfl rfl rfl rfl rfl (keyT_str Tryz.underlying9) Tryz.underlying444 hst3 rfl ⟨_, rfl⟩ ?_
             intro w4 hst4
             simp only [Zs0] at hst4
             rw [putE_miss HM.out.1, cntS_snoc, ← HM.out.2] at hst4)
          | fail)
         exact ⟨⟨k + 1, by go_num, by omega, hst4⟩, by simp [intOf]; omega⟩
       · obtain rfl : k = n := by omega
         rw [List.take_of_length_le (by rw [HSP.out.2.2.2.2]; exact Nat.le_refl _)] at hst3
         have hE := HE.out nm wr HSP.out.2.2.1 hst3
         have HEE := Zhd hE; clear hE hst3
         go_wp2_with fail
         exact HEE.out
    · obtain ⟨K, rfl, hK⟩ : ∃ K, l5 = CntS K ∧ K.Perm Ks := by
       rcases HL.out.2 with h | h
       · exact absurd h h5
       · exact h
      have hKn : (CntS K).length = n := by simp only [CntS, List.length_map]; rw [hK.length_eq]; exact HB.out.len
      have hlen := fun w' (h : MapAt w' isStr rm (CntS K)) => map_len (P := Tryz.prog) h Tryz.underlying444 3
      rw [hKn] at hlen
      have hl1 := hlen w3 (hst2.m 0 rfl)
      have hb0 : ((n : Int) == 0) = false := by simp; omega
      have HK := Zhd (Zan hK (Zan hKn h5)); clear hK hKn h5 hlen hl5
      go_wp2_with (first
       | (refine wl_mkmap (V := isStr) rfl rfl hst2 ?_
          intro rm2 w4 hst4 hrm2)
       | fail)
      have H4 := Zhd hst4
      clear hl1 hb0 hst2 hrm2
      go_loopw [54] (fun i wr => ∃ k : Nat, i = .int .i64 k ∧ k ≤ n ∧ St [] w wr [Rs.map rm2 isStr (CntS (nm.take k)), Rs.map rm isStr (CntS K)] [itQ rk B (rawR (rowsS L1) ++ rawR (rowsS L2)) it, Rs.cur rp Pp]) (fun i _ => n - (intOf i).toNat)
      case atStart => exact ⟨0, rfl, Nat.zero_le _, H4.out⟩
      case round =>
       obtain ⟨k, rfl, hk, hst3⟩ := hrel
       clear hst4 H4
       by_cases hkn : k < n
       · obtain ⟨s, hks⟩ : ∃ s, nm[k]? = some s := ⟨_, List.getElem?_eq_getElem (by rw [HSP.out.2.2.2.2]; exact hkn)⟩
         obtain ⟨hrow, _⟩ := p2c_row (show RowsAt wr isTp rk 9 1 (rowsS B) from (hst3.r 0 rfl).1) HSP.out.2.1
         simp only [HSP.out.2.2.2.2] at hrow
         have cs := (own_cell hrow (strs_get hks)).1
         have hmi := cntS_miss (take_new HSP.out.2.2.2.1 hks)
         have hts := take_snoc hks
         have HM := Zhd (Zan hmi hts); clear hmi hts hks
         have hki : (k : Int) < (n : Int) := by omega
         go_wp2_with (first
          | (refine wl_lkN (vv := .int .i64 0) rfl rfl rfl rfl (keyT_str Tryz.underlying9) Tryz.underlying444 (show MapAt _ isStr rm2 _ from hst3.m 0 rfl) ⟨_, rfl⟩ HM.out.1 (Tryz.zeroValue3 _) ?_)
          | (refine wl_upd (kv := .string s) (vv := .int .i64 1) 0 rfl rfl rfl rfl rfl (keyT_str Tryz.underlying9) Tryz.underlying444 hst3 rfl ⟨_, rfl⟩ ?_
             intro w5 hst5
             simp only [Zs0] at hst5
             rw [putE_miss HM.out.1, cntS_snoc, ← HM.out.2] at hst5)
          | fail)
         exact ⟨⟨k + 1, by go_num, by omega, hst5⟩, by simp [intOf]; omega⟩
       · obtain rfl : k = n := by omega
         rw [List.take_of_length_le (by rw [HSP.out.2.2.2.2]; exact Nat.le_refl _)] at hst3
         go_wp2_with (first
          | (refine wl_rng 1 rfl rfl rfl Tryz.underlying444 hst3 rfl (by simp [Rs.map]) (show MapAt _ isStr rm _ from hst3.m 1 rfl) ?_
             intro it3 w5 hst5 hit3)
          | fail)
         simp only [Zs0, Zs1] at hst5
         clear hst3 hit3
         try go_frame
         have H5 := Zhd hst5; clear hst5
         go_loopw [13] (fun _ wr => ∃ lf, (∀ p ∈ lf, p ∈ CntS K) ∧ St [] w wr [Rs.map rm2 isStr (CntS nm), Rs.it (Rs.map rm isStr (CntS K)) rm (CntS K) lf it3 (by simp [Rs.map])] [itQ rk B (rawR (rowsS L1) ++ rawR (rowsS L2)) it, Rs.cur rp Pp]) (fun _ wr => leftOf wr it3 rm)
         case atStart => exact ⟨CntS K, fun p h => h, H5.out⟩
         case round =>
          obtain ⟨lf, hlf3, hst3⟩ := hrel
          clear H5
          by_cases hlf4 : lf = []
          · subst hlf4
            have hit0 : IterAt wr it3 rm (CntS K) [] := (hst3.m 1 rfl).2.1
            have hst6 := ((hst3.weak 1 rfl (X' := Rs.map rm isStr (CntS K)) (fun h => h.1) (fun g hg => List.mem_append_left [it3] hg)).drop 0)
            simp only [Zs0, Zs1, Ze0] at hst6
            have hE := HE.out K wr HK.out.1 hst6
            have HEE := Zhd hE; clear hE hst6
            go_wp2_with (first | (refine wl_nx0 rfl rfl rfl hit0 ?_) | fail)
            exact HEE.out
          · obtain ⟨wC, rfl⟩ : ∃ wC, wC = wr := ⟨_, rfl⟩
            go_wp2_with (first
             | (refine wl_nx1 1 (by simp [Rs.map]) rfl rfl rfl hst3 rfl hlf4 ?_
                intro kx vx l1 l2 w6 hsp2 hst6 hent2
                simp only [Zs0, Zs1] at hst6
                obtain ⟨s, hs, hse⟩ := List.mem_map.1 (hlf3 (kx, vx) (by rw [hsp2]; simp))
                rw [Prod.mk.injEq] at hse
                obtain ⟨rfl, rfl⟩ := hse
                have hsn : (Value.string s, Value.int .i64 1) ∈ CntS nm := List.mem_map.2 ⟨s, HSP.out.2.2.1.mem_iff.2 (HK.out.1.mem_iff.1 hs), rfl⟩
                have HS2 := Zhd hsp2; clear hsp2)
             | (refine wl_entry rfl rfl rfl hent2 ?_)
             | (refine wl_lk rfl rfl rfl rfl (keyT_str Tryz.underlying9) Tryz.underlying444 (show MapAt _ isStr rm2 _ from hst6.m 0 rfl) hsn ?_)
             | fail)
            refine ⟨⟨l1 ++ l2, fun q hq => hlf3 q (by rw [HS2.out]; rcases Zap.1 hq with h | h <;> simp [h]), hst6⟩, ?_⟩
            rw [(hst6.m 1 rfl).2.1.leftOf, (hst3.m 1 rfl).2.1.leftOf, HS2.out]
            simp
end
end Go.Proofs.YticcnlpfmekagaaGreat
