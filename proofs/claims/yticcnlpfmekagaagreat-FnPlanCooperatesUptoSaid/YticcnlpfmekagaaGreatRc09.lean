/- Part 9 of the proof of the row: TpKey, Can, Can2, Swap, Less, Zz, Strat, Data, Data2, Fits, Part. -/
import Derived.Test.YticcnlpfmekagaaGreatRc00
import Derived.Test.YticcnlpfmekagaaGreatRc08
import Derived.Test.YticcnlpfmekagaaGreatRc04
import Derived.Test.YticcnlpfmekagaaGreatRc06
import Derived.Deep.QuietTactic
import Derived.RegionTactic
import Derived.Test.YticcnlpfmekagaaGreatRc05
import Derived.Stop.Asserts
set_option linter.unusedVariables false
set_option linter.unusedSimpArgs false
set_option maxRecDepth 100000
set_option maxHeartbeats 8000000
namespace Go.Proofs.YticcnlpfmekagaaGreat
section
open Go Go.Proofs Go.RowKit Go.Lib
open Classical
theorem tp_und : Tryz.prog.underlying 384 = some (.struct (Tryz.prog.fieldsOf 384)) := by kernel_rfl
theorem ba_inj (s t : ByteArray) : (s.toList = t.toList) ↔ s = t := by
 constructor
 · intro h
   rw [ByteArray.toList_eq, ByteArray.toList_eq] at h
   have h' := Array.toList_inj.1 h
   obtain ⟨s⟩ := s
   obtain ⟨t⟩ := t
   simp only at h'
   rw [h']
 · intro h; rw [h]
theorem equal_tp (a b : Value) (w : World) (ha : isTp a) (hb : isTp b) : (Op.equal 384 a b).run Tryz.prog w = .ok (decide (a = b)) w := by
 obtain ⟨s, n, rfl⟩ := ha
 obtain ⟨t, m, rfl⟩ := hb
 have u3 := Tryz.underlying3
 have hp : Tryz.prog.stoodInHeld 384 = false := by kernel_rfl
 unfold Op.equal
 rw [show Op.maxDepth = 9999 + 1 from rfl, run_equalIn_agg w 9999 384 _ _ tp_und hp]
 simp only [Program.fieldsOf, Tryz.underlying384]
 go_simp
 have hst := ba_inj s t
 by_cases h1 : s = t <;> by_cases h2 : n = m <;> simp [h1, h2, hst, ba_beq]
theorem check_tp (k : Value) (em : Bool) (w : World) (hk : isTp k) : (Instr.checkKey em 10000 384 k).run Tryz.prog w = .ok () w := by
 obtain ⟨s, n, rfl⟩ := hk
 have u9 := Tryz.underlying9
 have u21 := Tryz.underlying21
 obtain ⟨m, hm⟩ : ∃ m : Nat, (10000 : Nat) = m + 1 + 1 := ⟨9998, rfl⟩
 rw [hm]
 have c9 : ∀ v, (Instr.checkKey em (m + 1) 9 v).run Tryz.prog w = .ok () w := fun v => ck_plain u9 rfl v w m
 have c21 : ∀ v, (Instr.checkKey em (m + 1) 21 v).run Tryz.prog w = .ok () w := fun v => ck_plain u21 rfl v w m
 rw [Instr.checkKey]
 simp only [Sem.run_bind, run_underlying tp_und, Result.andThen_ok]
 simp only [Program.fieldsOf, Tryz.underlying384]
 go_simp
theorem keyT_tp : KeyT Tryz.prog 384 isTp where
 check := fun k em w hk => check_tp k em w hk
 find := fun k es w hk hes => findKey_of tp_und (fun v ⟨s, n, h⟩ => ⟨_, h⟩) (fun a b w ha hb => equal_tp a b w ha hb) k hk w es hes
 stay := by
  rintro k w ⟨s, n, rfl⟩
  exact stay_flat w (by simp [flat])
end
section
open Go Go.Proofs Go.RowKit Go.Lib
open Classical
theorem can_tp (r : Nat) (l : List (Value × Value)) (x : TP) (a : Option Addr) (n c : Nat) (w : World) (hm : MapAt w isTp r l) (hx : (tpV x, .slice a n c) ∈ l) :
 Calls Tryz.prog 248 #[tpV x, .map (some r)] w fun e w' => e = .returned (.bool (decide (2 ≤ n))) ∧ Kept [] w w' := by
 have hl := fun o => map_lookup_hit (P := Tryz.prog) (hm.alloc o) keyT_tp Tryz.underlying382 hx false
 have hl' : ∀ o, (Instr.lookup 382 (.map (some r)) (tpV x) false).run Tryz.prog (w.alloc o) = .ok (.slice a n c) (w.alloc o) := fun o => by simpa using hl o
 have HG := Zhd (fun o => (Kept.refl [] w).alloc o)
 clear hl hx
 by_cases h2 : 2 ≤ n
 · have e2 : decide (2 ≤ n) = true := by simpa using h2
   rw [e2]; clear e2
   have h3 : (2 : Int) ≤ (n : Int) := by omega
   go_enter Tryz.func248, Tryz.ntmps248
   go_wp2
   go_ret
   exact ⟨by simp [h3], HG.out _⟩
 · have e2 : decide (2 ≤ n) = false := by simpa using h2
   rw [e2]; clear e2
   have h3 : ¬ (2 : Int) ≤ (n : Int) := by omega
   go_enter Tryz.func248, Tryz.ntmps248
   go_wp2
   go_ret
   exact ⟨by simp [h3], HG.out _⟩
end
section
open Go Go.Proofs Go.RowKit Go.Lib
open Classical
theorem tp_get {zs : List TP} {k : Nat} {x : TP} (h : zs[k]? = some x) : (zs.flatMap encTp)[k * 2]? = some (.string x.1) ∧ (zs.flatMap encTp)[k * 2 + 1]? = some (.int .i32 x.2) := by
 obtain ⟨hk, rfl⟩ := List.getElem?_eq_some_iff.1 h
 have h1 := enc_at zs k hk 0 (.string zs[k].1) (by simp [encTp, hk])
 have h2 := enc_at zs k hk 1 (.int .i32 zs[k].2) (by simp [encTp, hk])
 exact ⟨h1, h2⟩
theorem can_member (m : ByteArray) (rc rp rq : Nat) (lc lp lq : List (Value × Value)) (ac ap : Option Addr) (nc cc np cp : Nat) (zs : List TP) (B : Bool) (w : World)
 (h1 : MapAt w isStr rc lc) (h2 : MapAt w isStr rp lp) (h3 : MapAt w isTp rq lq) (e1 : (.string m, .slice ac nc cc) ∈ lc) (e2 : (.string m, .slice ap np cp) ∈ lp)
 (hs : SlAt w 2 (.slice ac nc cc) nc (zs.flatMap encTp)) (hz : zs.length = nc) (hb : nc ≤ maxLen) (hle : nc ≤ np) (hq : ∀ x ∈ zs, ∃ a n c, (tpV x, .slice a n c) ∈ lq ∧ decide (2 ≤ n) = B) :
 Calls Tryz.prog 250 #[.string m, .map (some rc), .map (some rp), .map (some rq)] w fun e w' => e = .returned (.bool (decide (nc < np) || (B && decide (0 < nc)))) ∧ Kept [] w w' := by
 have hmx : maxLen = 9223372036854775807 := rfl
 have hgt : ¬ (np : Int) < (nc : Int) := by omega
 have l1 : (Instr.lookup 378 (.map (some rc)) (.string m) false).run Tryz.prog w = .ok (.slice ac nc cc) w := by
  simpa using map_lookup_hit (P := Tryz.prog) h1 (keyT_str Tryz.underlying9) Tryz.underlying378 e1 false
 have l2 : (Instr.lookup 378 (.map (some rp)) (.string m) false).run Tryz.prog w = .ok (.slice ap np cp) w := by
  simpa using map_lookup_hit (P := Tryz.prog) h2 (keyT_str Tryz.underlying9) Tryz.underlying378 e2 false
 clear h1 h2 e1 e2
 have HQ := Zhd hq; clear hq
 have H3 := Zhd h3; clear h3
 have HS := Zhd hs; clear hs
 have HZ := Zhd hz; clear hz
 by_cases hlt : nc < np
 · have hlt' : (nc : Int) < np := by omega
   go_enter Tryz.func250, Tryz.ntmps250
   go_wp2
   go_ret
   exact ⟨by simp [hlt], Kept.refl _ _⟩
 · have hlt' : ¬ (nc : Int) < np := by omega
   go_enter Tryz.func250, Tryz.ntmps250
   go_wp2
   go_loopw [31] (fun i wr => ∃ k : Nat, k ≤ nc ∧ (k = 0 ∨ B = false) ∧ i = .int .i64 k ∧ Kept [] w wr) (fun i _ => nc - (intOf i).toNat)
   case atStart => exact ⟨0, Nat.zero_le _, .inl rfl, rfl, Kept.refl _ _⟩
   case round =>
    obtain ⟨k, hk, hkB, rfl, hkw⟩ := hrel
    have HKB := Zhd hkB; clear hkB
    by_cases hkn : k < nc
    · obtain ⟨x, hkx⟩ : ∃ x, zs[k]? = some x := ⟨_, List.getElem?_eq_getElem (by have := HZ.out; omega)⟩
      obtain ⟨g1, g2⟩ := tp_get hkx
      obtain ⟨a', n', c', hin, hB⟩ := HQ.out x (List.mem_of_getElem? hkx)
      obtain ⟨_, hcase⟩ := HS.out.cases
      rcases hcase with ⟨_, h0, _⟩ | ⟨g, off, hva, hcell⟩
      · omega
      cases hva
      have c1 := hkw.cell (p := ⟨g, off + k * 2, none⟩) (hcell _ _ g1) (by simp)
      have c2 := hkw.cell (p := ⟨g, off + (k * 2 + 1), none⟩) (hcell _ _ g2) (by simp)
      rw [← Nat.add_assoc] at c2
      have hcan := fun w' (k' : Kept [] w w') => can_tp rq lq x a' n' c' w' (H3.out.kept k' (by simp)) hin
      rw [hB] at hcan
      have HC := Zhd hcan; clear hcan
      clear hcell g1 g2 hkx hin hB
      cases B
      · go_wp2_with
         (go_at_call 248
          refine (HC.out _ (hkw.alloc _)).mono ?_
          rintro e w1 ⟨rfl, hk1⟩
          have hk2 : Kept [] w w1 := (hkw.alloc _).trans hk1 (by simp) (by simp))
        go_roundw
        case rel => exact ⟨k + 1, by omega, .inr (by trivial), by go_num, hk2⟩
        case measure => simp [intOf]; omega
      · go_wp2_with
         (go_at_call 248
          refine (HC.out _ (hkw.alloc _)).mono ?_
          rintro e w1 ⟨rfl, hk1⟩
          have hk2 : Kept [] w w1 := (hkw.alloc _).trans hk1 (by simp) (by simp))
        go_ret
        exact ⟨by simp; omega, hk2⟩
    · have hkB := HKB.out
      go_wp2
      go_ret
      refine ⟨?_, hkw⟩
      have e1 : decide (nc < np) = false := by simpa using hlt
      rw [e1]
      rcases hkB with rfl | rfl
      · have : nc = 0 := by omega
        simp [this]
      · simp
end
section
open Go Go.Proofs Go.RowKit Go.Lib
theorem swap_ids (B g off n c : Nat) (w : World) (x y : ByteArray) (i j : Nat) (hi : i < n) (hj : j < n) (hn : n < 4611686018427387904)
 (hB : w.cell? ⟨B, 0, none⟩ = some (.slice (some ⟨g, off, none⟩) n c)) (hBg : B ≠ g)
 (ci : w.cell? ⟨g, off + i, none⟩ = some (.string x)) (cj : w.cell? ⟨g, off + j, none⟩ = some (.string y)) (fi : w.frozen? ⟨g, off + i, none⟩ = false) (fj : w.frozen? ⟨g, off + j, none⟩ = false) :
 Calls Tryz.prog 245 #[.int .i64 i, .int .i64 j, .pointer (some ⟨B, 0, none⟩)] w fun e w' => e = .returned (.tuple #[]) ∧ ∃ q, w' = ((w.setCell ⟨g, off + i, none⟩ (.string y)).setCell ⟨g, off + j, none⟩ (.string x)).drewN q := by
 obtain ⟨v', hy'⟩ := cell?_setCell_some (w := w) (p := ⟨g, off + i, none⟩) (x := .string y) (q := ⟨g, off + j, none⟩) cj
 go_enter Tryz.func245, Tryz.ntmps245
 go_wp2
 go_region
 all_goals (try go_wp2)
 all_goals go_end0
 all_goals exact ⟨rfl, 1, rfl⟩
end
section
open Go Go.Proofs Go.RowKit Go.Lib
def idLt (x : ByteArray × Nat) (y : ByteArray × Nat) : Bool := if x.2 = y.2 then Op.bytesLess x.1.toList y.1.toList else decide (x.2 < y.2)
theorem drewN_two (w : World) (a b : Nat) : ∃ q, (w.drewN a).drewN b = w.drewN q := ⟨_, World.drewN_drewN ..⟩
theorem less_ids (A B g off n c r : Nat) (l : List (Value × Value)) (w : World) (x y : ByteArray) (ax ay : Option Addr) (nx ny cx cy : Nat) (i j : Nat) (hi : i < n) (hj : j < n) (hn : n < 4611686018427387904)
 (hx : nx ≤ 1000000000) (hy : ny ≤ 1000000000)
 (hA : w.cell? ⟨A, 0, none⟩ = some (.map (some r)))
 (hB : w.cell? ⟨B, 0, none⟩ = some (.slice (some ⟨g, off, none⟩) n c))
 (ci : w.cell? ⟨g, off + i, none⟩ = some (.string x)) (cj : w.cell? ⟨g, off + j, none⟩ = some (.string y))
 (hm : MapAt w isStr r l) (ex : (.string x, .slice ax nx cx) ∈ l) (ey : (.string y, .slice ay ny cy) ∈ l) :
 Calls Tryz.prog 246 #[.int .i64 i, .int .i64 j, .pointer (some ⟨A, 0, none⟩), .pointer (some ⟨B, 0, none⟩)] w fun e w' => e = .returned (.bool (idLt (x, nx) (y, ny))) ∧ ∃ q, w' = w.drewN q := by
 have l1 : ∀ q, (Instr.lookup 378 (.map (some r)) (.string x) false).run Tryz.prog (w.drewN q) = .ok (.slice ax nx cx) (w.drewN q) := fun q => by
  simpa using map_lookup_hit (P := Tryz.prog) (hm.kept ((Kept.refl [] w).drewN q) (by simp)) (keyT_str Tryz.underlying9) Tryz.underlying378 ex false
 have l2 : ∀ q, (Instr.lookup 378 (.map (some r)) (.string y) false).run Tryz.prog (w.drewN q) = .ok (.slice ay ny cy) (w.drewN q) := fun q => by
  simpa using map_lookup_hit (P := Tryz.prog) (hm.kept ((Kept.refl [] w).drewN q) (by simp)) (keyT_str Tryz.underlying9) Tryz.underlying378 ey false
 have l10 := l1 0
 have l20 := l2 0
 simp only [World.drewN_zero] at l10 l20
 clear hm ex ey
 by_cases h : nx = ny
 · subst h
   have e : idLt (x, nx) (y, nx) = Op.bytesLess x.toList y.toList := by simp [idLt]
   rw [e]; clear e
   go_enter Tryz.func246, Tryz.ntmps246
   go_wp2
   go_quiet (fail)
   go_wp2
   go_quiet (fail)
   go_wp2
   go_ret
   exact ⟨rfl, drewN_two _ _ _⟩
 · have e : idLt (x, nx) (y, ny) = decide (nx < ny) := by simp [idLt, h]
   rw [e]; clear e
   have h0 : ¬ ((nx : Int) - ny = 0) := by omega
   have hw : IntKind.i64.wrap ((nx : Int) - ny) = (nx : Int) - ny := by rw [IntKind.wrap_i64]; omega
   go_enter Tryz.func246, Tryz.ntmps246
   go_wp2
   go_quiet (fail)
   go_wp2
   go_quiet (fail)
   go_wp2
   go_ret
   exact ⟨by simp, drewN_two _ _ _⟩
end
section
open Go Go.Proofs Go.RowKit Go.Lib
open Classical
structure IdsAt (w : World) (g off : Nat) (L : List (ByteArray × Nat)) : Prop where
 cell : ∀ k x, L[k]? = some x → w.cell? ⟨g, off + k, none⟩ = some (.string x.1)
 frz : ∀ k, k < L.length → w.frozen? ⟨g, off + k, none⟩ = false
theorem IdsAt.swap {w : World} {g off : Nat} {L : List (ByteArray × Nat)} (h : IdsAt w g off L) {i j : Nat} (hi : i < L.length) (hj : j < L.length) (hne : i ≠ j) (q : Nat) :
 IdsAt (((w.setCell ⟨g, off + i, none⟩ (.string L[j].1)).setCell ⟨g, off + j, none⟩ (.string L[i].1)).drewN q) g off ((L.set i L[j]).set j L[i]) := by
 have ha : ∀ a b : Nat, a ≠ b → (⟨g, off + a, none⟩ : Addr) ≠ ⟨g, off + b, none⟩ := fun a b hn he => hn (by injection he with _ h2; omega)
 have ci := h.cell i L[i] (by simp [hi])
 have cj := h.cell j L[j] (by simp [hj])
 refine ⟨fun k x hk => ?_, fun k hk => ?_⟩
 · rw [World.cell?_drewN]
   by_cases h1 : k = j
   · subst h1
     rw [List.getElem?_set_self (by simpa using hj)] at hk
     cases hk
     apply World.cell?_setCell_same (u := .string L[k].1)
     rw [World.cell?_setCell_other _ _ _ _ (ha _ _ hne)]; exact cj
   · rw [List.getElem?_set_ne (fun e => h1 e.symm)] at hk
     rw [World.cell?_setCell_other _ _ _ _ (ha _ _ (fun e => h1 e.symm))]
     by_cases h2 : k = i
     · subst h2
       rw [List.getElem?_set_self hi] at hk
       cases hk
       apply World.cell?_setCell_same (u := .string L[k].1)
       exact ci
     · rw [List.getElem?_set_ne (fun e => h2 e.symm)] at hk
       rw [World.cell?_setCell_other _ _ _ _ (ha _ _ (fun e => h2 e.symm))]
       exact h.cell k x hk
 · have := h.frz k (by simpa using hk)
   simpa using this
end
section
open Go Go.Proofs Go.RowKit
def stratT : Nat → TypeId
 | 0 => 160
 | 1 => 167
 | 2 => 170
 | _ => 177
def stratO : Nat → Obj
 | 0 => .cells #[.func (.func 90) #[] #[], .string ⟨#[114, 97, 110, 103, 101]⟩] 166
 | 1 => .cells #[] 169
 | 2 => .cells #[.map none, .map none, .bool false] 176
 | _ => .cells #[.map none, .map none, .bool true, .int .i32 (-1)] 181
theorem strat0 (w : World) : Calls Tryz.prog 73 #[] w fun e w' => e = .returned (.iface 160 (.pointer (some ⟨w.heap.size, 0, none⟩))) ∧ w' = w.alloc (stratO 0) := by
 go_enter Tryz.func73, Tryz.ntmps73
 go_wp2
 go_ret
 exact ⟨rfl, rfl⟩
theorem strat2 (w : World) : Calls Tryz.prog 75 #[] w fun e w' => e = .returned (.iface 170 (.pointer (some ⟨w.heap.size, 0, none⟩))) ∧ w' = w.alloc (stratO 2) := by
 go_enter Tryz.func75, Tryz.ntmps75
 go_wp2
 go_ret
 exact ⟨rfl, rfl⟩
theorem strat1 (w : World) : Calls Tryz.prog 74 #[] w fun e w' => e = .returned (.iface 167 (.pointer (some ⟨w.heap.size, 0, none⟩))) ∧ w' = w.alloc (stratO 1) := by
 go_enter Tryz.func74, Tryz.ntmps74
 go_wp2
 go_ret
 exact ⟨rfl, rfl⟩
theorem cellStore (b : Nat) (o : Nat) (w : World) (v : Value) (hc : w.cell? ⟨b, o, none⟩ = some v) (hz : w.frozen? ⟨b, o, none⟩ = false) (x : Int) : Calls Tryz.prog 94 #[.pointer (some ⟨b, o, none⟩), .int .i32 x] w fun e w' => e = .returned (.tuple #[]) ∧ w' = w.setCell ⟨b, o, none⟩ (.int .i32 x) := by
 go_enter Tryz.func94, Tryz.ntmps94
 go_wp2
 go_end0
 exact ⟨rfl, rfl⟩
theorem strat3 (w : World) : Calls Tryz.prog 76 #[] w fun e w' => e = .returned (.iface 177 (.pointer (some ⟨w.heap.size, 0, none⟩))) ∧ w' = w.alloc (stratO 3) := by
 have hcs := fun (w0 : World) v h1 h2 => cellStore w.heap.size 3 w0 v h1 h2 (-1)
 go_enter Tryz.func76, Tryz.ntmps76
 go_wp2_with (go_at_call 94; refine (hcs _ (.int .i32 0) (by simp) (by simp)).mono ?_; rintro e w1 ⟨rfl, rfl⟩)
 go_ret
 exact ⟨rfl, rfl⟩
theorem strategy_any (n : Nat) (hn : n < 4) (w : World) : Calls Tryz.prog 46 #[.int .i64 n] w fun e w' => e = .returned (.iface (stratT n) (.pointer (some ⟨w.heap.size, 0, none⟩))) ∧ w' = w.alloc (stratO n) := by
 rcases (by omega : n = 0 ∨ n = 1 ∨ n = 2 ∨ n = 3) with rfl | rfl | rfl | rfl
 all_goals
  go_enter Tryz.func46, Tryz.ntmps46
  go_wp2_with (first | (go_at_call 73; refine (strat0 _).mono ?_; rintro e w1 ⟨rfl, rfl⟩) | (go_at_call 74; refine (strat1 _).mono ?_; rintro e w1 ⟨rfl, rfl⟩) | (go_at_call 75; refine (strat2 _).mono ?_; rintro e w1 ⟨rfl, rfl⟩) | (go_at_call 76; refine (strat3 _).mono ?_; rintro e w1 ⟨rfl, rfl⟩))
  go_ret
  exact ⟨rfl, rfl⟩
def DataOf (n : Nat) (L : Tops) (gen : Int) (cs : List Value) : Prop := (n ≠ 2 ∧ cs = []) ∨ (n = 2 ∧ ∃ L', L'.Perm L ∧ cs = encV1 L' gen)
end
section
open Go Go.Proofs Go.RowKit
theorem own_nil (E sz : Nat) {w : World} : w.ownsRow 0 E sz (.slice none 0 0) 0 [] := ⟨by simp, .inl ⟨rfl, rfl⟩⟩
theorem own_form {w : World} {E sz n : Nat} {v : Value} {cs : List Value} (h : w.ownsRow 0 E sz v n cs) : ∃ a n c, v = .slice a n c := by
 rcases h.2 with ⟨rfl, _⟩ | ⟨g, cap, cur, rfl, _⟩
 · exact ⟨_, _, _, rfl⟩
 · exact ⟨_, _, _, rfl⟩
theorem DataOf.length {n : Nat} {L : Tops} {gen : Int} {cs : List Value} (h : DataOf n L gen cs) (hl : (encV1 L gen).length ≤ 1000000) : cs.length ≤ 1000000 := by
 rcases h with ⟨_, rfl⟩ | ⟨_, L', hp, rfl⟩
 · simp
 · simp only [encV1, List.length_append, encTs_perm_length hp, hp.length_eq] at *; omega
end
section
open Go Go.Proofs Go.RowKit
theorem SlAt.form {w : World} {sz n : Nat} {v : Value} {cs : List Value} (h : SlAt w sz v n cs) : ∃ a n c, v = .slice a n c := by
 rcases h.2.2 with ⟨a, c, h, _⟩ | ⟨b, o, c, h, _⟩
 · exact ⟨_, _, _, h⟩
 · exact ⟨_, _, _, h⟩
end
section
open Go Go.Proofs Go.RowKit
def AnyBool (e : Ending) : Prop := ∃ b, e = .returned (.bool b)
theorem fits6 (m t : ByteArray) (a : Option Addr) (n c : Nat) (w : World) :
 Calls Tryz.prog 37 #[.agg #[.string m, .string t, .slice a n c]] w fun e w' => AnyBool e ∧ Kept [] w w' := by
 have hk := (Kept.refl [] w).alloc (.cells #[.string m, .string t, .slice a n c] 33)
 by_cases h1 : (2147483647 : Int) < m.size
 · go_enter Tryz.func37, Tryz.ntmps37
   go_wp2
   go_ret
   exact ⟨⟨_, rfl⟩, hk⟩
 by_cases h2 : (2147483647 : Int) < t.size
 · go_enter Tryz.func37, Tryz.ntmps37
   go_wp2
   go_ret
   exact ⟨⟨_, rfl⟩, hk⟩
 by_cases h3 : (2147483647 : Int) < n
 · go_enter Tryz.func37, Tryz.ntmps37
   go_wp2
   go_ret
   exact ⟨⟨_, rfl⟩, hk⟩
 · go_enter Tryz.func37, Tryz.ntmps37
   go_wp2
   go_ret
   exact ⟨⟨_, rfl⟩, hk⟩
theorem fits5 (v : Value) (L : List Shr) (w : World) (hv : ShrsAt w v L) (hn : L.length ≤ maxLen) :
 Calls Tryz.prog 13 #[v] w fun e w' => AnyBool e ∧ Kept [] w w' := by
 obtain ⟨⟨a, c, rfl⟩, hcells, hparts⟩ := hv
 have HC := Zhd hcells; clear hcells
 have HP := Zhd hparts; clear hparts
 have hmx : maxLen = 9223372036854775807 := rfl
 generalize hLn : L.length = n at *
 have HLN := Zhd hLn; clear hLn
 by_cases h1 : (2147483647 : Int) < n
 · go_enter Tryz.func13, Tryz.ntmps13
   go_wp2
   go_ret
   exact ⟨⟨_, rfl⟩, Kept.refl _ _⟩
 · go_enter Tryz.func13, Tryz.ntmps13
   go_wp2
   go_loopw [10] (fun i wr => ∃ k : Nat, k ≤ n ∧ i = .int .i64 k ∧ Kept [] w wr) (fun i _ => n - (intOf i).toNat)
   case atStart => exact ⟨0, Nat.zero_le _, rfl, Kept.refl _ _⟩
   case round =>
    obtain ⟨k, hk, rfl, hkw⟩ := hrel
    by_cases hlt : k < n
    · obtain ⟨x, hkx⟩ : ∃ x, L[k]? = some x := ⟨_, List.getElem?_eq_getElem (by have := HLN.out; omega)⟩
      obtain ⟨g1, g2, g3⟩ := shr_get hkx
      have hxL : x ∈ L := List.mem_of_getElem? hkx
      obtain ⟨_, hcase⟩ := HC.out.cases
      rcases hcase with ⟨_, h0, _⟩ | ⟨g, off, hva, hcell⟩
      · omega
      cases hva
      have c1 := hkw.cell (p := ⟨g, off + k * 3, none⟩) (hcell _ _ g1) (by simp)
      have c2 := hkw.cell (p := ⟨g, off + (k * 3 + 1), none⟩) (hcell _ _ g2) (by simp)
      have c3 := hkw.cell (p := ⟨g, off + (k * 3 + 2), none⟩) (hcell _ _ g3) (by simp)
      rw [← Nat.add_assoc] at c2 c3
      obtain ⟨⟨pa, pc, hval⟩, _⟩ := HP.out x hxL
      rw [hval] at c3
      clear hcell g1 g2 g3 hkx
      go_wp2_with
       (go_at_call 37
        refine (fits6 _ _ _ _ _ _).mono ?_
        rintro e w1 ⟨⟨b, rfl⟩, hk1⟩
        have hk2 : Kept [] w w1 := (hkw.alloc _).trans hk1 (by simp) (by simp)
        cases b)
      · go_ret
        exact ⟨⟨_, rfl⟩, hk2⟩
      · go_roundw
        case rel => exact ⟨k + 1, by omega, by go_num, hk2⟩
        case measure => simp [intOf]; omega
    · go_wp2
      go_ret
      exact ⟨⟨_, rfl⟩, hkw⟩
end
section
open Go Go.Proofs Go.RowKit
theorem copied_nil (w : World) : Calls Tryz.prog 58 #[.slice none 0 0] w fun e w' => (∃ a n c, e = .returned (.slice a n c)) ∧ Kept [] w w' := by
 have hsrc : Src Tryz.prog 1 28 (.slice none 0 0) 0 [] (w.alloc (.cells #[] 5)) := (SlAt.nil _ _).src Tryz.underlying28
 go_enter Tryz.func58, Tryz.ntmps58
 go_wp2_with (refine wl_app (v := .slice (some ⟨w.heap.size, 0, none⟩) 0 0) rfl rfl elU8 rfl rfl (own_new 5 1) hsrc (by omega) (by omega) ?_; intro v' w1 hown hk hd)
 go_ret
 obtain ⟨a', n', c', rfl⟩ := own_form hown
 exact ⟨⟨_, _, _, rfl⟩, ((Kept.refl [] w).alloc _).trans hk (by simp) (by simp [Value.ownBlock])⟩
theorem partitioner4 (w : World) : Calls Tryz.prog 71 #[.int .i64 4] w fun e w' => e = .returned (.iface 231 (.pointer (some ⟨w.heap.size, 0, none⟩))) ∧ w' = w.alloc (.cells #[] 232) := by
 have h89 : ∀ w : World, Calls Tryz.prog 89 #[.string ⟨#[116]⟩] w fun e w' => e = .returned (.iface 231 (.pointer (some ⟨w.heap.size, 0, none⟩))) ∧ w' = w.alloc (.cells #[] 232) := by
  intro w
  go_enter Tryz.func89, Tryz.ntmps89
  go_wp2
  go_ret
  exact ⟨rfl, rfl⟩
 go_enter Tryz.func71, Tryz.ntmps71
 go_wp2_with (go_at_call 89; refine (h89 _).mono ?_; rintro e w1 ⟨rfl, rfl⟩)
 go_ret
 exact ⟨rfl, rfl⟩
theorem partMeth : IsMeth 231 "Partition" 358 := ⟨fun a w => by kernel_rfl, fun a w => by kernel_rfl, fun a w => by kernel_rfl⟩
theorem manual_partition (a : Addr) (m : Nat) (x n : Int) (w : World) (hm : w.cell? ⟨m, 3, none⟩ = some (.int .i32 x)) :
 Calls Tryz.prog 358 #[.pointer (some a), .pointer (some ⟨m, 0, none⟩), .int .i32 n] w fun e w' => e = .returned (.tuple #[.int .i32 x, .nilIface]) ∧ w = w' := by
 go_enter Tryz.func358, Tryz.ntmps358
 go_wp2
 go_ret2
 exact ⟨rfl, rfl⟩
theorem part_closure (b : Nat) (w : World)
 (hc : w.cell? ⟨b, 0, none⟩ = some (.int .i64 4) ∧ w.cell? ⟨b + 1, 0, none⟩ = some (.slice none 0 0) ∧ w.cell? ⟨b + 2, 0, none⟩ = some (.int .i32 3) ∧ w.cell? ⟨b + 3, 0, none⟩ = some (.int .i32 5))
 (hd : w.cell? ⟨b + 4, 0, none⟩ = some (.int .i32 0) ∧ w.cell? ⟨b + 5, 0, none⟩ = some (.bool false) ∧ w.frozen? ⟨b + 4, 0, none⟩ = false ∧ w.frozen? ⟨b + 5, 0, none⟩ = false) (hlt : b + 5 < w.heap.size) :
 Calls Tryz.prog 70 #[.pointer (some ⟨b + 2, 0, none⟩), .pointer (some ⟨b + 1, 0, none⟩), .pointer (some ⟨b, 0, none⟩), .pointer (some ⟨b + 3, 0, none⟩), .pointer (some ⟨b + 4, 0, none⟩), .pointer (some ⟨b + 5, 0, none⟩)] w fun e w' =>
  e = .returned (.tuple #[]) ∧ (w'.cell? ⟨b + 4, 0, none⟩ = some (.int .i32 3) ∧ w'.cell? ⟨b + 5, 0, none⟩ = some (.bool true) ∧ w'.frozen? ⟨b + 4, 0, none⟩ = false ∧ w'.frozen? ⟨b + 5, 0, none⟩ = false) ∧ Kept [b + 4, b + 5] w w' := by
 have hS : ∀ w', Kept [] w w' → w'.cell? ⟨b, 0, none⟩ = some (.int .i64 4) ∧ w'.cell? ⟨b + 1, 0, none⟩ = some (.slice none 0 0) ∧ w'.cell? ⟨b + 2, 0, none⟩ = some (.int .i32 3) ∧ w'.cell? ⟨b + 3, 0, none⟩ = some (.int .i32 5) := fun w' k =>
  ⟨k.cell hc.1 (by simp), k.cell hc.2.1 (by simp), k.cell hc.2.2.1 (by simp), k.cell hc.2.2.2 (by simp)⟩
 have hS2 : ∀ w', Kept [] w w' → w'.cell? ⟨b + 4, 0, none⟩ = some (.int .i32 0) ∧ w'.cell? ⟨b + 5, 0, none⟩ = some (.bool false) ∧ w'.frozen? ⟨b + 4, 0, none⟩ = false ∧ w'.frozen? ⟨b + 5, 0, none⟩ = false := fun w' k =>
  ⟨k.cell hd.1 (by simp), k.cell hd.2.1 (by simp), k.frz hd.2.2.1 (by simp; omega) (by simp), k.frz hd.2.2.2 (by simp; omega) (by simp)⟩
 have hmt := partMeth.m
 have hnl := partMeth.n
 have hcf := partMeth.c
 have HS := Zhd hS; clear hS
 have HS2 := Zhd hS2; clear hS2
 clear hc hd
 go_enter Tryz.func70, Tryz.ntmps70
 go_wp2
 go_region_held3 (fun w' => w'.cell? ⟨b, 0, none⟩ = some (.int .i64 4) ∧ w'.cell? ⟨b + 1, 0, none⟩ = some (.slice none 0 0) ∧ w'.cell? ⟨b + 2, 0, none⟩ = some (.int .i32 3) ∧ w'.cell? ⟨b + 3, 0, none⟩ = some (.int .i32 5))
  (first | exact HS.out _ (Kept.refl _ _).drew | exact HS.out _ hk1' | exact HS.out _ (hk1'.alloc _))
  (first | (go_at_call 58; refine (copied_nil _).mono ?_; rintro e w1 ⟨⟨a, n, c, rfl⟩, hk1⟩; have hk1' : Kept [] w w1 := hk1.of_drew))
 go_wp2
 have hka := hk1'.alloc (.cells #[.string ⟨#[]⟩, .iface 138 (.slice a n c), .nilIface, .int .i32 3] 142)
 have hm3 : (w1.alloc (.cells #[.string ⟨#[]⟩, .iface 138 (.slice a n c), .nilIface, .int .i32 3] 142)).cell? ⟨w1.heap.size, 3, none⟩ = some (.int .i32 3) := by simp [go_sem]
 go_region_held3 (fun w' => w'.cell? ⟨b, 0, none⟩ = some (.int .i64 4) ∧ w'.cell? ⟨b + 3, 0, none⟩ = some (.int .i32 5))
  (first | exact ⟨(HS.out _ hka.drew).1, (HS.out _ hka.drew).2.2.2⟩ | exact ⟨(HS.out _ (hka.drew.alloc _)).1, (HS.out _ (hka.drew.alloc _)).2.2.2⟩ | go_keep)
  (first | (go_at_call 71; refine (partitioner4 _).mono ?_; rintro e w2 ⟨rfl, rfl⟩)
         | (go_at_call 358; refine (manual_partition _ _ 3 _ _ (ca (cd hm3))).mono ?_; rintro e w2 ⟨rfl, rfl⟩))
 obtain ⟨c4, c5, f4, f5⟩ := HS2.out _ (hka.alloc (.cells #[] 232)).drew
 have hk6 : Kept [b + 4, b + 5] w ((((w1.alloc (.cells #[.string ⟨#[]⟩, .iface 138 (.slice a n c), .nilIface, .int .i32 3] 142)).alloc (.cells #[] 232)).drew.setCell ⟨b + 4, 0, none⟩ (.int .i32 3)).setCell ⟨b + 5, 0, none⟩ (.bool true)) :=
  (((hka.alloc (.cells #[] 232)).drew.trans (Kept.refl [] _) (U := [b + 4, b + 5]) (by simp) (by simp)).setCell _ (by simp)).setCell _ (by simp)
 have HK := Zhd hk6; clear hk6
 generalize hw2 : ((w1.alloc (.cells #[.string ⟨#[]⟩, .iface 138 (.slice a n c), .nilIface, .int .i32 3] 142)).alloc (.cells #[] 232)).drew = w2 at *
 go_wp2
 go_region_held3 (fun w' => w'.frozen? ⟨b + 4, 0, none⟩ = false ∧ w'.frozen? ⟨b + 5, 0, none⟩ = false)
  (first | exact ⟨f4, f5⟩ | go_keep)
  (fail)
 go_end0
 refine ⟨rfl, ⟨?_, ?_, ?_, ?_⟩, HK.out.drew⟩
 · simp [go_sem, c4]
 · simp [go_sem, c5]
 · simp [go_sem, f4]
 · simp [go_sem, f5]
theorem hasBody70 : HasBody 70 := by unfold HasBody; intro a w; kernel_rfl
theorem partition_alive (w : World) : Calls Tryz.prog 38 #[.int .i64 4, .slice none 0 0, .int .i32 3, .int .i32 5] w fun e w' => e = .returned (.tuple #[.int .i32 3, .bool true]) ∧ Kept [] w w' := by
 have hclo : ∀ w0 : World, w0 = ((((((w.alloc (.cells #[.int .i64 4] 3)).alloc (.cells #[.slice none 0 0] 28)).alloc (.cells #[.int .i32 3] 21)).alloc (.cells #[.int .i32 5] 21)).alloc (.cells #[.int .i32 0] 21)).alloc (.cells #[.bool false] 4)) →
  Kept [] w w0 ∧ w0.heap.size = w.heap.size + 6 ∧ _ := fun w0 e => ⟨by subst e; exact ((((((Kept.refl [] w).alloc _).alloc _).alloc _).alloc _).alloc _).alloc _, by subst e; simp,
  safe_any 70 #[.pointer (some ⟨w.heap.size + 2, 0, none⟩), .pointer (some ⟨w.heap.size + 1, 0, none⟩), .pointer (some ⟨w.heap.size, 0, none⟩), .pointer (some ⟨w.heap.size + 3, 0, none⟩), .pointer (some ⟨w.heap.size + 4, 0, none⟩), .pointer (some ⟨w.heap.size + 5, 0, none⟩)] w0
   (fun w' => w'.cell? ⟨w.heap.size + 4, 0, none⟩ = some (.int .i32 3) ∧ w'.cell? ⟨w.heap.size + 5, 0, none⟩ = some (.bool true) ∧ w'.frozen? ⟨w.heap.size + 4, 0, none⟩ = false ∧ w'.frozen? ⟨w.heap.size + 5, 0, none⟩ = false) [w.heap.size + 4, w.heap.size + 5] hasBody70 (by subst e; simp) (by
     refine part_closure w.heap.size _ ?_ ?_ ?_
     · subst e; simp [go_sem]
     · subst e; simp [go_sem]
     · subst e; simp)⟩
 obtain ⟨hk0, hs0, hsafe⟩ := hclo _ rfl
 have HSF := Zhd hsafe; clear hsafe hclo
 go_enter Tryz.func38, Tryz.ntmps38
 go_wp2_with
  (go_at_call 43
   refine (HSF.out).mono ?_
   rintro e w2 ⟨rfl, w1, ⟨c4, c5, f4, f5⟩, hk1, hk2⟩
   have hs1 := hk1.size
   rw [hs0] at hk2 hs1
   have d4 : w2.cell? ⟨w.heap.size + 1 + 1 + 1 + 1, 0, none⟩ = some (.int .i32 3) := hk2.cell c4 (by simp)
   have d5 : w2.cell? ⟨w.heap.size + 1 + 1 + 1 + 1 + 1, 0, none⟩ = some (.bool true) := hk2.cell c5 (by simp)
   have e4 : w2.frozen? ⟨w.heap.size + 1 + 1 + 1 + 1, 0, none⟩ = false := hk2.frz f4 (by simp; omega) (by simp)
   have e5 : w2.frozen? ⟨w.heap.size + 1 + 1 + 1 + 1 + 1, 0, none⟩ = false := hk2.frz f5 (by simp; omega) (by simp)
   clear c4 c5 f4 f5)
 have k12 : Kept [] w w2 := (hk0.trans hk1 (U := []) (by simp) (by simp <;> omega)).trans hk2 (by simp) (by simp <;> omega)
 have k3 : Kept [w.heap.size + 4, w.heap.size + 5] w2 ((w2.setCell ⟨w.heap.size + 1 + 1 + 1 + 1, 0, none⟩ (.int .i32 3)).setCell ⟨w.heap.size + 1 + 1 + 1 + 1 + 1, 0, none⟩ (.bool true)) :=
  ((Kept.refl _ _).setCell _ (by simp)).setCell _ (by simp)
 have hend2 := k12.trans k3 (U := []) (by simp) (by simp <;> omega)
 simp [bodyPost, results, Tryz.results38, go_sem, d4, d5]
 exact hend2
end
end Go.Proofs.YticcnlpfmekagaaGreat
