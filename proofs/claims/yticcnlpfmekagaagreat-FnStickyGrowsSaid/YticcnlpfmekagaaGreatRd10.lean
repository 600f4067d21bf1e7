/- Part 10 of 51 of the proof of the row: the texts Tp, TpKey, Can, Can2, Swap, Less, Zz, Strat. -/
import Derived.Test.YticcnlpfmekagaaGreatRd09
import Derived.Test.YticcnlpfmekagaaGreatRd07
import Derived.Laws.StructEq
import Derived.Test.YticcnlpfmekagaaGreatRd05
import Derived.Deep.QuietTactic
import Derived.RegionTactic
import Derived.Stop.Asserts
namespace Go.Proofs.YticcnlpfmekagaaGreat
open Go Go.Proofs Go.RowKit Go.Lib
set_option linter.unusedVariables false
set_option linter.unusedSimpArgs false

/-! ## A topic with a partition: equality, search -/

abbrev TP := ByteArray × Int
def encTp (x : TP) : List Value := [.string x.1, .int .i32 x.2]
abbrev tpV (x : TP) : Value := .agg #[.string x.1, .int .i32 x.2]
def eqTp (x y : TP) : Bool := x.1.toList == y.1.toList && x.2 == y.2

theorem eqlTp : EqlAt Tryz.prog 384 (fun x => .agg (encTp x).toArray) eqTp := by
  refine ⟨fun x y w => ?_, GuardAt.agg _ (by kernel_rfl)⟩
  have u3 := Tryz.underlying3
  have hS : Tryz.prog.underlying 384 = some (.struct (Tryz.prog.fieldsOf 384)) := by kernel_rfl
  have hp : Tryz.prog.stoodInHeld 384 = false := by kernel_rfl
  simp only [encTp]
  rw [run_eql_struct, show (10000 : Nat) = 9999 + 1 from rfl, run_equalIn_agg w 9999 384 _ _ hS hp]
  simp only [Program.fieldsOf, Tryz.underlying384]
  go_simp
  unfold eqTp
  by_cases h1 : x.fst.toList = y.fst.toList <;> by_cases h2 : x.snd = y.snd <;> simp [h1, h2]

theorem Below.kept {w w' : World} (h : Below w.heap.size w w') : Kept [] w w' := ⟨h.os, h.tape, h.output, h.size, fun k hk _ => h.block k hk⟩

theorem contTp_any (b off n c : Nat) (zs : List TP) (x : TP) (w : World) (hz : n ≤ zs.length) (hbig : n ≤ 9223372036854775807)
    (hc : ∀ j, j < zs.length → ∀ i v, (encTp zs[j]!)[i]? = some v → w.cell? ⟨b, off + j * 2 + i, none⟩ = some v) :
    Calls Tryz.prog 272 #[.slice (some ⟨b, off, none⟩) n c, tpV x] w fun e w' => e = .returned (.bool ((zs.take n).any fun y => eqTp x y)) ∧ Kept [] w w' := by
  have h := AnyQ.slices_Contains Tryz.laysContTp 2 Tryz.isAgg384 Tryz.sizeOf384 encTp (fun _ => rfl) eqTp eqlTp b off n c zs x w hz hbig hc
  change Calls Tryz.prog 272 _ _ _ at h
  exact h.mono fun e w' ⟨h1, h2⟩ => ⟨h1, Below.kept h2⟩

theorem idxTp_nil (a : Option Addr) (c : Nat) (x : TP) (w : World) : Calls Tryz.prog 276 #[.slice a 0 c, tpV x] w fun e w' => e = .returned (.int .i64 (-1)) ∧ Kept [] w w' := by
  have HG := Lib.hid (fun o => (Kept.refl [] w).alloc o)
  go_enter Tryz.func276, Tryz.ntmps276
  go_wp2
  go_loopw [8] (fun i wr => i = .int .i64 0 ∧ Kept [] w wr) (fun _ _ => 0)
  case atStart => exact ⟨rfl, HG.out _⟩
  case round =>
    obtain ⟨rfl, hkw⟩ := hrel
    go_wp2
    go_ret
    exact ⟨rfl, hkw⟩
theorem contTp_nil (a : Option Addr) (c : Nat) (x : TP) (w : World) : Calls Tryz.prog 272 #[.slice a 0 c, tpV x] w fun e w' => e = .returned (.bool false) ∧ Kept [] w w' := by
  have HC := Lib.hid (idxTp_nil a c x)
  have HG := Lib.hid (fun o => (Kept.refl [] w).alloc o)
  go_enter Tryz.func272, Tryz.ntmps272
  go_wp2_with (go_at_call 276; refine (HC.out _).mono ?_; rintro e w' ⟨rfl, hk⟩)
  go_ret
  exact ⟨rfl, (HG.out _).trans hk (by simp) (by simp)⟩

/-- the cells of a list of partitions -/
theorem enc_at : ∀ (zs : List TP) (j : Nat), j < zs.length → ∀ i v, (encTp zs[j]!)[i]? = some v → (zs.flatMap encTp)[j * 2 + i]? = some v := by
  intro zs
  induction zs with
  | nil => intro j hj; simp at hj
  | cons z zs ih =>
    intro j hj i v hv
    have hi : i < 2 := by have := (List.getElem?_eq_some_iff.1 hv).1; simpa [encTp] using this
    cases j with
    | zero =>
      rw [List.flatMap_cons, List.getElem?_append_left (by simp [encTp]; omega)]
      simpa using hv
    | succ j =>
      rw [List.flatMap_cons, List.getElem?_append_right (by simp [encTp]; omega)]
      have := ih j (by simpa using hj) i v (by simpa using hv)
      have e : (j + 1) * 2 + i - (encTp z).length = j * 2 + i := by simp [encTp]; omega
      rw [e]; exact this
theorem contTp_at {w : World} {v : Value} {zs : List TP} (h : SlAt w 2 v zs.length (zs.flatMap encTp)) (x : TP) (hb : zs.length ≤ 9223372036854775807) :
    Calls Tryz.prog 272 #[v, tpV x] w fun e w' => e = .returned (.bool (zs.any fun y => eqTp x y)) ∧ Kept [] w w' := by
  rcases h.2.2 with ⟨a, c, rfl, h0⟩ | ⟨b, off, cap, rfl, hc⟩
  · have : zs = [] := List.eq_nil_of_length_eq_zero h0
    subst this
    exact contTp_nil a c x w
  · have := contTp_any b off zs.length cap zs x w (Nat.le_refl _) hb (fun j hj i u hi => by
      have h2 := hc (j * 2 + i) u (enc_at zs j hj i u hi)
      rw [show off + j * 2 + i = off + (j * 2 + i) by omega]; exact h2)
    simpa using this

theorem inclTp_at {w : World} {v : Value} {zs : List TP} (h : SlAt w 2 v zs.length (zs.flatMap encTp)) (x : TP) (hb : zs.length ≤ 9223372036854775807) :
    Calls Tryz.prog 266 #[v, tpV x] w fun e w' => e = .returned (.bool (zs.any fun y => eqTp x y)) ∧ Kept [] w w' := by
  have HC := Lib.hid (fun o => contTp_at (h.alloc o) x hb)
  have HG := Lib.hid (fun o => (Kept.refl [] w).alloc o)
  clear h
  go_enter Tryz.func266, Tryz.ntmps266
  go_wp2_with (go_at_call 272; refine (HC.out _).mono ?_; rintro e w' ⟨rfl, hk⟩)
  go_ret
  exact ⟨rfl, (HG.out _).trans hk (by simp) (by simp)⟩

end Go.Proofs.YticcnlpfmekagaaGreat
namespace Go.Proofs.YticcnlpfmekagaaGreat
open Go Go.Proofs Go.RowKit Go.Lib
open Classical
set_option linter.unusedVariables false
set_option linter.unusedSimpArgs false

/-! ## Partitions as keys of maps -/

theorem tp_und : Tryz.prog.underlying 384 = some (.struct (Tryz.prog.fieldsOf 384)) := by kernel_rfl

theorem ba_inj (s t : ByteArray) : (s.toList = t.toList) ↔ s = t := by
  constructor
  · intro h
    rw [ByteArray.toList_eq, ByteArray.toList_eq] at h
    have h' := Array.toList_inj.1 h
    obtain ⟨s⟩ := s
    obtain ⟨t⟩ := t
    simp only at h'
    rw [h']
  · intro h; rw [h]

theorem equal_tp (a b : Value) (w : World) (ha : isTp a) (hb : isTp b) : (Op.equal 384 a b).run Tryz.prog w = .ok (decide (a = b)) w := by
  obtain ⟨s, n, rfl⟩ := ha
  obtain ⟨t, m, rfl⟩ := hb
  have u3 := Tryz.underlying3
  have hp : Tryz.prog.stoodInHeld 384 = false := by kernel_rfl
  unfold Op.equal
  rw [show Op.maxDepth = 9999 + 1 from rfl, run_equalIn_agg w 9999 384 _ _ tp_und hp]
  simp only [Program.fieldsOf, Tryz.underlying384]
  go_simp
  have hst := ba_inj s t
  by_cases h1 : s = t <;> by_cases h2 : n = m <;> simp [h1, h2, hst, ba_beq]

theorem check_tp (k : Value) (em : Bool) (w : World) (hk : isTp k) : (Instr.checkKey em 10000 384 k).run Tryz.prog w = .ok () w := by
  obtain ⟨s, n, rfl⟩ := hk
  have u9 := Tryz.underlying9
  have u21 := Tryz.underlying21
  obtain ⟨m, hm⟩ : ∃ m : Nat, (10000 : Nat) = m + 1 + 1 := ⟨9998, rfl⟩
  rw [hm]
  have c9 : ∀ v, (Instr.checkKey em (m + 1) 9 v).run Tryz.prog w = .ok () w := fun v => ck_plain u9 rfl v w m
  have c21 : ∀ v, (Instr.checkKey em (m + 1) 21 v).run Tryz.prog w = .ok () w := fun v => ck_plain u21 rfl v w m
  rw [Instr.checkKey]
  simp only [Sem.run_bind, run_underlying tp_und, Result.andThen_ok]
  simp only [Program.fieldsOf, Tryz.underlying384]
  go_simp

theorem keyT_tp : KeyT Tryz.prog 384 isTp where
  check := fun k em w hk => check_tp k em w hk
  find := fun k es w hk hes => findKey_of tp_und (fun v ⟨s, n, h⟩ => ⟨_, h⟩) (fun a b w ha hb => equal_tp a b w ha hb) k hk w es hes
  stay := by
    rintro k w ⟨s, n, rfl⟩
    exact stay_flat w (by simp [flat])

end Go.Proofs.YticcnlpfmekagaaGreat
namespace Go.Proofs.YticcnlpfmekagaaGreat
open Go Go.Proofs Go.RowKit Go.Lib
open Classical
set_option linter.unusedVariables false
set_option linter.unusedSimpArgs false

/-! ## canTopicPartitionParticipateInReassignment (248) -/

theorem can_tp (r : Nat) (l : List (Value × Value)) (x : TP) (a : Option Addr) (n c : Nat) (w : World) (hm : MapAt w isTp r l) (hx : (tpV x, .slice a n c) ∈ l) :
    Calls Tryz.prog 248 #[tpV x, .map (some r)] w fun e w' => e = .returned (.bool (decide (2 ≤ n))) ∧ Kept [] w w' := by
  have hl := fun o => map_lookup_hit (P := Tryz.prog) (hm.alloc o) keyT_tp Tryz.underlying382 hx false
  have hl' : ∀ o, (Instr.lookup 382 (.map (some r)) (tpV x) false).run Tryz.prog (w.alloc o) = .ok (.slice a n c) (w.alloc o) := fun o => by simpa using hl o
  have HG := Lib.hid (fun o => (Kept.refl [] w).alloc o)
  clear hl hx
  by_cases h2 : 2 ≤ n
  · have e2 : decide (2 ≤ n) = true := by simpa using h2
    rw [e2]; clear e2
    have h3 : (2 : Int) ≤ (n : Int) := by omega
    go_enter Tryz.func248, Tryz.ntmps248
    go_wp2
    go_ret
    exact ⟨by simp [h3], HG.out _⟩
  · have e2 : decide (2 ≤ n) = false := by simpa using h2
    rw [e2]; clear e2
    have h3 : ¬ (2 : Int) ≤ (n : Int) := by omega
    go_enter Tryz.func248, Tryz.ntmps248
    go_wp2
    go_ret
    exact ⟨by simp [h3], HG.out _⟩

end Go.Proofs.YticcnlpfmekagaaGreat
namespace Go.Proofs.YticcnlpfmekagaaGreat
open Go Go.Proofs Go.RowKit Go.Lib
open Classical
set_option linter.unusedVariables false
set_option linter.unusedSimpArgs false

/-! ## canConsumerParticipateInReassignment (250) -/

theorem tp_get {zs : List TP} {k : Nat} {x : TP} (h : zs[k]? = some x) : (zs.flatMap encTp)[k * 2]? = some (.string x.1) ∧ (zs.flatMap encTp)[k * 2 + 1]? = some (.int .i32 x.2) := by
  obtain ⟨hk, rfl⟩ := List.getElem?_eq_some_iff.1 h
  have h1 := enc_at zs k hk 0 (.string zs[k].1) (by simp [encTp, hk])
  have h2 := enc_at zs k hk 1 (.int .i32 zs[k].2) (by simp [encTp, hk])
  exact ⟨h1, h2⟩

set_option maxRecDepth 100000 in
set_option maxHeartbeats 1000000 in
theorem can_member (m : ByteArray) (rc rp rq : Nat) (lc lp lq : List (Value × Value)) (ac ap : Option Addr) (nc cc np cp : Nat) (zs : List TP) (B : Bool) (w : World)
    (h1 : MapAt w isStr rc lc) (h2 : MapAt w isStr rp lp) (h3 : MapAt w isTp rq lq) (e1 : (.string m, .slice ac nc cc) ∈ lc) (e2 : (.string m, .slice ap np cp) ∈ lp)
    (hs : SlAt w 2 (.slice ac nc cc) nc (zs.flatMap encTp)) (hz : zs.length = nc) (hb : nc ≤ maxLen) (hle : nc ≤ np) (hq : ∀ x ∈ zs, ∃ a n c, (tpV x, .slice a n c) ∈ lq ∧ decide (2 ≤ n) = B) :
    Calls Tryz.prog 250 #[.string m, .map (some rc), .map (some rp), .map (some rq)] w fun e w' => e = .returned (.bool (decide (nc < np) || (B && decide (0 < nc)))) ∧ Kept [] w w' := by
  have hmx : maxLen = 9223372036854775807 := rfl
  have hgt : ¬ (np : Int) < (nc : Int) := by omega
  have l1 : (Instr.lookup 378 (.map (some rc)) (.string m) false).run Tryz.prog w = .ok (.slice ac nc cc) w := by
    simpa using map_lookup_hit (P := Tryz.prog) h1 (keyT_str Tryz.underlying9) Tryz.underlying378 e1 false
  have l2 : (Instr.lookup 378 (.map (some rp)) (.string m) false).run Tryz.prog w = .ok (.slice ap np cp) w := by
    simpa using map_lookup_hit (P := Tryz.prog) h2 (keyT_str Tryz.underlying9) Tryz.underlying378 e2 false
  clear h1 h2 e1 e2
  have HQ := Lib.hid hq; clear hq
  have H3 := Lib.hid h3; clear h3
  have HS := Lib.hid hs; clear hs
  have HZ := Lib.hid hz; clear hz
  by_cases hlt : nc < np
  · have hlt' : (nc : Int) < np := by omega
    go_enter Tryz.func250, Tryz.ntmps250
    go_wp2
    go_ret
    exact ⟨by simp [hlt], Kept.refl _ _⟩
  · have hlt' : ¬ (nc : Int) < np := by omega
    go_enter Tryz.func250, Tryz.ntmps250
    go_wp2
    go_loopw [31] (fun i wr => ∃ k : Nat, k ≤ nc ∧ (k = 0 ∨ B = false) ∧ i = .int .i64 k ∧ Kept [] w wr) (fun i _ => nc - (intOf i).toNat)
    case atStart => exact ⟨0, Nat.zero_le _, .inl rfl, rfl, Kept.refl _ _⟩
    case round =>
      obtain ⟨k, hk, hkB, rfl, hkw⟩ := hrel
      have HKB := Lib.hid hkB; clear hkB
      by_cases hkn : k < nc
      · obtain ⟨x, hkx⟩ : ∃ x, zs[k]? = some x := ⟨_, List.getElem?_eq_getElem (by have := HZ.out; omega)⟩
        obtain ⟨g1, g2⟩ := tp_get hkx
        obtain ⟨a', n', c', hin, hB⟩ := HQ.out x (List.mem_of_getElem? hkx)
        obtain ⟨_, hcase⟩ := HS.out.cases
        rcases hcase with ⟨_, h0, _⟩ | ⟨g, off, hva, hcell⟩
        · omega
        cases hva
        have c1 := hkw.cell (p := ⟨g, off + k * 2, none⟩) (hcell _ _ g1) (by simp)
        have c2 := hkw.cell (p := ⟨g, off + (k * 2 + 1), none⟩) (hcell _ _ g2) (by simp)
        rw [← Nat.add_assoc] at c2
        have hcan := fun w' (k' : Kept [] w w') => can_tp rq lq x a' n' c' w' (H3.out.kept k' (by simp)) hin
        rw [hB] at hcan
        have HC := Lib.hid hcan; clear hcan
        clear hcell g1 g2 hkx hin hB
        cases B
        · go_wp2_with
            (go_at_call 248
             refine (HC.out _ (hkw.alloc _)).mono ?_
             rintro e w1 ⟨rfl, hk1⟩
             have hk2 : Kept [] w w1 := (hkw.alloc _).trans hk1 (by simp) (by simp))
          go_roundw
          case rel => exact ⟨k + 1, by omega, .inr (by trivial), by go_num, hk2⟩
          case measure => simp [intOf]; omega
        · go_wp2_with
            (go_at_call 248
             refine (HC.out _ (hkw.alloc _)).mono ?_
             rintro e w1 ⟨rfl, hk1⟩
             have hk2 : Kept [] w w1 := (hkw.alloc _).trans hk1 (by simp) (by simp))
          go_ret
          exact ⟨by simp; omega, hk2⟩
      · have hkB := HKB.out
        go_wp2
        go_ret
        refine ⟨?_, hkw⟩
        have e1 : decide (nc < np) = false := by simpa using hlt
        rw [e1]
        rcases hkB with rfl | rfl
        · have : nc = 0 := by omega
          simp [this]
        · simp

end Go.Proofs.YticcnlpfmekagaaGreat
namespace Go.Proofs.YticcnlpfmekagaaGreat
open Go Go.Proofs Go.RowKit Go.Lib
set_option linter.unusedVariables false
set_option linter.unusedSimpArgs false

/-! ## the swap of sortMemberIDsByPartitionAssignments (245) -/

set_option maxRecDepth 100000 in
set_option maxHeartbeats 2000000 in
theorem swap_ids (B g off n c : Nat) (w : World) (x y : ByteArray) (i j : Nat) (hi : i < n) (hj : j < n) (hn : n < 4611686018427387904)
    (hB : w.cell? ⟨B, 0, none⟩ = some (.slice (some ⟨g, off, none⟩) n c)) (hBg : B ≠ g)
    (ci : w.cell? ⟨g, off + i, none⟩ = some (.string x)) (cj : w.cell? ⟨g, off + j, none⟩ = some (.string y)) (fi : w.frozen? ⟨g, off + i, none⟩ = false) (fj : w.frozen? ⟨g, off + j, none⟩ = false) :
    Calls Tryz.prog 245 #[.int .i64 i, .int .i64 j, .pointer (some ⟨B, 0, none⟩)] w fun e w' => e = .returned (.tuple #[]) ∧ ∃ q, w' = ((w.setCell ⟨g, off + i, none⟩ (.string y)).setCell ⟨g, off + j, none⟩ (.string x)).drewN q := by
  obtain ⟨v', hy'⟩ := cell?_setCell_some (w := w) (p := ⟨g, off + i, none⟩) (x := .string y) (q := ⟨g, off + j, none⟩) cj
  go_enter Tryz.func245, Tryz.ntmps245
  go_wp2
  go_region
  all_goals (try go_wp2)
  all_goals go_end0
  all_goals exact ⟨rfl, 1, rfl⟩

end Go.Proofs.YticcnlpfmekagaaGreat
namespace Go.Proofs.YticcnlpfmekagaaGreat
open Go Go.Proofs Go.RowKit Go.Lib
set_option linter.unusedVariables false
set_option linter.unusedSimpArgs false

/-! ## the comparison of sortMemberIDsByPartitionAssignments (246) -/

def idLt (x : ByteArray × Nat) (y : ByteArray × Nat) : Bool := if x.2 = y.2 then Op.bytesLess x.1.toList y.1.toList else decide (x.2 < y.2)

theorem drewN_two (w : World) (a b : Nat) : ∃ q, (w.drewN a).drewN b = w.drewN q := ⟨_, World.drewN_drewN ..⟩

set_option maxRecDepth 100000 in
set_option maxHeartbeats 2000000 in
theorem less_ids (A B g off n c r : Nat) (l : List (Value × Value)) (w : World) (x y : ByteArray) (ax ay : Option Addr) (nx ny cx cy : Nat) (i j : Nat) (hi : i < n) (hj : j < n) (hn : n < 4611686018427387904)
    (hx : nx ≤ 1000000000) (hy : ny ≤ 1000000000)
    (hA : w.cell? ⟨A, 0, none⟩ = some (.map (some r)))
    (hB : w.cell? ⟨B, 0, none⟩ = some (.slice (some ⟨g, off, none⟩) n c))
    (ci : w.cell? ⟨g, off + i, none⟩ = some (.string x)) (cj : w.cell? ⟨g, off + j, none⟩ = some (.string y))
    (hm : MapAt w isStr r l) (ex : (.string x, .slice ax nx cx) ∈ l) (ey : (.string y, .slice ay ny cy) ∈ l) :
    Calls Tryz.prog 246 #[.int .i64 i, .int .i64 j, .pointer (some ⟨A, 0, none⟩), .pointer (some ⟨B, 0, none⟩)] w fun e w' => e = .returned (.bool (idLt (x, nx) (y, ny))) ∧ ∃ q, w' = w.drewN q := by
  have l1 : ∀ q, (Instr.lookup 378 (.map (some r)) (.string x) false).run Tryz.prog (w.drewN q) = .ok (.slice ax nx cx) (w.drewN q) := fun q => by
    simpa using map_lookup_hit (P := Tryz.prog) (hm.kept ((Kept.refl [] w).drewN q) (by simp)) (keyT_str Tryz.underlying9) Tryz.underlying378 ex false
  have l2 : ∀ q, (Instr.lookup 378 (.map (some r)) (.string y) false).run Tryz.prog (w.drewN q) = .ok (.slice ay ny cy) (w.drewN q) := fun q => by
    simpa using map_lookup_hit (P := Tryz.prog) (hm.kept ((Kept.refl [] w).drewN q) (by simp)) (keyT_str Tryz.underlying9) Tryz.underlying378 ey false
  have l10 := l1 0
  have l20 := l2 0
  simp only [World.drewN_zero] at l10 l20
  clear hm ex ey
  by_cases h : nx = ny
  · subst h
    have e : idLt (x, nx) (y, nx) = Op.bytesLess x.toList y.toList := by simp [idLt]
    rw [e]; clear e
    go_enter Tryz.func246, Tryz.ntmps246
    go_wp2
    go_quiet (fail)
    go_wp2
    go_quiet (fail)
    go_wp2
    go_ret
    exact ⟨rfl, drewN_two _ _ _⟩
  · have e : idLt (x, nx) (y, ny) = decide (nx < ny) := by simp [idLt, h]
    rw [e]; clear e
    have h0 : ¬ ((nx : Int) - ny = 0) := by omega
    have hw : IntKind.i64.wrap ((nx : Int) - ny) = (nx : Int) - ny := by rw [IntKind.wrap_i64]; omega
    go_enter Tryz.func246, Tryz.ntmps246
    go_wp2
    go_quiet (fail)
    go_wp2
    go_quiet (fail)
    go_wp2
    go_ret
    exact ⟨by simp, drewN_two _ _ _⟩

end Go.Proofs.YticcnlpfmekagaaGreat
namespace Go.Proofs.YticcnlpfmekagaaGreat
open Go Go.Proofs Go.RowKit Go.Lib
open Classical
set_option linter.unusedVariables false
set_option linter.unusedSimpArgs false

/-! ## zzSort (206) at the names of members -/

/-- the names in block g, told with their loads -/
structure IdsAt (w : World) (g off : Nat) (L : List (ByteArray × Nat)) : Prop where
  cell : ∀ k x, L[k]? = some x → w.cell? ⟨g, off + k, none⟩ = some (.string x.1)
  frz : ∀ k, k < L.length → w.frozen? ⟨g, off + k, none⟩ = false

theorem IdsAt.swap {w : World} {g off : Nat} {L : List (ByteArray × Nat)} (h : IdsAt w g off L) {i j : Nat} (hi : i < L.length) (hj : j < L.length) (hne : i ≠ j) (q : Nat) :
    IdsAt (((w.setCell ⟨g, off + i, none⟩ (.string L[j].1)).setCell ⟨g, off + j, none⟩ (.string L[i].1)).drewN q) g off ((L.set i L[j]).set j L[i]) := by
  have ha : ∀ a b : Nat, a ≠ b → (⟨g, off + a, none⟩ : Addr) ≠ ⟨g, off + b, none⟩ := fun a b hn he => hn (by injection he with _ h2; omega)
  have ci := h.cell i L[i] (by simp [hi])
  have cj := h.cell j L[j] (by simp [hj])
  refine ⟨fun k x hk => ?_, fun k hk => ?_⟩
  · rw [World.cell?_drewN]
    by_cases h1 : k = j
    · subst h1
      rw [List.getElem?_set_self (by simpa using hj)] at hk
      cases hk
      apply World.cell?_setCell_same (u := .string L[k].1)
      rw [World.cell?_setCell_other _ _ _ _ (ha _ _ hne)]; exact cj
    · rw [List.getElem?_set_ne (fun e => h1 e.symm)] at hk
      rw [World.cell?_setCell_other _ _ _ _ (ha _ _ (fun e => h1 e.symm))]
      by_cases h2 : k = i
      · subst h2
        rw [List.getElem?_set_self hi] at hk
        cases hk
        apply World.cell?_setCell_same (u := .string L[k].1)
        exact ci
      · rw [List.getElem?_set_ne (fun e => h2 e.symm)] at hk
        rw [World.cell?_setCell_other _ _ _ _ (ha _ _ (fun e => h2 e.symm))]
        exact h.cell k x hk
  · have := h.frz k (by simpa using hk)
    simpa using this

end Go.Proofs.YticcnlpfmekagaaGreat
namespace Go.Proofs.YticcnlpfmekagaaGreat
open Go Go.Proofs Go.RowKit
set_option linter.unusedVariables false
set_option linter.unusedSimpArgs false
/-- the strategies' types, and what a new one holds -/
def stratT : Nat → TypeId
  | 0 => 160
  | 1 => 167
  | 2 => 170
  | _ => 177
def stratO : Nat → Obj
  | 0 => .cells #[.func (.func 90) #[] #[], .string ⟨#[114, 97, 110, 103, 101]⟩] 166
  | 1 => .cells #[] 169
  | 2 => .cells #[.map none, .map none, .bool false] 176
  | _ => .cells #[.map none, .map none, .bool true, .int .i32 (-1)] 181
def dataF : Nat → FuncId
  | 0 => 180
  | 1 => 202
  | 2 => 226
  | _ => 280

set_option maxRecDepth 100000 in
theorem strat0 (w : World) : Calls Tryz.prog 73 #[] w fun e w' => e = .returned (.iface 160 (.pointer (some ⟨w.heap.size, 0, none⟩))) ∧ w' = w.alloc (stratO 0) := by
  go_enter Tryz.func73, Tryz.ntmps73
  go_wp2
  go_ret
  exact ⟨rfl, rfl⟩
set_option maxRecDepth 100000 in
theorem strat2 (w : World) : Calls Tryz.prog 75 #[] w fun e w' => e = .returned (.iface 170 (.pointer (some ⟨w.heap.size, 0, none⟩))) ∧ w' = w.alloc (stratO 2) := by
  go_enter Tryz.func75, Tryz.ntmps75
  go_wp2
  go_ret
  exact ⟨rfl, rfl⟩
set_option maxRecDepth 100000 in
theorem strat1 (w : World) : Calls Tryz.prog 74 #[] w fun e w' => e = .returned (.iface 167 (.pointer (some ⟨w.heap.size, 0, none⟩))) ∧ w' = w.alloc (stratO 1) := by
  go_enter Tryz.func74, Tryz.ntmps74
  go_wp2
  go_ret
  exact ⟨rfl, rfl⟩
set_option maxRecDepth 100000 in
theorem cellStore (b : Nat) (o : Nat) (w : World) (v : Value) (hc : w.cell? ⟨b, o, none⟩ = some v) (hz : w.frozen? ⟨b, o, none⟩ = false) (x : Int) : Calls Tryz.prog 94 #[.pointer (some ⟨b, o, none⟩), .int .i32 x] w fun e w' => e = .returned (.tuple #[]) ∧ w' = w.setCell ⟨b, o, none⟩ (.int .i32 x) := by
  go_enter Tryz.func94, Tryz.ntmps94
  go_wp2
  go_end0
  exact ⟨rfl, rfl⟩
set_option maxRecDepth 100000 in
theorem strat3 (w : World) : Calls Tryz.prog 76 #[] w fun e w' => e = .returned (.iface 177 (.pointer (some ⟨w.heap.size, 0, none⟩))) ∧ w' = w.alloc (stratO 3) := by
  have hcs := fun (w0 : World) v h1 h2 => cellStore w.heap.size 3 w0 v h1 h2 (-1)
  go_enter Tryz.func76, Tryz.ntmps76
  go_wp2_with (go_at_call 94; refine (hcs _ (.int .i32 0) (by simp) (by simp)).mono ?_; rintro e w1 ⟨rfl, rfl⟩)
  go_ret
  exact ⟨rfl, rfl⟩

set_option maxRecDepth 100000 in
theorem strategy_any (n : Nat) (hn : n < 4) (w : World) : Calls Tryz.prog 46 #[.int .i64 n] w fun e w' => e = .returned (.iface (stratT n) (.pointer (some ⟨w.heap.size, 0, none⟩))) ∧ w' = w.alloc (stratO n) := by
  rcases (by omega : n = 0 ∨ n = 1 ∨ n = 2 ∨ n = 3) with rfl | rfl | rfl | rfl
  all_goals
    go_enter Tryz.func46, Tryz.ntmps46
    go_wp2_with (first | (go_at_call 73; refine (strat0 _).mono ?_; rintro e w1 ⟨rfl, rfl⟩) | (go_at_call 74; refine (strat1 _).mono ?_; rintro e w1 ⟨rfl, rfl⟩) | (go_at_call 75; refine (strat2 _).mono ?_; rintro e w1 ⟨rfl, rfl⟩) | (go_at_call 76; refine (strat3 _).mono ?_; rintro e w1 ⟨rfl, rfl⟩))
    go_ret
    exact ⟨rfl, rfl⟩

theorem dataMeth (n : Nat) (hn : n < 4) : IsMeth (stratT n) "AssignmentData" (dataF n) := by
  rcases (by omega : n = 0 ∨ n = 1 ∨ n = 2 ∨ n = 3) with rfl | rfl | rfl | rfl
  all_goals exact ⟨fun a w => by kernel_rfl, fun a w => by kernel_rfl, fun a w => by kernel_rfl⟩

theorem encMeth407 : IsMeth 374 "pub-kestrel/pub/sarama.encode" 407 := ⟨fun a w => by kernel_rfl, fun a w => by kernel_rfl, fun a w => by kernel_rfl⟩
theorem noFlex374 : NoFlex 374 := fun a w => run_typeAssert_lacksB Tryz.underlying242 (by kernel_rfl) (by kernel_rfl) _ _ _

theorem be32_one (n : Int) : ∀ u ∈ be32 n, u.oneCell' = true := by intro u hu; simp [be32] at hu; rcases hu with h | h | h | h <;> subst h <;> rfl
theorem be16_one (n : Int) : ∀ u ∈ be16 n, u.oneCell' = true := by intro u hu; simp [be16] at hu; rcases hu with h | h <;> subst h <;> rfl
theorem byteCells_one (s : ByteArray) : ∀ u ∈ byteCells s, u.oneCell' = true := by
  intro u hu; unfold byteCells at hu; obtain ⟨b, _, rfl⟩ := List.mem_map.1 hu; rfl
theorem be32s_one (xs : List Int) : ∀ u ∈ be32s xs, u.oneCell' = true := by
  intro u hu; unfold be32s at hu; obtain ⟨b, _, h⟩ := List.mem_flatMap.1 hu; exact be32_one _ u h
theorem encV1_one (L : Tops) (g : Int) : ∀ u ∈ encV1 L g, u.oneCell' = true := by
  intro u hu
  unfold encV1 encTs at hu
  rcases List.mem_append.1 hu with hu | hu
  · rcases List.mem_append.1 hu with hu | hu
    · exact be32_one _ u hu
    · obtain ⟨x, _, hx⟩ := List.mem_flatMap.1 hu
      unfold encT encStr encInts at hx
      rcases List.mem_append.1 hx with hx | hx
      · rcases List.mem_append.1 hx with hx | hx
        · exact be16_one _ u hx
        · exact byteCells_one _ u hx
      · rcases List.mem_append.1 hx with hx | hx
        · exact be32_one _ u hx
        · exact be32s_one _ u hx
  · exact be32_one _ u hu
theorem Buf.sl {w : World} {rb : Nat} {bs : List Value} {n : Nat} (h : Buf w rb bs) (hn : bs.length = n) (h1 : ∀ u ∈ bs, u.oneCell' = true) : SlAt w 1 (.slice (some ⟨rb, 0, none⟩) n n) n bs := by
  refine ⟨by omega, h1, .inr ⟨rb, 0, n, rfl, fun j u hj => ?_⟩⟩
  unfold Buf at h
  rw [Nat.zero_add]
  simp [World.cell?, h, hj]

def DataOf (n : Nat) (L : Tops) (gen : Int) (cs : List Value) : Prop := (n ≠ 2 ∧ cs = []) ∨ (n = 2 ∧ ∃ L', L'.Perm L ∧ cs = encV1 L' gen)

set_option maxRecDepth 100000 in
set_option maxHeartbeats 1000000 in
theorem data_any (n : Nat) (hn : n < 4) (w : World) (mem : ByteArray) (r : Nat) (L : Tops) (gen : Int) (hL : TopsAt w r L) (hg : isI32 gen) (hroom : (encV1 L gen).length ≤ 1000000) (hsz : ∀ x ∈ L, x.1.size ≤ 32767)
    (hlt : ∀ x ∈ L, ∀ g, x.2.1.ownBlock = some g → g < w.heap.size) (a : Addr) :
    Calls Tryz.prog (dataF n) #[.pointer (some a), .string mem, .map (some r), .int .i32 gen] w fun e w' => ∃ v cs, e = .returned (.tuple #[v, .nilIface]) ∧ DataOf n L gen cs ∧ SlAt w' 1 v cs.length cs ∧ Kept [] w w' := by
  rcases (by omega : n = 0 ∨ n = 1 ∨ n = 2 ∨ n = 3) with rfl | rfl | rfl | rfl
  · go_enter Tryz.func180, Tryz.ntmps180
    go_wp2
    go_ret2
    exact ⟨_, [], rfl, .inl ⟨by omega, rfl⟩, SlAt.nil _ _, Kept.refl _ _⟩
  · go_enter Tryz.func202, Tryz.ntmps202
    go_wp2
    go_ret2
    exact ⟨_, [], rfl, .inl ⟨by omega, rfl⟩, SlAt.nil _ _, Kept.refl _ _⟩
  · have hlen : ∀ bs, (∃ L', L'.Perm L ∧ bs = encV1 L' gen) → bs.length = (encV1 L gen).length := by
      rintro bs ⟨L', hp, rfl⟩
      simp only [encV1, List.length_append, encTs_perm_length hp, hp.length_eq]
    have hm0 : ((w.alloc (.cells #[.map (some r), .int .i32 gen, .slice none 0 0] 377))).heap[w.heap.size]? = some (.cells #[.map (some r), .int .i32 gen, .slice none 0 0] 377 (0, 0)) := heap_alloc_new w _
    have hrl := hL.map.lt
    have he := encode_any 374 407 ⟨w.heap.size, 0, none⟩ encMeth407 noFlex374 (w.alloc (.cells #[.map (some r), .int .i32 gen, .slice none 0 0] 377)) (fun bs => ∃ L', L'.Perm L ∧ bs = encV1 L' gen) (encV1 L gen).length hlen (by omega)
      (fun s w' hk ho hs hmax => by
        have k0 : Kept [] w w' := ((Kept.refl [] w).alloc _).trans hk (by simp) (by simp)
        have := v1_encode s w.heap.size r (.slice none 0 0) gen L w' [] hs (hk.heap hm0 (by simp)) (hL.kept k0 (by simp) (by simp)) hg (by simpa using hmax) hsz
          (fun h => by have := ho _ h; simp only [World.size_alloc] at this; omega) (fun h => by have := ho _ h; simp only [World.size_alloc] at this; omega) (fun x hx g h1 h2 => by have := ho _ h2; have := hlt x hx g h1; simp only [World.size_alloc] at *; omega)
        refine this.mono ?_
        rintro e w2 ⟨rfl, L', hp, hst, hk2⟩
        exact ⟨rfl, _, ⟨L', hp, rfl⟩, by simpa using hst, hk2⟩)
    have HE := Lib.hid he; clear he
    have HL := Lib.hid hlen; clear hlen
    clear hL
    go_enter Tryz.func226, Tryz.ntmps226
    go_wp2_with (go_at_call 80; refine (HE.out).mono ?_; rintro e w1 ⟨rb, bs, rfl, hbs, hbuf, hk1, hrb⟩)
    go_ret2
    have hl := HL.out _ hbs
    obtain ⟨L', hp, rfl⟩ := hbs
    refine ⟨_, _, rfl, .inr ⟨rfl, L', hp, rfl⟩, ?_, ((Kept.refl [] w).alloc _).trans hk1 (by simp) (by simp)⟩
    rw [← hl]
    exact hbuf.sl rfl (encV1_one _ _)
  · go_enter Tryz.func280, Tryz.ntmps280
    go_wp2
    go_ret2
    exact ⟨_, [], rfl, .inl ⟨by omega, rfl⟩, SlAt.nil _ _, Kept.refl _ _⟩
end Go.Proofs.YticcnlpfmekagaaGreat
