/- Part 3 of the proof of the row: Map. -/
import Derived.Test.YticcnlpfmekagaaGreatRc00
import Derived.Test.YticcnlpfmekagaaGreatRc02
set_option linter.unusedVariables false
set_option linter.unusedSimpArgs false
set_option maxRecDepth 100000
set_option maxHeartbeats 8000000
namespace Go.Proofs.YticcnlpfmekagaaGreat
section
open Go Go.RowKit
open Classical
noncomputable def findVal (k : Value) : List MapEntry → Nat → Option (Nat × Value)
 | [], _ => none
 | e :: es, i => if k = e.key then some (i, e.val) else findVal k es (i + 1)
structure KeyT (P : Program) (T : TypeId) (V : Value → Prop) : Prop where
 check : ∀ k em w, V k → (Instr.checkKey em 10000 T k).run P w = .ok () w
 find : ∀ k (es : List MapEntry) w, V k → (∀ e ∈ es, V e.key) → (Instr.findKey T k es).run P w = .ok (findVal k es 0) w
 stay : ∀ k w, V k → (Instr.keyThatStays k k).run P w = .ok k w
def isStr (v : Value) : Prop := ∃ s, v = .string s
def isInt (q : IntKind) (v : Value) : Prop := ∃ n, v = .int q n
def isTp (v : Value) : Prop := ∃ s n, v = .agg #[.string s, .int .i32 n]
theorem ba_beq (a b : ByteArray) : (a == b) = decide (a = b) := by
 obtain ⟨⟨x⟩⟩ := a
 obtain ⟨⟨y⟩⟩ := b
 show ((⟨x⟩ : Array UInt8) == ⟨y⟩) = _
 by_cases h : x = y
 · subst h; simp
 · simp [h]
theorem findNow_str (s : ByteArray) : ∀ (es : List MapEntry) (i : Nat), (∀ e ∈ es, isStr e.key) → Instr.findNow .string (.string s) es i = some (findVal (.string s) es i)
 | [], i, _ => rfl
 | e :: es, i, h => by
   obtain ⟨t, ht⟩ := h e (by simp)
   have ih := findNow_str s es (i + 1) (fun e he => h e (by simp [he]))
   by_cases hst : s = t
   · subst hst; simp [Instr.findNow, Instr.sameNow, ht, findVal, ba_beq]
   · simp [Instr.findNow, Instr.sameNow, ht, findVal, hst, ba_beq, ih]
theorem findNow_int (q : IntKind) (n : Int) : ∀ (es : List MapEntry) (i : Nat), (∀ e ∈ es, isInt q e.key) → Instr.findNow (.int q) (.int q n) es i = some (findVal (.int q n) es i)
 | [], i, _ => rfl
 | e :: es, i, h => by
   obtain ⟨t, ht⟩ := h e (by simp)
   have ih := findNow_int q n es (i + 1) (fun e he => h e (by simp [he]))
   by_cases hst : n = t
   · subst hst; simp [Instr.findNow, Instr.sameNow, ht, findVal]
   · have hb : (n == t) = false := by simpa using hst
     simp [Instr.findNow, Instr.sameNow, ht, findVal, hst, hb, ih]
def flat : Value → Prop
 | .string _ | .int _ _ | .bool _ => True
 | .agg cs => ∀ v ∈ cs.toList, (∃ s, v = .string s) ∨ (∃ q n, v = .int q n)
 | _ => False
theorem sb_self (n : Nat) (v : Value) (h : flat v) : Instr.sameBits (n + 2) v v = true := by
 cases v <;> simp [flat] at h <;> simp [Instr.sameBits, ba_beq]
 rename_i cs
 intro a b hz
 have : ∀ (l : List Value) (p : Value × Value), p ∈ l.zip l → p.1 = p.2 ∧ p.1 ∈ l := by
  intro l
  induction l with
  | nil => simp
  | cons x l ih =>
    intro p hp
    simp only [List.zip_cons_cons, Zmc] at hp
    rcases hp with rfl | hp
    · simp
    · have := ih p hp; exact ⟨this.1, by simp [this.2]⟩
 obtain ⟨h1, h2⟩ := this _ _ hz
 simp only at h1 h2
 subst h1
 rcases h a (by simpa using h2) with ⟨s, rfl⟩ | ⟨q, k, rfl⟩ <;> simp [Instr.sameBits, ba_beq]
theorem stay_flat {P : Program} {v : Value} (w : World) (h : flat v) : (Instr.keyThatStays v v).run P w = .ok v w := by
 have hs := sb_self 9998 v h
 simp only [Instr.keyThatStays]
 rw [if_pos hs]
 rfl
def noParts : TypeDesc → Bool
 | .string | .int _ | .bool => true
 | _ => false
theorem ck_plain {P : Program} {T : TypeId} {d : TypeDesc} (h : P.underlying T = some d) (hd : noParts d = true) (v : Value) (w : World) (n : Nat) {em : Bool} :
 (Instr.checkKey em (n + 1) T v).run P w = .ok () w := by
 cases d <;> simp [noParts] at hd <;> simp [Instr.checkKey, run_underlying h]
theorem keyT_str {P : Program} {T : TypeId} (h : P.underlying T = some .string) : KeyT P T isStr where
 check := by
  rintro k em w ⟨s, rfl⟩
  exact ck_plain h rfl _ _ 9999
 find := by
  rintro k es w ⟨s, rfl⟩ hes
  simp [Instr.findKey, run_underlying h, findNow_str s es 0 hes]
 stay := by
  rintro k w ⟨s, rfl⟩
  exact stay_flat w (by simp [flat])
theorem keyT_int {P : Program} {T : TypeId} {q : IntKind} (h : P.underlying T = some (.int q)) : KeyT P T (isInt q) where
 check := by
  rintro k em w ⟨s, rfl⟩
  exact ck_plain h rfl _ _ 9999
 find := by
  rintro k es w ⟨s, rfl⟩ hes
  simp [Instr.findKey, run_underlying h, findNow_int q s es 0 hes]
 stay := by
  rintro k w ⟨s, rfl⟩
  exact stay_flat w (by simp [flat])
theorem findAsking_of {P : Program} {T : TypeId} {V : Value → Prop} (heq : ∀ a b w, V a → V b → (Op.equal T a b).run P w = .ok (decide (a = b)) w) (k : Value) (hk : V k) (w : World) :
 ∀ (es : List MapEntry) (i : Nat), (∀ e ∈ es, V e.key) → (Instr.findAsking T k es i).run P w = .ok (findVal k es i) w
 | [], i, _ => rfl
 | e :: es, i, h => by
   have ih := findAsking_of heq k hk w es (i + 1) (fun e he => h e (by simp [he]))
   have h1 := heq k e.key w hk (h e (by simp))
   by_cases hst : k = e.key
   · subst hst; simp [Instr.findAsking, Sem.run_bind, h1, findVal]
   · simp [Instr.findAsking, Sem.run_bind, h1, hst, findVal, ih]
theorem findKey_of {P : Program} {T : TypeId} {V : Value → Prop} {fs : Array Field} (hT : P.underlying T = some (.struct fs)) (hV : ∀ v, V v → ∃ cs, v = .agg cs)
 (heq : ∀ a b w, V a → V b → (Op.equal T a b).run P w = .ok (decide (a = b)) w) (k : Value) (hk : V k) (w : World)
 (es : List MapEntry) (h : ∀ e ∈ es, V e.key) : (Instr.findKey T k es).run P w = .ok (findVal k es 0) w := by
 have ha := findAsking_of heq k hk w es 0 h
 obtain ⟨cs, rfl⟩ := hV k hk
 cases es with
 | nil => simp [Instr.findKey, run_underlying hT, Instr.findNow, findVal]
 | cons e es =>
   simp [Instr.findKey, run_underlying hT, Instr.findNow, Instr.sameNow, ha]
def MapObj (V : Value → Prop) (l : List (Value × Value)) (es : Array MapEntry) (clock : Nat) : Prop :=
 es.toList.map (fun e => (e.key, e.val)) = l ∧ (es.toList.map MapEntry.born).Pairwise (· < ·) ∧ (∀ e ∈ es.toList, e.born < clock) ∧ (∀ p ∈ l, V p.1) ∧ (l.map (·.1)).Nodup
def MapAt (w : World) (V : Value → Prop) (r : Nat) (l : List (Value × Value)) : Prop := ∃ es clock, w.heap[r]? = some (.map es clock) ∧ MapObj V l es clock
theorem MapAt.lt {w : World} {V : Value → Prop} {r : Nat} {l : List (Value × Value)} (h : MapAt w V r l) : r < w.heap.size := by
 obtain ⟨es, c, h, _⟩ := h; exact lt_of_heap h
theorem MapAt.kept {w w' : World} {V : Value → Prop} {r : Nat} {l : List (Value × Value)} {S : List Nat} (h : MapAt w V r l) (k : Kept S w w') (hs : r ∉ S) : MapAt w' V r l := by
 obtain ⟨es, c, h, ho⟩ := h; exact ⟨es, c, k.heap h hs, ho⟩
theorem MapAt.alloc {w : World} {V : Value → Prop} {r : Nat} {l : List (Value × Value)} (h : MapAt w V r l) (o : Obj) : MapAt (w.alloc o) V r l := by
 obtain ⟨es, c, h, ho⟩ := h; exact ⟨es, c, ha h, ho⟩
theorem MapAt.drew {w : World} {V : Value → Prop} {r : Nat} {l : List (Value × Value)} (h : MapAt w V r l) : MapAt w.drew V r l := h
theorem MapAt.setCell {w : World} {V : Value → Prop} {r : Nat} {l : List (Value × Value)} (h : MapAt w V r l) (a : Addr) (u : Value) (hne : r ≠ a.block) : MapAt (w.setCell a u) V r l := by
 obtain ⟨es, c, h, ho⟩ := h; exact ⟨es, c, hs hne h, ho⟩
theorem MapAt.keys {w : World} {V : Value → Prop} {r : Nat} {l : List (Value × Value)} (h : MapAt w V r l) : ∀ p ∈ l, V p.1 := by
 obtain ⟨es, c, h, ho⟩ := h; exact ho.2.2.2.1
theorem MapAt.nodup {w : World} {V : Value → Prop} {r : Nat} {l : List (Value × Value)} (h : MapAt w V r l) : (l.map (·.1)).Nodup := by
 obtain ⟨es, c, h, ho⟩ := h; exact ho.2.2.2.2
theorem MapAt.new (w : World) (V : Value → Prop) : MapAt (w.alloc (.map #[] 0)) V w.heap.size [] :=
 ⟨#[], 0, heap_alloc_new w _, by simp [MapObj]⟩
theorem findVal_none {k : Value} : ∀ {es : List MapEntry} {i : Nat}, findVal k es i = none → ∀ v, (k, v) ∉ es.map (fun e => (e.key, e.val))
 | [], _, _, _ => by simp
 | e :: es, i, h, v => by
   unfold findVal at h
   split at h
   · cases h
   · rename_i hne
     have := findVal_none h v
     simp only [List.map_cons, Zmc, not_or]
     exact ⟨fun hh => hne (Prod.mk.inj hh).1, this⟩
theorem findVal_some {k : Value} : ∀ {es : List MapEntry} {i j : Nat} {v : Value}, findVal k es i = some (j, v) → ∃ l1 e l2, es = l1 ++ e :: l2 ∧ j = i + l1.length ∧ e.key = k ∧ e.val = v ∧ (∀ x ∈ l1, x.key ≠ k)
 | [], _, _, _, h => by cases h
 | e :: es, i, j, v, h => by
   unfold findVal at h
   split at h
   · rename_i he
     simp only [Option.some.injEq, Prod.mk.injEq] at h
     exact ⟨[], e, es, rfl, by simp [h.1], he.symm, h.2, by simp⟩
   · rename_i hne
     obtain ⟨l1, e', l2, h1, h2, h3, h4, h5⟩ := findVal_some h
     refine ⟨e :: l1, e', l2, by simp [h1], by simp; omega, h3, h4, ?_⟩
     intro x hx
     rcases Zmc.1 hx with rfl | hx
     · exact fun h => hne h.symm
     · exact h5 x hx
theorem findVal_hit {k v : Value} {es : List MapEntry} {i : Nat} (hn : (es.map (·.key)).Nodup) (h : (k, v) ∈ es.map (fun e => (e.key, e.val))) : ∃ j, findVal k es i = some (j, v) := by
 cases hf : findVal k es i with
 | none => exact absurd h (findVal_none hf v)
 | some p =>
   obtain ⟨j, u⟩ := p
   obtain ⟨l1, e, l2, h1, h2, h3, h4, h5⟩ := findVal_some hf
   refine ⟨j, ?_⟩
   subst h1
   simp only [List.map_append, List.map_cons, Zap, Zmc] at h
   have hk : ∀ (x : MapEntry), x ∈ l1 ++ l2 → x.key ≠ k := by
    intro x hx hxk
    have := hn
    rw [List.map_append, List.map_cons] at this
    have hp : (l1 ++ e :: l2).map (·.key) = l1.map (·.key) ++ e.key :: l2.map (·.key) := by simp
    have h6 := List.nodup_append.1 this
    rcases Zap.1 hx with hx | hx
    · exact h5 x hx hxk
    · have h7 := (List.nodup_cons.1 h6.2.1).1
      exact h7 (by rw [h3, ← hxk]; exact List.mem_map_of_mem hx)
   rcases h with h | h | h
   · obtain ⟨x, hx, hxe⟩ := List.mem_map.1 h
     exact absurd (Prod.mk.inj hxe).1 (hk x (by simp [hx]))
   · obtain ⟨h7, h8⟩ := Prod.mk.inj h
     rw [h8, h4]
   · obtain ⟨x, hx, hxe⟩ := List.mem_map.1 h
     exact absurd (Prod.mk.inj hxe).1 (hk x (by simp [hx]))
theorem run_getMap {P : Program} {w : World} {r : Nat} {es : Array MapEntry} {c : Nat} (h : w.heap[r]? = some (.map es c)) : (getObj r).run P w = .ok (.map es c) w := by
 simp [getObj, Sem.run, h]
theorem run_setMap {P : Program} {w : World} {r : Nat} {es : Array MapEntry} {c : Nat} (h : w.heap[r]? = some (.map es c)) (o : Obj) : (setObj r o).run P w = .ok () { w with heap := w.heap.setIfInBounds r o } := by
 simp [setObj, Sem.run, h]
section
variable {P : Program} {w : World} {V : Value → Prop} {r : Nat} {l : List (Value × Value)} {T kT eT : TypeId}
theorem map_lookup_hit (h : MapAt w V r l) (K : KeyT P kT V) (hT : P.underlying T = some (.map kT eT)) {k v : Value} (hk : (k, v) ∈ l) (ok : Bool) :
 (Instr.lookup T (.map (some r)) k ok).run P w = .ok (if ok then .tuple #[v, .bool true] else v) w := by
 obtain ⟨es, c, hr, hl, hb, hc, hV, hn⟩ := h
 have hVk : V k := hV _ hk
 have hes : ∀ e ∈ es.toList, V e.key := fun e he => hV (e.key, e.val) (by rw [← hl]; exact List.mem_map_of_mem (f := fun e : MapEntry => (e.key, e.val)) he)
 obtain ⟨j, hj⟩ := findVal_hit (i := 0) (es := es.toList) (k := k) (v := v) (by rw [← hl] at hn; simpa [Function.comp_def] using hn) (by rw [hl]; exact hk)
 simp only [Instr.lookup, Sem.run_bind, run_underlying hT, Result.andThen_ok, run_getMap hr, Sem.run_pure, K.check _ _ _ hVk, K.find _ _ _ hVk hes, hj]
theorem map_lookup_miss (h : MapAt w V r l) (K : KeyT P kT V) (hT : P.underlying T = some (.map kT eT)) {k z : Value} (hVk : V k) (hk : ∀ v, (k, v) ∉ l) (hz : (zeroValue eT).run P w = .ok z w) (ok : Bool) :
 (Instr.lookup T (.map (some r)) k ok).run P w = .ok (if ok then .tuple #[z, .bool false] else z) w := by
 obtain ⟨es, c, hr, hl, hb, hc, hV, hn⟩ := h
 have hes : ∀ e ∈ es.toList, V e.key := fun e he => hV (e.key, e.val) (by rw [← hl]; exact List.mem_map_of_mem (f := fun e : MapEntry => (e.key, e.val)) he)
 have hj : findVal k es.toList 0 = none := by
  cases hf : findVal k es.toList 0 with
  | none => rfl
  | some p =>
    obtain ⟨j, u⟩ := p
    obtain ⟨l1, e, l2, h1, h2, h3, h4, h5⟩ := findVal_some hf
    exact absurd (by rw [← hl, h1]; simp [h3, h4]) (hk u)
 simp only [Instr.lookup, Sem.run_bind, run_underlying hT, Result.andThen_ok, run_getMap hr, Sem.run_pure, K.check _ _ _ hVk, K.find _ _ _ hVk hes, hj, hz]
noncomputable def putE (l : List (Value × Value)) (k v : Value) : List (Value × Value) :=
 if ∃ u, (k, u) ∈ l then l.map (fun p => if p.1 = k then (k, v) else p) else l ++ [(k, v)]
noncomputable def delE (l : List (Value × Value)) (k : Value) : List (Value × Value) := l.filter (fun p => p.1 ≠ k)
theorem putE_hit {l1 l2 : List (Value × Value)} {k u : Value} (hn : ((l1 ++ (k, u) :: l2).map (·.1)).Nodup) (v : Value) : putE (l1 ++ (k, u) :: l2) k v = l1 ++ (k, v) :: l2 := by
 unfold putE
 rw [if_pos ⟨u, by simp⟩]
 have h0 : ∀ (x : Value × Value), x ∈ l1 ++ l2 → x.1 ≠ k := by
  intro x hx hxk
  rw [List.map_append, List.map_cons] at hn
  have h6 := List.nodup_append.1 hn
  rcases Zap.1 hx with hx | hx
  · exact h6.2.2 x.1 (List.mem_map_of_mem hx) k (by simp) hxk
  · exact (List.nodup_cons.1 h6.2.1).1 (List.mem_map.2 ⟨x, hx, hxk⟩)
 have hm : ∀ (m : List (Value × Value)), (∀ x ∈ m, x.1 ≠ k) → m.map (fun p => if p.1 = k then (k, v) else p) = m := by
  intro m hm
  rw [List.map_congr_left (g := id) (fun x hx => by simp [hm x hx]), List.map_id]
 rw [List.map_append, List.map_cons, hm l1 (fun x hx => h0 x (by simp [hx])), hm l2 (fun x hx => h0 x (by simp [hx]))]
 simp
theorem putE_miss {l : List (Value × Value)} {k : Value} (hk : ∀ u, (k, u) ∉ l) (v : Value) : putE l k v = l ++ [(k, v)] := by
 unfold putE; rw [if_neg (by rintro ⟨u, hu⟩; exact hk u hu)]
theorem delE_hit {l1 l2 : List (Value × Value)} {k u : Value} (hn : ((l1 ++ (k, u) :: l2).map (·.1)).Nodup) : delE (l1 ++ (k, u) :: l2) k = l1 ++ l2 := by
 unfold delE
 have h0 : ∀ (x : Value × Value), x ∈ l1 ++ l2 → x.1 ≠ k := by
  intro x hx hxk
  rw [List.map_append, List.map_cons] at hn
  have h6 := List.nodup_append.1 hn
  rcases Zap.1 hx with hx | hx
  · exact h6.2.2 x.1 (List.mem_map_of_mem hx) k (by simp) hxk
  · exact (List.nodup_cons.1 h6.2.1).1 (List.mem_map.2 ⟨x, hx, hxk⟩)
 rw [List.filter_append, List.filter_cons]
 simp only [ne_eq, not_true_eq_false, decide_false, Bool.false_eq_true, if_false]
 rw [List.filter_eq_self.2 (fun x hx => by simpa using h0 x (by simp [hx])), List.filter_eq_self.2 (fun x hx => by simpa using h0 x (by simp [hx]))]
theorem delE_miss {l : List (Value × Value)} {k : Value} (hk : ∀ u, (k, u) ∉ l) : delE l k = l := by
 unfold delE
 exact List.filter_eq_self.2 (fun x hx => by simp only [ne_eq, decide_eq_true_eq]; rintro rfl; exact hk x.2 hx)
theorem setBlk_at (w : World) {r : Nat} {o : Obj} (o' : Obj) (h : w.heap[r]? = some o) : ({ w with heap := w.heap.setIfInBounds r o' } : World).heap[r]? = some o' := by
 have := lt_of_heap h
 simp [this]
theorem setBlk_kept (w : World) (r : Nat) (o' : Obj) : Kept [r] w { w with heap := w.heap.setIfInBounds r o' } :=
 ⟨rfl, rfl, rfl, by simp, fun k _ hn => by simp only [Zmc, Znn, or_false] at hn; simp [Ne.symm hn]⟩
theorem list_modify_at {α : Type} (f : α → α) : ∀ (l1 : List α) (e : α) (l2 : List α), (l1 ++ e :: l2).modify l1.length f = l1 ++ f e :: l2
 | [], e, l2 => by simp
 | x :: l1, e, l2 => by simp [list_modify_at f l1 e l2]
theorem map_update (h : MapAt w V r l) (K : KeyT P kT V) (hT : P.underlying T = some (.map kT eT)) {k : Value} (hVk : V k) (v : Value) :
 ∃ w', (Instr.mapUpdate T (.map (some r)) k v).run P w = .ok () w' ∧ MapAt w' V r (putE l k v) ∧ Kept [r] w w' ∧ w'.heap.size = w.heap.size := by
 obtain ⟨es, c, hr, hl, hb, hc, hV, hn⟩ := h
 have hes : ∀ e ∈ es.toList, V e.key := fun e he => hV (e.key, e.val) (by rw [← hl]; exact List.mem_map_of_mem (f := fun e : MapEntry => (e.key, e.val)) he)
 cases hf : findVal k es.toList 0 with
 | none =>
   refine ⟨{ w with heap := w.heap.setIfInBounds r (.map (es.push { key := k, val := v, born := c }) (c + 1)) }, ?_, ⟨_, _, setBlk_at w _ hr, ?_⟩, setBlk_kept _ _ _, by simp⟩
   · simp only [Instr.mapUpdate, Sem.run_bind, run_underlying hT, Result.andThen_ok, run_getMap hr, K.check _ _ _ hVk, K.find _ _ _ hVk hes, hf]
     exact run_setMap hr _
   · have hmiss : ∀ u, (k, u) ∉ l := fun u => by rw [← hl]; exact findVal_none hf u
     rw [putE_miss hmiss]
     refine ⟨by simp [hl], ?_, ?_, ?_, ?_⟩
     · simp only [Array.toList_push, List.map_append, List.map_cons, List.map_nil]
       refine List.pairwise_append.2 ⟨hb, by simp, ?_⟩
       intro a ha b hb'
       simp only [Zmc, Znn, or_false] at hb'
       obtain ⟨e, he, rfl⟩ := List.mem_map.1 ha
       rw [hb']; exact hc e he
     · intro e he
       simp only [Array.toList_push, Zap, Zmc, Znn, or_false] at he
       rcases he with he | rfl
       · have := hc e he; omega
       · simp
     · intro p hp
       rcases Zap.1 hp with hp | hp
       · exact hV p hp
       · simp only [Zmc, Znn, or_false] at hp; subst hp; exact hVk
     · rw [List.map_append]
       refine List.nodup_append.2 ⟨hn, by simp, ?_⟩
       intro a ha b hb'
       simp only [List.map_cons, List.map_nil, Zmc, Znn, or_false] at hb'
       subst hb'
       obtain ⟨p, hp, rfl⟩ := List.mem_map.1 ha
       rintro rfl; exact hmiss p.2 hp
 | some p =>
   obtain ⟨j, u⟩ := p
   obtain ⟨l1, e, l2, h1, h2, h3, h4, h5⟩ := findVal_some hf
   have hj : j = l1.length := by omega
   subst hj
   have hei : es[l1.length]? = some e := by rw [← Array.getElem?_toList, h1]; simp
   have hl' : l = l1.map (fun e => (e.key, e.val)) ++ (k, u) :: l2.map (fun e => (e.key, e.val)) := by rw [← hl, h1]; simp [h3, h4]
   refine ⟨{ w with heap := w.heap.setIfInBounds r (.map (es.modify l1.length fun e => { e with key := k, val := v }) c) }, ?_, ⟨_, _, setBlk_at w _ hr, ?_⟩, setBlk_kept _ _ _, by simp⟩
   · simp only [Instr.mapUpdate, Sem.run_bind, run_underlying hT, Result.andThen_ok, run_getMap hr, K.check _ _ _ hVk, K.find _ _ _ hVk hes, hf, hei, Option.map_some, Option.getD_some, h3, K.stay _ _ hVk]
     exact run_setMap hr _
   · rw [hl'] at hn
     rw [hl', putE_hit hn]
     have hmod : (es.modify l1.length fun e => { e with key := k, val := v }).toList = l1 ++ { e with key := k, val := v } :: l2 := by
      rw [Array.toList_modify, h1, list_modify_at]
     refine ⟨by rw [hmod]; simp, ?_, ?_, ?_, ?_⟩
     · rw [hmod]; rw [h1] at hb; simpa using hb
     · intro x hx
       rw [hmod] at hx
       rw [h1] at hc
       rcases Zap.1 hx with hx | hx
       · exact hc x (by simp [hx])
       · rcases Zmc.1 hx with rfl | hx
         · exact hc e (by simp)
         · exact hc x (by simp [hx])
     · intro p hp
       rw [hl'] at hV
       rcases Zap.1 hp with hp | hp
       · exact hV p (by simp [hp])
       · rcases Zmc.1 hp with rfl | hp
         · exact hVk
         · exact hV p (by simp [hp])
     · simpa using hn
theorem map_delete (h : MapAt w V r l) (K : KeyT P kT V) (hT : P.underlying T = some (.map kT eT)) {k : Value} (hVk : V k) (ty : TypeId) (t2 : TypeId) :
 ∃ w', (Builtin.delete_ #[T, t2] ty #[.map (some r), k]).run P w = .ok (.tuple #[]) w' ∧ MapAt w' V r (delE l k) ∧ Kept [r] w w' ∧ w'.heap.size = w.heap.size := by
 obtain ⟨es, c, hr, hl, hb, hc, hV, hn⟩ := h
 have hes : ∀ e ∈ es.toList, V e.key := fun e he => hV (e.key, e.val) (by rw [← hl]; exact List.mem_map_of_mem (f := fun e : MapEntry => (e.key, e.val)) he)
 cases hf : findVal k es.toList 0 with
 | none =>
   refine ⟨{ w with heap := w.heap.setIfInBounds r (.map es c) }, ?_, ⟨_, _, setBlk_at w _ hr, ?_⟩, setBlk_kept _ _ _, by simp⟩
   · simp [Builtin.delete_, Sem.run_bind, run_underlying hT, Result.andThen_ok, run_getMap hr, K.check _ _ _ hVk, K.find _ _ _ hVk hes, hf, run_setMap hr]
   · have hmiss : ∀ u, (k, u) ∉ l := fun u => by rw [← hl]; exact findVal_none hf u
     rw [delE_miss hmiss]; exact ⟨hl, hb, hc, hV, hn⟩
 | some p =>
   obtain ⟨j, u⟩ := p
   obtain ⟨l1, e, l2, h1, h2, h3, h4, h5⟩ := findVal_some hf
   have hj : j = l1.length := by omega
   subst hj
   have hl' : l = l1.map (fun e => (e.key, e.val)) ++ (k, u) :: l2.map (fun e => (e.key, e.val)) := by rw [← hl, h1]; simp [h3, h4]
   refine ⟨{ w with heap := w.heap.setIfInBounds r (.map (es.eraseIdxIfInBounds l1.length) c) }, ?_, ⟨_, _, setBlk_at w _ hr, ?_⟩, setBlk_kept _ _ _, by simp⟩
   · simp [Builtin.delete_, Sem.run_bind, run_underlying hT, Result.andThen_ok, run_getMap hr, K.check _ _ _ hVk, K.find _ _ _ hVk hes, hf, run_setMap hr]
   · rw [hl'] at hn
     rw [hl', delE_hit hn]
     have hmod : (es.eraseIdxIfInBounds l1.length).toList = l1 ++ l2 := by
      rw [Array.eraseIdxIfInBounds_eq, dif_pos (by rw [← Array.length_toList, h1]; simp), Array.toList_eraseIdx, h1]
      rw [List.eraseIdx_append_of_length_le (by simp)]; simp
     refine ⟨by rw [hmod]; simp, ?_, ?_, ?_, ?_⟩
     · rw [hmod]; rw [h1] at hb
       refine hb.sublist ?_
       simp
     · intro x hx
       rw [hmod] at hx
       rw [h1] at hc
       rcases Zap.1 hx with hx | hx <;> exact hc x (by simp [hx])
     · intro p hp
       rw [hl'] at hV
       rcases Zap.1 hp with hp | hp <;> exact hV p (by simp [hp])
     · refine hn.sublist ?_
       simp
theorem map_len (h : MapAt w V r l) (hT : P.underlying T = some (.map kT eT)) (ty : TypeId) : (Builtin.len_ #[T] ty #[.map (some r)]).run P w = .ok (.int .i64 l.length) w := by
 obtain ⟨es, c, hr, hl, hb, hc, hV, hn⟩ := h
 have : es.size = l.length := by rw [← hl]; simp
 simp [Builtin.len_, Sem.run_bind, run_underlying hT, Result.andThen_ok, run_getMap hr, goInt, this]
end
def IterAt (w : World) (it r : Nat) (l left : List (Value × Value)) : Prop :=
 ∃ es clock since seen last, w.heap[it]? = some (.mapIter (some r) since seen last) ∧ w.heap[r]? = some (.map es clock) ∧
  es.toList.map (fun e => (e.key, e.val)) = l ∧ (es.toList.map MapEntry.born).Pairwise (· < ·) ∧ (∀ e ∈ es.toList, e.born < since) ∧ (∀ e ∈ es.toList, e.born < last) ∧ (∀ e ∈ es.toList, e.born < clock) ∧
  left = (es.toList.filter (fun e => !seen.contains e.born)).map (fun e => (e.key, e.val))
def EntryAt (w : World) (it r : Nat) (k v : Value) : Prop :=
 ∃ es clock since seen s, w.heap[it]? = some (.mapIter (some r) since (Array.push seen s) clock) ∧ w.heap[r]? = some (.map es clock) ∧
  ∃ e ∈ es.toList, e.born = s ∧ e.key = k ∧ e.val = v ∧ (es.toList.map MapEntry.born).Pairwise (· < ·)
section
variable {P : Program} {w : World} {V : Value → Prop} {r it : Nat} {l left : List (Value × Value)} {T kT eT : TypeId}
theorem IterAt.kept {w' : World} {S : List Nat} (h : IterAt w it r l left) (k : Kept S w w') (h1 : it ∉ S) (h2 : r ∉ S) : IterAt w' it r l left := by
 obtain ⟨es, c, si, se, la, a, b, rest⟩ := h
 exact ⟨es, c, si, se, la, k.heap a h1, k.heap b h2, rest⟩
theorem IterAt.lt (h : IterAt w it r l left) : it < w.heap.size := by
 obtain ⟨es, c, si, se, la, a, b, rest⟩ := h; exact lt_of_heap a
def leftOf (w : World) (it r : Nat) : Nat :=
 match w.heap[it]?, w.heap[r]? with
 | some (.mapIter _ _ seen _), some (.map es _) => (es.toList.filter (fun e => !seen.contains e.born)).length
 | _, _ => 0
theorem IterAt.leftOf (h : IterAt w it r l left) : leftOf w it r = left.length := by
 obtain ⟨es, c, si, se, la, a, b, _, _, _, _, _, hl⟩ := h
 simp [YticcnlpfmekagaaGreat.leftOf, a, b, hl]
theorem map_range (h : MapAt w V r l) (hT : P.underlying T = some (.map kT eT)) :
 ∃ w', (Instr.range T (.map (some r))).run P w = .ok (.pointer (some ⟨w.heap.size, 0, none⟩)) w' ∧ IterAt w' w.heap.size r l l ∧ Kept [] w w' ∧ w'.heap.size = w.heap.size + 1 ∧ MapAt w' V r l := by
 have hm := h
 obtain ⟨es, c, hr, hl, hb, hc, hV, hn⟩ := h
 refine ⟨w.alloc (.mapIter (some r) c #[] c), ?_, ⟨es, c, c, #[], c, heap_alloc_new w _, ha hr, hl, hb, hc, hc, hc, by rw [← hl]; congr 1; exact (List.filter_eq_self.2 (fun _ _ => by simp)).symm⟩, (Kept.refl _ _).alloc _, by simp, hm.alloc _⟩
 simp [Instr.range, Sem.run_bind, run_underlying hT, Result.andThen_ok, run_getMap hr]
theorem run_getIter {P : Program} {w : World} {it : Nat} {m : Option Nat} {a : Nat} {s : Array Nat} {b : Nat} (h : w.heap[it]? = some (.mapIter m a s b)) : (getObj it).run P w = .ok (.mapIter m a s b) w := by
 simp [getObj, Sem.run, h]
theorem run_setIter {P : Program} {w : World} {it : Nat} {m : Option Nat} {a : Nat} {s : Array Nat} {b : Nat} (h : w.heap[it]? = some (.mapIter m a s b)) (o : Obj) : (setObj it o).run P w = .ok () { w with heap := w.heap.setIfInBounds it o } := by
 simp [setObj, Sem.run, h]
theorem run_choose_any {P : Program} {w : World} (q : Question) : ∃ w', (choose q).run P w = .ok (if q.forced then 0 else q.cut (w.tape w.drawn q)) w' ∧ w'.heap = w.heap ∧ w'.os = w.os ∧ w'.tape = w.tape ∧ w'.output = w.output := by
 by_cases h : q.forced = true
 · exact ⟨w, by simp [choose, Sem.run, h], rfl, rfl, rfl, rfl⟩
 · exact ⟨{ w with drawn := w.drawn + 1 }, by simp [choose, Sem.run, h], rfl, rfl, rfl, rfl⟩
theorem filter_all {α : Type} {p : α → Bool} {l : Array α} (h : ∀ x ∈ l.toList, p x = true) : l.filter p = l := by
 apply Array.toList_inj.1
 rw [Array.toList_filter]
 exact List.filter_eq_self.2 h
theorem filter_no {α : Type} {p : α → Bool} {l : Array α} (h : ∀ x ∈ l.toList, p x = false) : l.filter p = #[] := by
 apply Array.toList_inj.1
 rw [Array.toList_filter]
 exact List.filter_eq_nil_iff.2 (fun x hx => by simp [h x hx])
theorem filter_ne_at : ∀ (l : List MapEntry), (l.map MapEntry.born).Pairwise (· < ·) → ∀ (j : Nat) (hj : j < l.length), l.filter (fun e => e.born != l[j].born) = l.take j ++ l.drop (j + 1)
 | [], _, j, hj => by simp at hj
 | x :: l, h, 0, hj => by
   simp only [List.map_cons, List.pairwise_cons] at h
   simp only [List.getElem_cons_zero, List.filter_cons, bne_self_eq_false, Bool.false_eq_true, if_false, List.take_zero, List.nil_append, List.drop_succ_cons, List.drop_zero]
   refine List.filter_eq_self.2 (fun y hy => ?_)
   have := h.1 y.born (List.mem_map_of_mem hy)
   simp; omega
 | x :: l, h, j + 1, hj => by
   simp only [List.map_cons, List.pairwise_cons] at h
   have hj' : j < l.length := by simpa using hj
   have h1 := h.1 l[j].born (List.mem_map_of_mem (by simp))
   have ih := filter_ne_at l h.2 j hj'
   simp only [List.getElem_cons_succ, List.filter_cons, List.take_succ_cons, List.drop_succ_cons, List.cons_append]
   rw [if_pos (by simp; omega), ih]
theorem map_next (h : IterAt w it r l left) (hne : it ≠ r) (ty : TypeId) :
 ∃ w', Kept [it] w w' ∧ w'.heap.size = w.heap.size ∧
  ((left = [] ∧ (Instr.next (.pointer (some ⟨it, 0, none⟩)) false ty).run P w = .ok (.tuple #[.bool false]) w' ∧ w' = w) ∨
   (∃ k v l1 l2, left = l1 ++ (k, v) :: l2 ∧ (Instr.next (.pointer (some ⟨it, 0, none⟩)) false ty).run P w = .ok (.tuple #[.bool true, k, v]) w' ∧ IterAt w' it r l (l1 ++ l2) ∧ EntryAt w' it r k v)) := by
 obtain ⟨es, c, si, se, la, hi, hr, hl, hb, hs1, hs2, hs3, hleft⟩ := h
 have hguard : (!se.isEmpty && !es.isEmpty && es.all (fun e => decide (e.born ≥ la))) = false := by
  by_cases he : es.isEmpty = true
  · simp [he]
  · cases hes : es.toList with
    | nil => exfalso; apply he; simp [Array.isEmpty, ← Array.length_toList, hes]
    | cons e rest =>
      have h1 := hs2 e (by rw [hes]; simp)
      have : es.all (fun e => decide (e.born ≥ la)) = false := by
       rw [← Array.all_toList, hes, List.all_cons, decide_eq_false (by omega), Bool.false_and]
      rw [this]; simp
 have hold : (es.filter fun e => !se.contains e.born).filter (fun e => decide (e.born < si)) = es.filter fun e => !se.contains e.born :=
  filter_all (fun x hx => by simp only [Array.toList_filter, List.mem_filter] at hx; simpa using hs1 x hx.1)
 have hnew : (es.filter fun e => !se.contains e.born).filter (fun e => decide (e.born ≥ si)) = #[] :=
  filter_no (fun x hx => by simp only [Array.toList_filter, List.mem_filter] at hx; have := hs1 x hx.1; simp; omega)
 have hlist : (es.filter fun e => !se.contains e.born).toList = es.toList.filter (fun e => !se.contains e.born) := Array.toList_filter
 generalize hL : (es.filter fun e => !se.contains e.born) = L at hold hnew hlist
 have hrun : ∀ (x : Value) (y : World), ((do
  let candidates := (if L.isEmpty then #[none] else #[]) ++ (L ++ #[]).map some
  match candidates[← choose (.mapNext candidates.size)]? with
  | some (some e) =>
    setObj it (.mapIter (some r) si (se.push e.born) c)
    pure (.tuple #[.bool true, e.key, e.val])
  | some none => pure (.tuple #[.bool false])
  | none => stuck "Next: no such candidate" : Sem Value)).run P w = .ok x y → (Instr.next (.pointer (some ⟨it, 0, none⟩)) false ty).run P w = .ok x y := by
  intro x y hxy
  simp only [Instr.next, Sem.run_bind, run_getIter hi, run_getMap hr, Result.andThen_ok, hguard, Bool.false_eq_true, if_false, hL, hold, hnew]
  simp only [Sem.run_bind] at hxy
  exact hxy
 cases hlf : L.toList with
 | nil =>
   have hL0 : L = #[] := Array.toList_inj.1 (by rw [hlf])
   refine ⟨w, Kept.refl _ _, rfl, Or.inl ⟨by rw [hleft, ← hlist, hlf]; rfl, ?_, rfl⟩⟩
   refine hrun _ _ ?_
   subst hL0
   simp [choose, Sem.run, Question.forced, Sem.run_bind]
 | cons e0 rest =>
   have hLne : L.isEmpty = false := by
    cases hb' : L.isEmpty
    · rfl
    · rw [Array.isEmpty_iff] at hb'; rw [hb'] at hlf; cases hlf
   have hsz : 0 < L.size := by rw [← Array.length_toList, hlf]; simp
   obtain ⟨w1, hch, hh, ho, ht, hou⟩ := run_choose_any (P := P) (w := w) (.mapNext L.size)
   have hidx : ∃ j, (if (Question.mapNext L.size).forced = true then 0 else (Question.mapNext L.size).cut (w.tape w.drawn (.mapNext L.size))) = j ∧ j < L.size := by
    refine ⟨_, rfl, ?_⟩
    split
    · exact hsz
    · exact Nat.mod_lt _ hsz
   obtain ⟨j, hj, hjlt⟩ := hidx
   rw [hj] at hch
   have hi1 : w1.heap[it]? = some (.mapIter (some r) si se la) := by rw [hh]; exact hi
   have hr1 : w1.heap[r]? = some (.map es c) := by rw [hh]; exact hr
   have heL : L[j]? = some L[j] := by simp [hjlt]
   have hemem : L[j] ∈ es.toList ∧ se.contains L[j].born = false := by
    have : L[j] ∈ L.toList := by simp
    rw [hlist, List.mem_filter] at this
    exact ⟨this.1, by simpa using this.2⟩
   refine ⟨{ w1 with heap := w1.heap.setIfInBounds it (.mapIter (some r) si (se.push L[j].born) c) }, ?_, by simp [hh], Or.inr ⟨L[j].key, L[j].val, (L.toList.take j).map (fun e => (e.key, e.val)), (L.toList.drop (j + 1)).map (fun e => (e.key, e.val)), ?_, ?_, ?_, ?_⟩⟩
   · exact ⟨ho, ht, hou, by simp [hh], fun k _ hn => by simp only [Zmc, Znn, or_false] at hn; simp [Ne.symm hn, hh]⟩
   · rw [hleft, ← hlist]
     conv => lhs; rw [← List.take_append_drop j L.toList]
     rw [List.map_append]
     congr 1
     rw [List.drop_eq_getElem_cons (by simpa using hjlt)]
     simp
   · refine hrun _ _ ?_
     simp only [hLne, Bool.false_eq_true, if_false, Array.append_empty, Array.empty_append, Array.size_map, Sem.run_bind, hch, Result.andThen_ok, Array.getElem?_map, heL, Option.map_some, run_setIter hi1, Sem.run_pure]
   · refine ⟨es, c, si, se.push L[j].born, c, setBlk_at w1 _ hi1, ?_, hl, hb, hs1, hs3, hs3, ?_⟩
     · rw [(setBlk_kept w1 it _).block r (lt_of_heap hr1) (by simp [Ne.symm hne])]; exact hr1
     · rw [← List.map_append]
       congr 1
       have h1 : es.toList.filter (fun e => !(se.push L[j].born).contains e.born) = L.toList.filter (fun e => e.born != L[j].born) := by
        rw [hlist, List.filter_filter]
        refine List.filter_congr (fun x _ => ?_)
        simp only [Array.contains_push, Bool.not_or, bne]
        rw [Bool.and_comm]
       have hbL : (L.toList.map MapEntry.born).Pairwise (· < ·) := by
        rw [hlist]
        exact hb.sublist (List.Sublist.map _ List.filter_sublist)
       rw [h1]
       exact (filter_ne_at L.toList hbL j (by simpa using hjlt)).symm
   · refine ⟨es, c, si, se, L[j].born, setBlk_at w1 _ hi1, ?_, L[j], hemem.1, rfl, rfl, rfl, hb⟩
     rw [(setBlk_kept w1 it _).block r (lt_of_heap hr1) (by simp [Ne.symm hne])]; exact hr1
theorem map_entry {k v : Value} (h : EntryAt w it r k v) : (Instr.entry (.pointer (some ⟨it, 0, none⟩))).run P w = .ok (.tuple #[k, v]) w := by
 obtain ⟨es, c, si, se, s, hi, hr, e, he, hs, hk, hv, hb⟩ := h
 have hfind : es.find? (fun e => e.born == s) = some e := by
  rw [← Array.find?_toList]
  subst hs
  clear hr hk hv
  generalize es.toList = l at he hb
  induction l with
  | nil => simp at he
  | cons x l ih =>
    simp only [List.map_cons, List.pairwise_cons] at hb
    rw [List.find?_cons]
    rcases Zmc.1 he with rfl | he
    · simp
    · have := hb.1 e.born (List.mem_map_of_mem he)
      rw [show (x.born == e.born) = false from by simp; omega]
      exact ih he hb.2
 simp [Instr.entry, Sem.run_bind, run_getIter hi, run_getMap hr, Result.andThen_ok, hfind, hk, hv]
theorem EntryAt.kept {w' : World} {S : List Nat} {k v : Value} (h : EntryAt w it r k v) (kk : Kept S w w') (h1 : it ∉ S) (h2 : r ∉ S) : EntryAt w' it r k v := by
 obtain ⟨es, c, si, se, s, a, b, rest⟩ := h
 exact ⟨es, c, si, se, s, kk.heap a h1, kk.heap b h2, rest⟩
end
end
end Go.Proofs.YticcnlpfmekagaaGreat
