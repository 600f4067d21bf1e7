/- Part 7 of the proof of the row: St, StOps. -/
import Derived.Test.YticcnlpfmekagaaGreatRc00
import Derived.Test.YticcnlpfmekagaaGreatRc06
import Derived.Laws.MakeOwn
set_option linter.unusedVariables false
set_option linter.unusedSimpArgs false
set_option maxRecDepth 100000
set_option maxHeartbeats 8000000
namespace Go.Proofs.YticcnlpfmekagaaGreat
section
open Go Go.RowKit
open Classical
def foots (F : List Res) : List Nat := F.flatMap (·.foot)
theorem foots_mem {F : List Res} {X : Res} (h : X ∈ F) : ∀ g ∈ X.foot, g ∈ foots F := fun g hg => List.mem_flatMap.2 ⟨X, h, hg⟩
theorem foots_append (F G : List Res) : foots (F ++ G) = foots F ++ foots G := by simp [foots]
theorem foots_cons (X : Res) (G : List Res) : foots (X :: G) = X.foot ++ foots G := by simp [foots]
structure Ow (w : World) (F : List Res) : Prop where
 ok : ∀ X ∈ F, X.holds w
 lt : ∀ g ∈ foots F, g < w.heap.size
 dis : F.Pairwise (fun X Y => ∀ g ∈ X.foot, g ∉ Y.foot)
theorem Ow.kept {w w' : World} {F : List Res} {S : List Nat} (h : Ow w F) (k : Kept S w w') (hs : ∀ g ∈ foots F, g ∉ S) : Ow w' F :=
 ⟨fun X hX => X.stable w w' S k (fun g hg => hs g (foots_mem hX g hg)) (h.ok X hX), fun g hg => by have := h.lt g hg; have := k.size; omega, h.dis⟩
theorem Ow.perm {w : World} {F G : List Res} (h : Ow w F) (p : F.Perm G) : Ow w G :=
 ⟨fun X hX => h.ok X (p.mem_iff.2 hX), fun g hg => h.lt g ((p.flatMap_right _).mem_iff.2 hg), p.pairwise h.dis (fun {X Y} hXY g hg hx => hXY g hx hg)⟩
theorem Ow.sub {w : World} {F G : List Res} (h : Ow w F) (p : G.Sublist F) : Ow w G :=
 ⟨fun X hX => h.ok X (p.subset hX), fun g hg => by
   obtain ⟨X, hX, hg⟩ := List.mem_flatMap.1 hg
   exact h.lt g (foots_mem (p.subset hX) g hg), h.dis.sublist p⟩
theorem Ow.left {w : World} {F G : List Res} (h : Ow w (F ++ G)) : Ow w F := h.sub (by simp)
theorem Ow.right {w : World} {F G : List Res} (h : Ow w (F ++ G)) : Ow w G := h.sub (by simp)
theorem Ow.apart {w : World} {F G : List Res} (h : Ow w (F ++ G)) : ∀ g ∈ foots F, g ∉ foots G := by
 intro g hg hx
 obtain ⟨X, hX, hg⟩ := List.mem_flatMap.1 hg
 obtain ⟨Y, hY, hx⟩ := List.mem_flatMap.1 hx
 exact (List.pairwise_append.1 h.dis).2.2 X hX Y hY g hg hx
theorem Ow.join {w : World} {F G : List Res} (h : Ow w F) (k : Ow w G) (ha : ∀ g ∈ foots F, g ∉ foots G) : Ow w (F ++ G) := by
 refine ⟨fun X hX => ?_, fun g hg => ?_, List.pairwise_append.2 ⟨h.dis, k.dis, fun X hX Y hY g hg hx => ha g (foots_mem hX g hg) (foots_mem hY g hx)⟩⟩
 · rcases Zap.1 hX with hX | hX
   · exact h.ok X hX
   · exact k.ok X hX
 · rw [foots_append] at hg
   rcases Zap.1 hg with hg | hg
   · exact h.lt g hg
   · exact k.lt g hg
theorem Ow.one {w : World} {X : Res} (h : X.holds w) (hl : ∀ g ∈ X.foot, g < w.heap.size) : Ow w [X] := ⟨by simpa using h, by simpa [foots] using hl, by simp⟩
theorem Ow.nil (w : World) : Ow w [] := ⟨by simp, by simp [foots], List.Pairwise.nil⟩
structure St (S : List Nat) (w0 w : World) (M R : List Res) : Prop where
 kept : Kept S w0 w
 ow : Ow w (M ++ R)
 turn : ∀ g ∈ foots M, g ∈ S ∨ w0.heap.size ≤ g
theorem St.start {w : World} {M R : List Res} (h : Ow w (M ++ R)) : St (foots M) w w M R := ⟨Kept.refl _ _, h, fun g hg => .inl hg⟩
theorem St.start0 {w : World} {R : List Res} (h : Ow w R) : St [] w w [] R := ⟨Kept.refl _ _, h, fun g hg => by simp [foots] at hg⟩
section
variable {S : List Nat} {w0 w w' : World} {M R : List Res}
theorem St.m (h : St S w0 w M R) (i : Nat) {X : Res} (hi : M[i]? = some X) : X.holds w := h.ow.ok X (by simp [List.mem_of_getElem? hi])
theorem St.r (h : St S w0 w M R) (i : Nat) {X : Res} (hi : R[i]? = some X) : X.holds w := h.ow.ok X (by simp [List.mem_of_getElem? hi])
theorem St.size (h : St S w0 w M R) : w0.heap.size ≤ w.heap.size := h.kept.size
theorem St.kept0 (h : St S w0 w M R) (k : Kept [] w w') : St S w0 w' M R :=
 ⟨h.kept.trans k (fun _ hx => hx) (by simp), h.ow.kept k (by simp), h.turn⟩
theorem St.alloc (h : St S w0 w M R) (o : Obj) : St S w0 (w.alloc o) M R := h.kept0 ((Kept.refl _ _).alloc o)
theorem St.drew (h : St S w0 w M R) : St S w0 w.drew M R := h.kept0 (Kept.refl _ _).drew
theorem St.drewN (h : St S w0 w M R) (n : Nat) : St S w0 (w.drewN n) M R := h.kept0 ((Kept.refl _ _).drewN n)
theorem St.perm {M' : List Res} (h : St S w0 w M R) (p : M.Perm M') : St S w0 w M' R :=
 ⟨h.kept, h.ow.perm (p.append_right R), fun g hg => h.turn g ((p.flatMap_right _).mem_iff.2 hg)⟩
theorem split_at {α : Type} {L : List α} {i : Nat} {x : α} (h : L[i]? = some x) : ∃ A B, L = A ++ x :: B ∧ A.length = i := by
 obtain ⟨hi, rfl⟩ := List.getElem?_eq_some_iff.1 h
 exact ⟨L.take i, L.drop (i + 1), by simp, by simp; omega⟩
theorem St.front (h : St S w0 w M R) (i : Nat) {X : Res} (hi : M[i]? = some X) : St S w0 w (X :: M.eraseIdx i) R := by
 obtain ⟨A, B, rfl, rfl⟩ := split_at hi
 rw [List.eraseIdx_append_of_length_le (Nat.le_refl _)]
 simp only [Nat.sub_self, Ze0]
 exact h.perm List.perm_middle
theorem St.drop (h : St S w0 w M R) (i : Nat) : St S w0 w (M.eraseIdx i) R :=
 ⟨h.kept, h.ow.sub ((List.eraseIdx_sublist _ _).append (List.Sublist.refl _)), fun g hg => by
   obtain ⟨X, hX, hg⟩ := List.mem_flatMap.1 hg
   exact h.turn g (foots_mem ((List.eraseIdx_sublist _ _).subset hX) g hg)⟩
theorem St.dropR (h : St S w0 w M R) (i : Nat) : St S w0 w M (R.eraseIdx i) :=
 ⟨h.kept, h.ow.sub ((List.Sublist.refl _).append (List.eraseIdx_sublist _ _)), h.turn⟩
theorem St.noR (h : St S w0 w M R) : St S w0 w M [] := ⟨h.kept, by have := h.ow.left; simpa using this, h.turn⟩
theorem St.tail {X : Res} (h : St S w0 w (X :: M) R) : St S w0 w M R := h.drop 0
theorem St.read (h : St S w0 w M R) : Ow w R := h.ow.right
theorem St.lt (h : St S w0 w M R) (i : Nat) {X : Res} (hi : M[i]? = some X) : ∀ g ∈ X.foot, g < w.heap.size := fun g hg => h.ow.lt g (by rw [foots_append]; simp [foots_mem (List.mem_of_getElem? hi) g hg])
theorem St.ltR (h : St S w0 w M R) (i : Nat) {X : Res} (hi : R[i]? = some X) : ∀ g ∈ X.foot, g < w.heap.size := fun g hg => h.ow.lt g (by rw [foots_append]; simp [foots_mem (List.mem_of_getElem? hi) g hg])
theorem St.less (h : St S w0 w M R) {T : List Nat} (hT : ∀ g ∈ S, g < w0.heap.size → g ∈ T) : St T w0 w M R :=
 ⟨h.kept.mono hT, h.ow, fun g hg => by
   rcases h.turn g hg with h1 | h1
   · by_cases h2 : g < w0.heap.size
     · exact .inl (hT g h1 h2)
     · exact .inr (by omega)
   · exact .inr h1⟩
theorem St.call {M1 M1' M2 G : List Res} (h : St S w0 w (M1 ++ M2) R) (h' : St (foots M1) w w' M1' G) : St S w0 w' (M1' ++ M2) R := by
 have hz := h'.kept.size
 have hf : ∀ g ∈ foots M1', g ∈ foots M1 ∨ w.heap.size ≤ g := h'.turn
 have h0 : Ow w (M1 ++ (M2 ++ R)) := by have := h.ow; rwa [List.append_assoc] at this
 have hA : Ow w' (M2 ++ R) := h0.right.kept h'.kept (fun g hg hx => h0.apart g hx hg)
 refine ⟨h.kept.trans h'.kept (fun _ hx => hx) (fun x hx hl => ?_), ?_, fun g hg => ?_⟩
 · rcases h.turn x (by rw [foots_append]; simp [hx]) with h1 | h1
   · exact h1
   · omega
 · rw [List.append_assoc]
   refine h'.ow.left.join hA (fun g hg hx => ?_)
   rcases hf g hg with h1 | h1
   · exact h0.apart g h1 hx
   · have := h0.right.lt g hx; omega
 · rw [foots_append] at hg
   rcases Zap.1 hg with hg | hg
   · rcases hf g hg with h1 | h1
     · exact h.turn g (by rw [foots_append]; simp [h1])
     · have := h.kept.size; right; omega
   · exact h.turn g (by rw [foots_append]; simp [hg])
theorem St.call1 {X : Res} {M1' M2 G : List Res} (h : St S w0 w (X :: M2) R) (h' : St (foots [X]) w w' M1' G) : St S w0 w' (M1' ++ M2) R := St.call (M1 := [X]) h h'
theorem St.set {X X' : Res} {T : List Nat} (h : St S w0 w M R) (i : Nat) (hi : M[i]? = some X) (k : Kept T w w') (hT : ∀ g ∈ T, g < w.heap.size → g ∈ X.foot) (h1 : X'.holds w')
 (h2 : ∀ g ∈ X'.foot, g ∈ X.foot ∨ (w.heap.size ≤ g ∧ g < w'.heap.size)) : St S w0 w' (M.set i X') R := by
 obtain ⟨A, B, rfl, rfl⟩ := split_at hi
 have hs : (A ++ X :: B).set A.length X' = A ++ X' :: B := by simp
 rw [hs]
 have hz := k.size
 have h3 : St S w0 w (X :: (A ++ B)) R := h.perm List.perm_middle
 have hlt := h3.lt 0 (X := X) rfl
 have h4 : St (foots [X]) w w' [X'] [] := by
  refine ⟨k.mono (fun x hx hl => by simpa [foots] using hT x hx hl), ?_, fun g hg => ?_⟩
  · exact Ow.one h1 (fun g hg => by rcases h2 g hg with h5 | h5; · have := hlt g h5; omega
                                    · omega)
  · simp only [foots, List.flatMap_cons, List.flatMap_nil, List.append_nil] at hg ⊢
    rcases h2 g hg with h5 | h5
    · exact .inl h5
    · exact .inr h5.1
 have h5 : St S w0 w' (X' :: (A ++ B)) R := St.call (M1 := [X]) (M2 := A ++ B) h3 h4
 exact h5.perm List.perm_middle.symm
theorem St.push {X : Res} (h : St S w0 w M R) (k : Kept [] w w') (h1 : X.holds w') (h2 : ∀ g ∈ X.foot, w.heap.size ≤ g ∧ g < w'.heap.size) : St S w0 w' (X :: M) R := by
 have h4 : St (foots []) w w' [X] [] := ⟨k.mono (by simp), Ow.one h1 (fun g hg => (h2 g hg).2), fun g hg => .inr (h2 g (by simpa [foots] using hg)).1⟩
 exact St.call (M1 := []) h h4
theorem St.weak {X X' : Res} (h : St S w0 w M R) (i : Nat) (hi : M[i]? = some X) (h1 : X.holds w → X'.holds w) (h2 : ∀ g ∈ X'.foot, g ∈ X.foot) : St S w0 w (M.set i X') R :=
 h.set i hi (Kept.refl [] w) (by simp) (h1 (h.m i hi)) (fun g hg => .inl (h2 g hg))
theorem St.setR {X X' : Res} {T : List Nat} (h : St S w0 w M R) (i : Nat) (hi : R[i]? = some X) (k : Kept T w w') (hT : ∀ g ∈ T, g < w.heap.size → g ∈ X.foot ∧ (g ∈ S ∨ w0.heap.size ≤ g)) (h1 : X'.holds w')
 (h2 : ∀ g ∈ X'.foot, g ∈ X.foot ∨ (w.heap.size ≤ g ∧ g < w'.heap.size)) : St S w0 w' M (R.set i X') := by
 obtain ⟨A, B, rfl, rfl⟩ := split_at hi
 have hs : (A ++ X :: B).set A.length X' = A ++ X' :: B := by simp
 rw [hs]
 have hz := k.size
 have hp : (M ++ (A ++ X :: B)).Perm (X :: (M ++ (A ++ B))) := by
  rw [← List.append_assoc, ← List.append_assoc]; exact List.perm_middle
 have hp' : (X' :: (M ++ (A ++ B))).Perm (M ++ (A ++ X' :: B)) := by
  rw [← List.append_assoc, ← List.append_assoc]; exact List.perm_middle.symm
 have h0 : Ow w ([X] ++ (M ++ (A ++ B))) := h.ow.perm hp
 have hlt : ∀ g ∈ X.foot, g < w.heap.size := fun g hg => h0.lt g (by rw [foots_append]; simp [foots, hg])
 have ha : ∀ g ∈ X.foot, g ∉ foots (M ++ (A ++ B)) := fun g hg => h0.apart g (by simpa [foots] using hg)
 refine ⟨h.kept.trans k (fun _ hx => hx) (fun x hx hl => ?_), Ow.perm ?_ hp', h.turn⟩
 · rcases (hT x hx (by have := h.kept.size; omega)).2 with h1 | h1
   · exact h1
   · omega
 · refine Ow.join (F := [X']) (Ow.one h1 fun g hg => ?_) (h0.right.kept k fun g hg hx => ?_) (fun g hg hx => ?_)
   · rcases h2 g hg with h5 | h5
     · have := hlt g h5; omega
     · omega
   · have hg' := h0.right.lt g hg
     exact ha g (hT g hx hg').1 hg
   · simp only [foots, List.flatMap_cons, List.flatMap_nil, List.append_nil] at hg
     rcases h2 g hg with h5 | h5
     · exact ha g h5 hx
     · have := h0.right.lt g hx; omega
theorem St.weakR {X X' : Res} (h : St S w0 w M R) (i : Nat) (hi : R[i]? = some X) (h1 : X.holds w → X'.holds w) (h2 : ∀ g ∈ X'.foot, g ∈ X.foot) : St S w0 w M (R.set i X') :=
 h.setR i hi (Kept.refl [] w) (by simp) (h1 (h.r i hi)) (fun g hg => .inl (h2 g hg))
theorem St.own (h : St S w0 w M R) : Ow w (M ++ R) := h.ow
end
def Rs.it (X : Res) (r : Nat) (l left : List (Value × Value)) (it : Nat) (hr : r ∈ X.foot) : Res :=
 ⟨X.foot ++ [it], fun w => X.holds w ∧ IterAt w it r l left ∧ it ∉ X.foot, fun w w' S k hs h =>
   ⟨X.stable w w' S k (fun g hg => hs g (by simp [hg])) h.1, h.2.1.kept k (hs it (by simp)) (hs r (by simp [hr])), h.2.2⟩⟩
end
section
open Go Go.RowKit
open Classical
theorem own_made1 {w : World} (E sz n : Nat) (cs : List Value) (hl : cs.length = n * sz) (hn : n ≤ maxLen) :
 (w.alloc (.cells cs.toArray E)).ownsRow 0 E sz (.slice (some ⟨w.heap.size, 0, none⟩) n n) n cs :=
 ⟨hl, .inr ⟨w.heap.size, n, cs.toArray, rfl, Nat.zero_le _, heap_alloc_new w _, Nat.le_refl _, hn, by simpa using hl, by rw [List.take_of_length_le]; rw [hl]; exact Nat.le_refl _⟩⟩
section
variable {P : Program} {ops : Array Oper} {o : Oper} {a : Act} {w : World} {rest : List Oper} {Q : Exit → Act → World → Prop}
variable {V : Value → Prop} {r : Nat} {l : List (Value × Value)} {T kT eT : TypeId} {m x y : Operand} {kv vv : Value}
variable {S : List Nat} {w0 : World} {M R : List Res}
theorem wl_lk (hgd : o.guard = none) (hop : o.op = .lookup T m x false) (hm : a.eval m = .map (some r)) (hk : a.eval x = kv) (K0 : KeyT P kT V) (hT : P.underlying T = some (.map kT eT)) (h : MapAt w V r l) (hin : (kv, vv) ∈ l)
 (hK : wpList P ops Q rest (a.put o.dst vv) w) : wpList P ops Q (o :: rest) a w := by
 refine wl_val (v := vv) (w' := w) hgd ?_ hK
 have := map_lookup_hit h K0 hT hin false
 simp only [execOp, hop, hm, hk, Sem.run_bind, this, Result.andThen_ok]; rfl
theorem wl_lk2 (hgd : o.guard = none) (hop : o.op = .lookup T m x true) (hm : a.eval m = .map (some r)) (hk : a.eval x = kv) (K0 : KeyT P kT V) (hT : P.underlying T = some (.map kT eT)) (h : MapAt w V r l) (hin : (kv, vv) ∈ l)
 (hK : wpList P ops Q rest (a.put o.dst (.tuple #[vv, .bool true])) w) : wpList P ops Q (o :: rest) a w := by
 refine wl_val (v := .tuple #[vv, .bool true]) (w' := w) hgd ?_ hK
 have := map_lookup_hit h K0 hT hin true
 simp only [execOp, hop, hm, hk, Sem.run_bind, this, Result.andThen_ok]; rfl
theorem wl_lkN (hgd : o.guard = none) (hop : o.op = .lookup T m x false) (hm : a.eval m = .map (some r)) (hk : a.eval x = kv) (K0 : KeyT P kT V) (hT : P.underlying T = some (.map kT eT)) (h : MapAt w V r l) (hV : V kv) (hno : ∀ v, (kv, v) ∉ l) (hz : (zeroValue eT).run P w = .ok vv w)
 (hK : wpList P ops Q rest (a.put o.dst vv) w) : wpList P ops Q (o :: rest) a w := by
 refine wl_val (v := vv) (w' := w) hgd ?_ hK
 have := map_lookup_miss h K0 hT hV hno hz false
 simp only [execOp, hop, hm, hk, Sem.run_bind, this, Result.andThen_ok]; rfl
theorem wl_lkN2 (hgd : o.guard = none) (hop : o.op = .lookup T m x true) (hm : a.eval m = .map (some r)) (hk : a.eval x = kv) (K0 : KeyT P kT V) (hT : P.underlying T = some (.map kT eT)) (h : MapAt w V r l) (hV : V kv) (hno : ∀ v, (kv, v) ∉ l) (hz : (zeroValue eT).run P w = .ok vv w)
 (hK : wpList P ops Q rest (a.put o.dst (.tuple #[vv, .bool false])) w) : wpList P ops Q (o :: rest) a w := by
 refine wl_val (v := .tuple #[vv, .bool false]) (w' := w) hgd ?_ hK
 have := map_lookup_miss h K0 hT hV hno hz true
 simp only [execOp, hop, hm, hk, Sem.run_bind, this, Result.andThen_ok]; rfl
theorem wl_len (hgd : o.guard = none) (hop : o.op = .call { callee := .builtin .len, args := #[m], argTypes := #[T] }) (hm : a.eval m = .map (some r)) (hT : P.underlying T = some (.map kT eT)) (h : MapAt w V r l)
 (hK : wpList P ops Q rest (a.put o.dst (.int .i64 l.length)) w) : wpList P ops Q (o :: rest) a w := by
 refine wl_val (v := .int .i64 l.length) (w' := w) hgd ?_ hK
 have := map_len (P := P) h hT o.type
 simp [execOp, hop, resolve, invoke, builtin, hm, this, Result.andThen]
theorem wl_mkmap (hgd : o.guard = none) (hop : o.op = .makeMap T none) (hst : St S w0 w M R)
 (hK : ∀ r w', St S w0 w' (Rs.map r V [] :: M) R → w.heap.size ≤ r → wpList P ops Q rest (a.put o.dst (.map (some r))) w') : wpList P ops Q (o :: rest) a w := by
 refine wl_val (v := .map (some w.heap.size)) (w' := w.alloc (.map #[] 0)) hgd ?_ (hK _ _ (hst.push ((Kept.refl _ _).alloc _) (MapAt.new w V) (by simp [Rs.map])) (Nat.le_refl _))
 simp only [execOp, hop, Option.map_none, Sem.run_bind, run_makeMap, Result.andThen_ok]; rfl
theorem wl_mkmapN {n : Int} {q : IntKind} (hgd : o.guard = none) (hop : o.op = .makeMap T (some x)) (hx : a.eval x = .int q n) (hT : P.underlying T = some (.map kT eT)) (hst : St S w0 w M R)
 (hK : ∀ r w', St S w0 w' (Rs.map r V [] :: M) R → w.heap.size ≤ r → wpList P ops Q rest (a.put o.dst (.map (some r))) w') : wpList P ops Q (o :: rest) a w := by
 refine wl_val (v := .map (some w.heap.size)) (w' := w.alloc (.map #[] 0)) hgd ?_ (hK _ _ (hst.push ((Kept.refl _ _).alloc _) (MapAt.new w V) (by simp [Rs.map])) (Nat.le_refl _))
 have : (Instr.makeMap T (some (.int q n))).run P w = .ok (.map (some w.heap.size)) (w.alloc (.map #[] 0)) := by
  simp [Instr.makeMap, Sem.run_bind, run_underlying hT, asInt, asIntOf]
 simp only [execOp, hop, Option.map_some, hx, Sem.run_bind, this, Result.andThen_ok]; rfl
theorem wl_upd (i : Nat) (hgd : o.guard = none) (hop : o.op = .mapUpdate T m x y) (hm : a.eval m = .map (some r)) (hk : a.eval x = kv) (hv : a.eval y = vv) (K0 : KeyT P kT V) (hT : P.underlying T = some (.map kT eT)) (hst : St S w0 w M R) (hi : M[i]? = some (Rs.map r V l)) (hV : V kv)
 (hK : ∀ w', St S w0 w' (M.set i (Rs.map r V (putE l kv vv))) R → wpList P ops Q rest (a.put o.dst undef) w') : wpList P ops Q (o :: rest) a w :=
 wl_update hgd hop hm hk hv K0 hT (hst.m i hi) hV fun w' h1 h2 h3 => hK w' (hst.set i hi h2 (by simp [Rs.map]) h1 (fun g hg => .inl hg))
theorem wl_del (i : Nat) {T2 : TypeId} (hgd : o.guard = none) (hop : o.op = .call { callee := .builtin .delete, args := #[m, x], argTypes := #[T, T2] }) (hm : a.eval m = .map (some r)) (hk : a.eval x = kv) (K0 : KeyT P kT V) (hT : P.underlying T = some (.map kT eT)) (hst : St S w0 w M R) (hi : M[i]? = some (Rs.map r V l)) (hV : V kv)
 (hK : ∀ w', St S w0 w' (M.set i (Rs.map r V (delE l kv))) R → wpList P ops Q rest (a.put o.dst (.tuple #[])) w') : wpList P ops Q (o :: rest) a w := by
 obtain ⟨w', hrun, h1, h2, h3⟩ := map_delete (P := P) (hst.m i hi) K0 hT hV o.type T2
 refine wl_val (v := .tuple #[]) (w' := w') hgd ?_ (hK w' (hst.set i hi h2 (by simp [Rs.map]) h1 (fun g hg => .inl hg)))
 simp [execOp, hop, resolve, invoke, builtin, hm, hk, hrun, Result.andThen]
theorem wl_rng (i : Nat) {X : Res} (hgd : o.guard = none) (hop : o.op = .range T m) (hm : a.eval m = .map (some r)) (hT : P.underlying T = some (.map kT eT)) (hst : St S w0 w M R) (hi : M[i]? = some X) (hr : r ∈ X.foot) (h : MapAt w V r l)
 (hK : ∀ it w', St S w0 w' (M.set i (Rs.it X r l l it hr)) R → w.heap.size ≤ it → wpList P ops Q rest (a.put o.dst (.pointer (some ⟨it, 0, none⟩))) w') : wpList P ops Q (o :: rest) a w :=
 wl_range hgd hop hm hT h fun w' h1 h2 h3 h4 => hK _ w' (hst.set i hi h3 (by simp) ⟨X.stable _ _ _ h3 (by simp) (hst.m i hi), h1, fun hx => absurd (hst.lt i hi _ hx) (by omega)⟩ (fun g hg => by
  rcases Zap.1 hg with hg | hg
  · exact .inl hg
  · right; simp at hg; omega)) (Nat.le_refl _)
theorem wl_rngR (i : Nat) {X : Res} (hgd : o.guard = none) (hop : o.op = .range T m) (hm : a.eval m = .map (some r)) (hT : P.underlying T = some (.map kT eT)) (hst : St S w0 w M R) (hi : R[i]? = some X) (hr : r ∈ X.foot) (h : MapAt w V r l)
 (hK : ∀ it w', St S w0 w' M (R.set i (Rs.it X r l l it hr)) → w.heap.size ≤ it → wpList P ops Q rest (a.put o.dst (.pointer (some ⟨it, 0, none⟩))) w') : wpList P ops Q (o :: rest) a w :=
 wl_range hgd hop hm hT h fun w' h1 h2 h3 h4 => hK _ w' (hst.setR i hi h3 (by simp) ⟨X.stable _ _ _ h3 (by simp) (hst.r i hi), h1, fun hx => absurd (hst.ltR i hi _ hx) (by omega)⟩ (fun g hg => by
  rcases Zap.1 hg with hg | hg
  · exact .inl hg
  · right; simp at hg; omega)) (Nat.le_refl _)
variable {it : Nat} {left : List (Value × Value)}
theorem wl_nx0 (hgd : o.guard = none) (hop : o.op = .next m false) (hm : a.eval m = .pointer (some ⟨it, 0, none⟩)) (h : IterAt w it r l [])
 (hK : wpList P ops Q rest (a.put o.dst (.tuple #[.bool false])) w) : wpList P ops Q (o :: rest) a w := by
 have hne : it ≠ r := by
  obtain ⟨es, c, si, se, la, hi, hr, _⟩ := h
  rintro rfl
  rw [hi] at hr; cases hr
 exact wl_next0 hgd hop hm h hne hK
theorem iter_ne {w : World} (h : IterAt w it r l left) : it ≠ r := by
 obtain ⟨es, c, si, se, la, hi, hr, _⟩ := h
 rintro rfl
 rw [hi] at hr; cases hr
theorem wl_nx1 (i : Nat) {X : Res} (hr : r ∈ X.foot) (hgd : o.guard = none) (hop : o.op = .next m false) (hm : a.eval m = .pointer (some ⟨it, 0, none⟩)) (hst : St S w0 w M R) (hi : M[i]? = some (Rs.it X r l left it hr)) (hl : left ≠ [])
 (hK : ∀ k v l1 l2 w', left = l1 ++ (k, v) :: l2 → St S w0 w' (M.set i (Rs.it X r l (l1 ++ l2) it hr)) R → EntryAt w' it r k v → wpList P ops Q rest (a.put o.dst (.tuple #[.bool true, k, v])) w') : wpList P ops Q (o :: rest) a w := by
 obtain ⟨h1, h2, h3⟩ := hst.m i hi
 exact wl_next1 hgd hop hm h2 (iter_ne h2) hl fun k v l1 l2 w' e hit hen hk hs => hK k v l1 l2 w' e
  (hst.set i hi hk (fun g hg _ => by simp [Rs.it]; simp at hg; exact .inr hg) ⟨X.stable _ _ _ hk (fun g hg hx => by simp at hx; subst hx; exact h3 hg) h1, hit, h3⟩ (fun g hg => .inl hg)) hen
theorem wl_nx1R (i : Nat) {X : Res} (hr : r ∈ X.foot) (hgd : o.guard = none) (hop : o.op = .next m false) (hm : a.eval m = .pointer (some ⟨it, 0, none⟩)) (hst : St S w0 w M R) (hi : R[i]? = some (Rs.it X r l left it hr)) (hl : left ≠ []) (hfr : w0.heap.size ≤ it)
 (hK : ∀ k v l1 l2 w', left = l1 ++ (k, v) :: l2 → St S w0 w' M (R.set i (Rs.it X r l (l1 ++ l2) it hr)) → EntryAt w' it r k v → wpList P ops Q rest (a.put o.dst (.tuple #[.bool true, k, v])) w') : wpList P ops Q (o :: rest) a w := by
 obtain ⟨h1, h2, h3⟩ := hst.r i hi
 exact wl_next1 hgd hop hm h2 (iter_ne h2) hl fun k v l1 l2 w' e hit hen hk hs => hK k v l1 l2 w' e
  (hst.setR i hi hk (fun g hg _ => by simp at hg; subst hg; exact ⟨by simp [Rs.it], .inr hfr⟩) ⟨X.stable _ _ _ hk (fun g hg hx => by simp at hx; subst hx; exact h3 hg) h1, hit, h3⟩ (fun g hg => .inl hg)) hen
variable {E sz bytes n k : Nat} {z v xv : Value} {xs ys : List Value} {s : Operand} {tx : TypeId}
theorem wl_push (i : Nat) (hgd : o.guard = none) (ho : o.op = .call { callee := .builtin .append, args := #[s, x], argTypes := #[T, tx] }) (el : Elem P T E sz bytes z) (hs : a.eval s = v) (hx : a.eval x = xv)
 (hst : St S w0 w M R) (hi : M[i]? = some (Rs.row E sz v n xs)) (hsrc : Src P sz tx xv k ys w) (hb : (4 * (n + k) + 1024) * bytes ≤ 281474976710656) (hm : n + k ≤ 281474976710656)
 (h : ∀ v' w', St S w0 w' (M.set i (Rs.row E sz v' (n + k) (xs ++ ys))) R → wpList P ops Q rest (a.put o.dst v') w') : wpList P ops Q (o :: rest) a w :=
 wl_app hgd ho el hs hx (hst.m i hi) hsrc hb hm fun v' w' h1 h2 h3 => h v' w' (hst.set i hi h2 (fun g hg _ => hg) h1 (fun g hg => by
  rcases h3 with ⟨e1, e2⟩ | ⟨e1, e2⟩
  · left; simpa [Rs.row, e1] using hg
  · right; simp [Rs.row, e1] at hg; omega))
theorem wl_rowapp (i : Nat) {o2 : Oper} {A B : List MRow} {kx : Operand} (hgd : o.guard = none) (hgd2 : o2.guard = none) (ho : o.op = .call { callee := .builtin .append, args := #[s, x], argTypes := #[T, tx] }) (ho2 : o2.op = .mapUpdate r m kx y)
 (el : Elem P T E sz bytes z) (hs : a.eval s = v) (hx : a.eval x = xv) {rb : Nat} (hm : ∀ v', (a.put o.dst v').eval m = .map (some rb)) (hkx : ∀ v', (a.put o.dst v').eval kx = kv) (hy : ∀ v', (a.put o.dst v').eval y = v')
 (K0 : KeyT P kT V) (hT : P.underlying r = some (.map kT eT)) (hst : St S w0 w M R) (hi : M[i]? = some (Rs.rows V rb E sz (A ++ (kv, v, xs) :: B))) (hsrc : Src P sz tx xv k ys w) (hb : ∀ n, xs.length = n * sz → (4 * (n + k) + 1024) * bytes ≤ 281474976710656 ∧ n + k ≤ 281474976710656)
 (h : ∀ v' w', St S w0 w' (M.set i (Rs.rows V rb E sz (A ++ (kv, v', xs ++ ys) :: B))) R → wpList P ops Q rest ((a.put o.dst v').put o2.dst undef) w') : wpList P ops Q (o :: o2 :: rest) a w := by
 have hrows := hst.m i hi
 obtain ⟨n, hn⟩ := hrows.each (kv, v, xs) (by simp)
 obtain ⟨hb1, hb2⟩ := hb n hn.1
 have hpos := el.pos
 refine wl_app hgd ho el hs hx hn hsrc hb1 hb2 fun v' w1 h1 h2 h3 => ?_
 have hV : V kv := hrows.map.keys (kv, v) (by rw [rawR_append, rawR_cons]; simp)
 have hd := hrows.dis
 have hrv : rb ∉ v.ownBlock.toList := by
  intro hx
  rw [footR_append, footR_cons, List.nodup_cons] at hd
  apply hd.1
  simp only [Zap]; grind
 have hm1 : MapAt w1 V rb (rawR (A ++ (kv, v, xs) :: B)) := hrows.map.kept h2 hrv
 refine wl_update hgd2 ho2 (hm _) (hkx _) (hy _) K0 hT hm1 hV fun w2 h4 h5 h6 => ?_
 have hv' : ∀ g, v'.ownBlock = some g → v.ownBlock = some g ∨ w.heap.size ≤ g := by
  intro g hg
  rcases h3 with ⟨e1, e2⟩ | ⟨e1, e2⟩
  · left; rw [← e1]; exact hg
  · right; rw [e1] at hg; simp only [Option.some.injEq] at hg; omega
 obtain ⟨hput, hfoot⟩ := hrows.put h2 h1 hv' h5 h4
 have hsz1 := h2.size
 have hk12 : Kept (rb :: footR (A ++ (kv, v, xs) :: B)) w w2 := h2.trans h5 (fun g hg => by
  rw [footR_append, footR_cons]; simp only [Zmc, Zap]; exact .inr (.inr (.inl hg))) (fun g hg _ => by simp at hg; simp [hg])
 refine h v' w2 (hst.set i hi hk12 (fun g hg _ => hg) hput (fun g hg => ?_))
 rcases hfoot g hg with h7 | h7
 · exact .inl h7
 · right; omega
theorem wl_rownew (i : Nat) {L : List MRow} {kx : Operand} {rb : Nat} (hgd : o.guard = none) (ho : o.op = .mapUpdate T m kx y) (hm : a.eval m = .map (some rb)) (hkx : a.eval kx = kv) (hy : a.eval y = v)
 (K0 : KeyT P kT V) (hT : P.underlying T = some (.map kT eT)) (hV : V kv) (hst : St S w0 w (Rs.row E sz v n xs :: M) R) (hi : M[i]? = some (Rs.rows V rb E sz L)) (hno : kv ∉ L.map (·.1))
 (h : ∀ w', St S w0 w' (M.set i (Rs.rows V rb E sz (L ++ [(kv, v, xs)]))) R → wpList P ops Q rest (a.put o.dst undef) w') : wpList P ops Q (o :: rest) a w := by
 have hrow : w.ownsRow 0 E sz v n xs := hst.m 0 rfl
 have hrows : RowsAt w V rb E sz L := hst.m (i + 1) (by simpa using hi)
 obtain ⟨A, B, hM, hl⟩ := split_at hi
 have hdis : ∀ g ∈ v.ownBlock.toList, g ∉ rb :: footR L := by
  intro g hg hx
  have hd := hst.ow.dis
  rw [List.cons_append, List.pairwise_cons] at hd
  exact hd.1 (Rs.rows V rb E sz L) (by simp [List.mem_of_getElem? hi]) g hg hx
 refine wl_update hgd ho hm hkx hy K0 hT hrows.map hV fun w2 h4 h5 h6 => ?_
 have hmiss : ∀ u, (kv, u) ∉ rawR L := by
  intro u hu
  apply hno
  obtain ⟨x, hx, e⟩ := List.mem_map.1 hu
  exact List.mem_map.2 ⟨x, hx, (Prod.mk.inj e).1⟩
 rw [putE_miss hmiss] at h4
 have hd := hrows.dis
 rw [List.nodup_cons] at hd
 have hnew : RowsAt w2 V rb E sz (L ++ [(kv, v, xs)]) := by
  refine ⟨by rw [rawR_append]; exact h4, fun x hx => ?_, ?_⟩
  · rcases Zap.1 hx with hx | hx
    · obtain ⟨n', hn'⟩ := hrows.each x hx
      exact ⟨n', own_kept hn' h5 (fun g hg e => by
       simp only [Zmc, Znn, or_false] at e
       subst e
       exact hd.1 (List.mem_flatMap.2 ⟨x, hx, by simp [hg]⟩))⟩
    · simp only [Zmc, Znn, or_false] at hx
      subst hx
      exact ⟨n, own_kept hrow h5 (fun g hg e => by
       simp only [Zmc, Znn, or_false] at e
       subst e
       exact hdis g (by simp [hg]) (by simp))⟩
  · rw [footR_append, footR_cons, List.nodup_cons, List.nodup_append]
    refine ⟨fun hx => ?_, hd.2, by cases v.ownBlock <;> simp [footR], fun g hg b hb e => ?_⟩
    · simp only [footR, List.flatMap_nil, List.append_nil, Zap] at hx
      rcases hx with hx | hx
      · exact hd.1 hx
      · exact hdis rb hx (by simp)
    · subst e
      simp only [footR, List.flatMap_nil, List.append_nil] at hb
      exact hdis g hb (by simp [hg])
 have h7 : St S w0 w (Rs.row E sz v n xs :: Rs.rows V rb E sz L :: (A ++ B)) R := by
  rw [hM] at hst
  exact hst.perm (List.Perm.cons _ List.perm_middle)
 have h8 : St (foots [Rs.row E sz v n xs, Rs.rows V rb E sz L]) w w2 [Rs.rows V rb E sz (L ++ [(kv, v, xs)])] [] := by
  have hff : ∀ g ∈ (Rs.rows V rb E sz (L ++ [(kv, v, xs)])).foot, g ∈ foots [Rs.row E sz v n xs, Rs.rows V rb E sz L] := by
   intro g hg
   simp only [Rs.rows, footR_append, footR_cons, Zmc, Zap] at hg
   simp only [foots, List.flatMap_cons, List.flatMap_nil, List.append_nil, Zap, Rs.row, Rs.rows, Zmc]
   rcases hg with h1 | h1 | h1 | h1
   · exact .inr (.inl h1)
   · exact .inr (.inr h1)
   · exact .inl h1
   · simp [footR] at h1
  refine ⟨h5.mono (fun g hg _ => by simp at hg; subst hg; simp [foots, Rs.rows]), Ow.one hnew (fun g hg => ?_), fun g hg => .inl (hff g (by simpa [foots] using hg))⟩
  have := hff g hg
  rw [h6]
  exact h7.ow.lt g (by
   rw [show Rs.row E sz v n xs :: Rs.rows V rb E sz L :: (A ++ B) = [Rs.row E sz v n xs, Rs.rows V rb E sz L] ++ (A ++ B) from rfl, List.append_assoc, foots_append]
   simp only [Zap]; exact .inl this)
 have h9 : St S w0 w2 (Rs.rows V rb E sz (L ++ [(kv, v, xs)]) :: (A ++ B)) R := St.call (M1 := [Rs.row E sz v n xs, Rs.rows V rb E sz L]) (M2 := A ++ B) h7 h8
 refine h w2 ?_
 rw [hM, ← hl]
 have : (A ++ Rs.rows V rb E sz L :: B).set A.length (Rs.rows V rb E sz (L ++ [(kv, v, xs)])) = A ++ Rs.rows V rb E sz (L ++ [(kv, v, xs)]) :: B := by simp
 rw [this]
 exact h9.perm List.perm_middle.symm
end
end
end Go.Proofs.YticcnlpfmekagaaGreat
