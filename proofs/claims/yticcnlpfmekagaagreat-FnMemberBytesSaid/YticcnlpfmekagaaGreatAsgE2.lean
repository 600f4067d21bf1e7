import Derived.Test.YticcnlpfmekagaaGreatAsgE
import Derived.Test.YticcnlpfmekagaaGreatStrat
import Derived.Test.YticcnlpfmekagaaGreatGroup
namespace Go.Proofs.YticcnlpfmekagaaGreat
open Go Go.Proofs Go.RowKit
set_option linter.unusedVariables false
set_option linter.unusedSimpArgs false

theorem noFlex123 : NoFlex 123 := fun a w => run_typeAssert_lacksB Tryz.underlying242 (by kernel_rfl) (by kernel_rfl) _ _ _
theorem asgEncMeth : IsMeth 123 "pub-kestrel/pub/sarama.encode" 164 := ⟨fun _ _ => by kernel_rfl, fun _ _ => by kernel_rfl, fun _ _ => by kernel_rfl⟩
theorem infoGa : (Tryz.prog.info? 135).map (fun i => (i.zero, i.size, i.bytes)) = some (some (.agg #[.string ⟨#[]⟩, .slice none 0 0]), 2, 40) := by kernel_rfl
theorem elGa : Elem Tryz.prog 130 135 2 40 (.agg #[.string ⟨#[]⟩, .slice none 0 0]) := ⟨Tryz.underlying130, info_parts infoGa, rfl, by omega⟩

theorem new_sl2 (w : World) (E : TypeId) (a b : Value) (h : [a, b].all (·.oneCell') = true) : SlAt (w.alloc (.cells #[a, b] E)) 2 (.slice (some ⟨w.heap.size, 0, none⟩) 1 1) 1 [a, b] := by
  refine ⟨by simp, fun u hu => (List.all_eq_true.1 h) u hu, .inr ⟨_, 0, 1, rfl, fun j u hj => ?_⟩⟩
  have hh := heap_alloc_new w (.cells #[a, b] E)
  rw [Nat.zero_add]
  have hc := (cells_of hh).1 j u (by simpa using hj)
  exact hc

set_option maxRecDepth 100000 in
set_option maxHeartbeats 1000000 in
theorem addAsg_any (p : Nat) (nm : ByteArray) (a : Option Addr) (n c : Nat) (w : World) (hc : w.cell? ⟨p, 7, none⟩ = some (.slice none 0 0)) (hf : w.frozen? ⟨p, 7, none⟩ = false) :
    Calls Tryz.prog 84 #[.pointer (some ⟨p, 0, none⟩), .string nm, .slice a n c] w fun e w' => e = .returned (.tuple #[]) ∧ ∃ g k, w.heap.size ≤ g ∧ w'.cell? ⟨p, 7, none⟩ = some (.slice (some ⟨g, 0, none⟩) 1 k) ∧ w'.cell? ⟨g, 1, none⟩ = some (.slice a n c) ∧ Kept [p] w w' := by
  have hp := World.block_lt_of_cell? w _ hc
  simp only at hp
  have hk0 : ∀ o, Kept [] w (w.alloc o) := fun o => (Kept.refl _ _).alloc o
  have HK := Lib.hid hk0; clear hk0
  go_enter Tryz.func84, Tryz.ntmps84
  go_wp2_with (first
    | (refine wl_app (v := .slice none 0 0) rfl rfl elGa rfl rfl (own_nil 135 2) ((new_sl2 _ _ _ _ rfl).src Tryz.underlying130) (by omega) (by omega) ?_
       intro v' w1 hown hk hd
       obtain ⟨va, vn, vc, rfl⟩ := own_form hown
       have hk1 : Kept [] w w1 := (HK.out _).trans hk (by simp) (by simp [Value.ownBlock])
       have c1 := hk1.cell hc (by simp)
       have f1 := hk1.frz hf (by simpa using hp) (by simp))
    | fail)
  go_end0
  have hn := own_len hown
  rcases hown.2 with ⟨e1, e2⟩ | ⟨g, cap, cur, e1, _, hg, hn1, hn2, hn3, hn4⟩
  · omega
  · have hsl := own_sl hown (by simp [Value.oneCell'])
    cases e1
    have hgg : w.heap.size < g := by
      rcases hd with ⟨h1, h2⟩ | ⟨h1, h2⟩
      · simp [Value.ownBlock] at h1
      · simp [Value.ownBlock] at h1; omega
    have hcell := SlAt.cell (b := g) (off := 0) (j := 1) (u := .slice a n c) (by simpa using hsl) (by simp)
    have hk2 : Kept [p] w w1 := hk1.mono (by simp)
    refine ⟨rfl, g, vc, by omega, by simp [go_sem, c1], ?_, hk2.setCell _ (by simp)⟩
    have hk3 : Kept [p] w1 (w1.setCell ⟨p, 7, none⟩ (.slice (some ⟨g, 0, none⟩) (0 + 1) vc)) := (Kept.refl _ _).setCell _ (by simp)
    exact hk3.cell (by simpa using hcell) (by simp; omega)

theorem encA_perm_length {L M : Tops} (h : L.Perm M) (ver : Int) (ua : Option Addr) (data : List Value) : (encA L ver ua data).length = (encA M ver ua data).length := by
  unfold encA
  simp only [List.length_append]
  rw [encTs_perm_length h, h.length_eq]

theorem encAsg_any (m r : Nat) (ver : Int) (ua : Option Addr) (uc : Nat) (data : List Value) (L : Tops) (w : World)
    (hm : w.heap[m]? = some (.cells #[.int .i16 ver, .map (some r), .slice ua data.length uc] 127 (0, 0))) (hL : TopsAt w r L) (hver : isI16 ver) (hsl : SlAt w 1 (.slice ua data.length uc) data.length data)
    (hroom : (encA L ver ua data).length ≤ 100000000) (hsz : ∀ x ∈ L, x.1.size ≤ 32767)
    (hpo : ∀ x ∈ L, ∀ g, x.2.1.ownBlock = some g → g < w.heap.size) (huo : ∀ g, (Value.slice ua data.length uc).ownBlock = some g → g < w.heap.size) :
    Calls Tryz.prog 80 #[.iface 123 (.pointer (some ⟨m, 0, none⟩))] w fun e w' => ∃ rb L', e = .returned (.tuple #[.slice (some ⟨rb, 0, none⟩) (encA L ver ua data).length (encA L ver ua data).length, .nilIface]) ∧ L'.Perm L ∧ Buf w' rb (encA L' ver ua data) ∧ Kept [] w w' ∧ w.heap.size ≤ rb := by
  have hml := lt_of_heap hm
  have hrl := hL.map.lt
  refine (encode2_any 123 164 ⟨m, 0, none⟩ asgEncMeth noFlex123 w (fun bs => ∃ L', L'.Perm L ∧ bs = encA L' ver ua data) (encA L ver ua data).length ?_ hroom ?_).mono ?_
  · rintro bs ⟨L', hp, rfl⟩
    exact encA_perm_length hp _ _ _
  · intro s w' hk hown hst hmax
    have hno : ∀ g, g < w.heap.size → g ∉ s.own := fun g hg h => by have := hown g h; omega
    refine (asg_encode s m r ver ua uc data L w' [] hst (hk.heap hm (by simp)) (hL.kept hk (by simp) (by simp)) hver (hsl.kept hk (by simp)) (by simpa using hmax) hsz (hno _ hml) (hno _ hrl) (fun x hx g hg => hno _ (hpo x hx g hg)) (fun g hg => hno _ (huo g hg))).mono ?_
    rintro e w'' ⟨rfl, L', h1, h2, h3⟩
    exact ⟨rfl, _, ⟨L', h1, rfl⟩, by simpa using h2, h3⟩
  · rintro e w' ⟨rb, bs, rfl, ⟨L', h1, rfl⟩, h2, h3, h4⟩
    exact ⟨rb, L', rfl, h1, h2, h3, h4⟩

set_option maxRecDepth 100000 in
set_option maxHeartbeats 1000000 in
theorem addMember_any (p m r : Nat) (nm : ByteArray) (ver : Int) (ua : Option Addr) (uc : Nat) (data : List Value) (L : Tops) (w : World) (hc : w.cell? ⟨p, 7, none⟩ = some (.slice none 0 0)) (hf : w.frozen? ⟨p, 7, none⟩ = false)
    (hm : w.heap[m]? = some (.cells #[.int .i16 ver, .map (some r), .slice ua data.length uc] 127 (0, 0))) (hL : TopsAt w r L) (hver : isI16 ver) (hsl : SlAt w 1 (.slice ua data.length uc) data.length data)
    (hroom : (encA L ver ua data).length ≤ 100000000) (hsz : ∀ x ∈ L, x.1.size ≤ 32767)
    (hpo : ∀ x ∈ L, ∀ g, x.2.1.ownBlock = some g → g < w.heap.size) (huo : ∀ g, (Value.slice ua data.length uc).ownBlock = some g → g < w.heap.size) :
    Calls Tryz.prog 68 #[.pointer (some ⟨p, 0, none⟩), .string nm, .pointer (some ⟨m, 0, none⟩)] w fun e w' => e = .returned .nilIface ∧ ∃ g k rb L', w.heap.size ≤ g ∧ w.heap.size ≤ rb ∧ w'.cell? ⟨p, 7, none⟩ = some (.slice (some ⟨g, 0, none⟩) 1 k) ∧ L'.Perm L ∧
      w'.cell? ⟨g, 1, none⟩ = some (.slice (some ⟨rb, 0, none⟩) (encA L ver ua data).length (encA L ver ua data).length) ∧ Buf w' rb (encA L' ver ua data) ∧ Kept [p] w w' := by
  have hp := World.block_lt_of_cell? w _ hc
  simp only at hp
  have he := encAsg_any m r ver ua uc data L w hm hL hver hsl hroom hsz hpo huo
  have HE := Lib.hid he; clear he hm hL hsl hroom hsz hpo huo
  generalize (encA L ver ua data).length = len at *
  go_enter Tryz.func68, Tryz.ntmps68
  go_wp2_with (first
    | (go_at_call 80
       refine HE.out.mono ?_
       rintro e w1 ⟨rb, L', rfl, hpl, hbuf, hk1, hrb⟩
       have c1 := hk1.cell hc (by simp)
       have f1 := hk1.frz hf (by simpa using hp) (by simp))
    | (go_at_call 84
       refine (addAsg_any p nm _ _ _ w1 c1 f1).mono ?_
       rintro e w2 ⟨rfl, g, k, hg, c2, c3, hk2⟩)
    | fail)
  go_ret
  have hs1 := hk1.size
  have hbl := lt_of_heap hbuf
  exact ⟨rfl, g, k, rb, L', by omega, hrb, c2, hpl, c3, by unfold Buf at *; exact hk2.heap hbuf (by simp; omega), hk1.trans hk2 (by simp) (by simp)⟩
end Go.Proofs.YticcnlpfmekagaaGreat
