import Derived.Test.YticcnlpfmekagaaGreatAsgE2
import Derived.Test.YticcnlpfmekagaaGreatAppN
import Derived.Test.YticcnlpfmekagaaGreatShRead2
namespace Go.Proofs.YticcnlpfmekagaaGreat
open Go Go.Proofs Go.RowKit
set_option linter.unusedVariables false
set_option linter.unusedSimpArgs false

/-! ## impl.SharesBytes -/

theorem encTs_tops2 (D : Tops) : encTs D = (tops2 D).flatMap encTP := by
  induction D with
  | nil => rfl
  | cons x D ih => simp only [encTs, List.flatMap_cons, tops2, List.map_cons, encTP, encT] at *; rw [ih]
theorem encA_asg (D : Tops) (ver : Int) (ua : Option Addr) (data : List Value) (h : data = [] ↔ ua = none) : encA D ver ua data = asgBytes ver (tops2 D) data := by
  unfold encA asgBytes specData encData
  rw [encTs_tops2]
  have hl : (tops2 D).length = D.length := by simp [tops2]
  rw [hl]
  cases ua with
  | none => rw [h.2 rfl]; simp
  | some a =>
    have : data ≠ [] := fun e => by have := h.1 e; cases this
    cases data with
    | nil => exact absurd rfl this
    | cons x xs => simp

theorem encTPs_le (D : List (ByteArray × List Int)) (h : ∀ x ∈ D, x.1.size ≤ 50 ∧ x.2.length ≤ 20) : (D.flatMap encTP).length ≤ 136 * D.length := by
  induction D with
  | nil => simp
  | cons x D ih =>
    have h1 := h x (by simp)
    have h2 := ih fun y hy => h y (by simp [hy])
    rw [List.flatMap_cons, List.length_append, encTP_length, List.length_cons]
    omega
theorem asg_le (ver : Int) (D : List (ByteArray × List Int)) (data : List Value) (h : ∀ x ∈ D, x.1.size ≤ 50 ∧ x.2.length ≤ 20) (hl : D.length ≤ 10) (hd : data.length ≤ 1000) : (asgBytes ver D data).length ≤ 10000 := by
  have h1 := encTPs_le D h
  have h2 : (specData data).length ≤ 1004 := by
    unfold specData
    split
    · simp [be32]
    · simp [be32]; omega
  unfold asgBytes
  simp only [List.length_append]
  simp only [be16, be32, List.length_cons, List.length_nil]
  omega
theorem topOf_le {L : List Shr} (hf : ∀ x ∈ L, x.top.size ≤ 50 ∧ x.parts.length ≤ 20) : ∀ x ∈ L.map topOf, x.1.size ≤ 50 ∧ x.2.length ≤ 20 := by
  intro x hx
  obtain ⟨y, hy, rfl⟩ := List.mem_map.1 hx
  exact hf y hy

theorem member_ready {wl : Nat} {M w1 w2 : World} {ver : Int} {xa : Option Addr} {xc dn : Nat} {data : List Value} {D : Tops} {L : List Shr}
    (hMs : M.heap.size = wl + 1) (hp7 : M.cell? ⟨wl, 7, none⟩ = some (.slice none 0 0)) (hz7 : M.frozen? ⟨wl, 7, none⟩ = false) (hk1 : Kept [] M w1) (hT1 : TopsAt w1 (wl + 1) D) (hD : tops2 D = L.map topOf)
    (hfr : ∀ x ∈ D, ∀ g, x.2.1.ownBlock = some g → g < w1.heap.size) (hap : AppN w1 w2 5 1 dn data (.slice xa dn xc)) (hdn : data.length = dn) (hver : isI16 ver) (hu : ∀ u ∈ data, u.oneCell' = true)
    (hf : ∀ x ∈ L, x.top.size ≤ 50 ∧ x.parts.length ≤ 20) (hl : L.length ≤ 10) (hdl : dn ≤ 1000) :
    Calls Tryz.prog 68 #[.pointer (some ⟨wl, 0, none⟩), .string ⟨#[109]⟩, .pointer (some ⟨w2.heap.size, 0, none⟩)] (w2.alloc (.cells #[.int .i16 ver, .map (some (wl + 1)), .slice xa dn xc] 127)) fun e w' => e = .returned .nilIface ∧ ∃ g k rb L', M.heap.size ≤ g ∧ M.heap.size ≤ rb ∧ w'.cell? ⟨wl, 7, none⟩ = some (.slice (some ⟨g, 0, none⟩) 1 k) ∧ (L' : List (ByteArray × List Int)).Perm (L.map topOf) ∧
      w'.cell? ⟨g, 1, none⟩ = some (.slice (some ⟨rb, 0, none⟩) (asgBytes ver L' data).length (asgBytes ver L' data).length) ∧ Buf w' rb (asgBytes ver L' data) ∧ Kept [wl] M w' := by
  obtain ⟨a, c, e, hx0, hx1, hxc, hown2, hk2⟩ := hap
  cases e
  subst hdn
  have hk3 : Kept [] M (w2.alloc (.cells #[.int .i16 ver, .map (some (wl + 1)), .slice xa data.length xc] 127)) := (hk1.trans hk2 (U := []) (by simp) (by simp)).alloc _
  have s1 := hk1.size
  have s2 := hk2.size
  have hxe : data = [] ↔ xa = none := ⟨fun e => (hx0 (by rw [e]; rfl)).1, fun e => by
    by_cases h : data.length = 0
    · exact List.eq_nil_of_length_eq_zero h
    · have := hx1 h; rw [e] at this; cases this⟩
  have hal : ∀ D' : Tops, D'.Perm D → (tops2 D').Perm (L.map topOf) ∧ encA D' ver xa data = asgBytes ver (tops2 D') data := fun D' hp => ⟨by rw [← hD]; exact hp.map _, encA_asg D' ver xa data hxe⟩
  have hle := asg_le ver (L.map topOf) data (topOf_le hf) (by simpa using hl) hdl
  refine (addMember_any wl w2.heap.size (wl + 1) ⟨#[109]⟩ ver xa xc data D _ (hk3.cell hp7 (by simp)) (hk3.frz hz7 (by simp; omega) (by simp)) (heap_alloc_new w2 _) (hT1.kept (hk2.alloc _) (by simp) (by simp)) hver ((own_sl hown2 hu).alloc _) ?_ ?_ ?_ ?_).mono ?_
  · rw [(hal D (List.Perm.refl _)).2, hD]; omega
  · intro x hx
    have h1 : (x.1, x.2.2) ∈ tops2 D := List.mem_map.2 ⟨x, hx, rfl⟩
    rw [hD] at h1
    have := (topOf_le hf _ h1).1
    simp only at this; omega
  · intro x hx g hg; have := hfr x hx g hg; simp; omega
  · intro g hg
    by_cases h : data.length = 0
    · rw [(hx0 h).1] at hg; simp [Value.ownBlock] at hg
    · rcases hown2.2 with ⟨e1, e2⟩ | ⟨g', cap, cur, e1, _, hg', _⟩
      · omega
      · rw [e1] at hg; simp [Value.ownBlock] at hg; have := lt_of_heap hg'; simp; omega
  · rintro e w' ⟨rfl, g, k, rb, L', h1, h2, h3, h4, h5, h6, h7⟩
    have hb := hal L' h4
    have hlen : (encA D ver xa data).length = (asgBytes ver (tops2 L') data).length := by rw [← encA_perm_length h4, hb.2]
    simp only [World.size_alloc] at h1 h2
    refine ⟨rfl, g, k, rb, tops2 L', by omega, by omega, h3, hb.1, by rw [← hlen]; exact h5, by rw [← hb.2]; exact h6, hk3.trans h7 (by simp) (by simp)⟩

end Go.Proofs.YticcnlpfmekagaaGreat
