import Derived.Test.Qxb6608761aConcat
import Derived.Test.Qxb6608761aBack
namespace Go.Proofs.Qxb6608761a
open Cmp

/-- Back to back from a up to b. -/
def Chain : Nat → List Sp → Nat → Prop
  | a, [], b => a = b
  | a, x :: r, b => x.1 = a ∧ x.1 ≤ x.2 ∧ Chain x.2 r b

theorem Chain.le : ∀ {a : Nat} {sp : List Sp} {b : Nat}, Chain a sp b → a ≤ b
  | _, [], _, h => by simp [Chain] at h; omega
  | _, x :: r, _, h => by
    obtain ⟨h1, h2, h3⟩ := h
    have := h3.le
    omega

theorem Chain.mem : ∀ {a : Nat} {sp : List Sp} {b : Nat}, Chain a sp b → ∀ x ∈ sp, a ≤ x.1 ∧ x.1 ≤ x.2 ∧ x.2 ≤ b
  | _, [], _, _, x, hx => by cases hx
  | _, y :: r, _, h, x, hx => by
    obtain ⟨h1, h2, h3⟩ := h
    rcases List.mem_cons.1 hx with rfl | hx
    · have := h3.le
      omega
    · have := h3.mem x hx
      omega

theorem cat_cons (B : List Int) (x : Sp) (r : List Sp) : cat B (x :: r) = seg B x.1 x.2 ++ cat B r := by simp [cat]

theorem Chain.cat : ∀ {a : Nat} {sp : List Sp} {b : Nat} {B : List Int}, Chain a sp b → b ≤ B.length → (cat B sp).length = b - a
  | _, [], _, _, h, _ => by simp [Chain] at h; simp [Qxb6608761a.cat]; omega
  | _, x :: r, b, B, h, hb => by
    obtain ⟨h1, h2, h3⟩ := h
    have hl := h3.le
    have ih := h3.cat hb
    rw [cat_cons, List.length_append, ih, seg_length B _ _ h2 (by omega)]
    omega

theorem cat_perm_length {B : List Int} {A sp : List Sp} (h : A.Perm sp) : (cat B A).length = (cat B sp).length := by
  have := h.map (fun x => seg B x.1 x.2)
  exact this.flatten.length_eq

theorem cat_take_le (B : List Int) (A : List Sp) (k : Nat) : (cat B (A.take k)).length ≤ (cat B A).length := by
  have h : cat B A = cat B (A.take k) ++ cat B (A.drop k) := by
    unfold cat
    rw [← List.flatten_append, ← List.map_append, List.take_append_drop]
  rw [h, List.length_append]
  omega

/-- Sorted orders of the same spans give the same bytes. -/
theorem cat_sorted {B : List Int} {A1 A2 : List Sp} (hp : A1.Perm A2) (h1 : A1.Pairwise (fun a b => leB B a b = true)) (h2 : A2.Pairwise (fun a b => leB B a b = true)) : cat B A1 = cat B A2 := by
  unfold cat
  congr 1
  have e1 : (A1.map (fun x => seg B x.1 x.2)).Pairwise (fun a b => cmpL a b ≤ 0) := by
    rw [List.pairwise_map, List.pairwise_iff_getElem]
    intro i j hi hj hij
    have h := List.pairwise_iff_getElem.1 h1 i j hi hj hij
    simpa [leB] using h
  have e2 : (A2.map (fun x => seg B x.1 x.2)).Pairwise (fun a b => cmpL a b ≤ 0) := by
    rw [List.pairwise_map, List.pairwise_iff_getElem]
    intro i j hi hj hij
    have h := List.pairwise_iff_getElem.1 h2 i j hi hj hij
    simpa [leB] using h
  refine List.Perm.eq_of_pairwise (le := fun a b => cmpL a b ≤ 0) ?_ e1 e2 (hp.map _)
  intro a b _ _ ha hb
  have := cmpL_swap a b
  exact cmpL_eq a b (by omega)

def natSp (isp : List (Int × Int)) : List Sp := isp.map (fun x => (x.1.toNat, x.2.toNat))

theorem natSp_length (isp : List (Int × Int)) : (natSp isp).length = isp.length := by simp [natSp]

theorem natSp_get (isp : List (Int × Int)) (k : Nat) (hk : k < isp.length) : (natSp isp)[k]'(by rw [natSp_length]; exact hk) = (isp[k].1.toNat, isp[k].2.toNat) := by simp [natSp]

theorem chain_of_next : ∀ (sp : List Sp) (b : Nat), (h0 : 0 < sp.length) → (∀ k, (hk : k < sp.length) → sp[k].1 ≤ sp[k].2) → (∀ k, (hk : k + 1 < sp.length) → sp[k + 1].1 = sp[k].2) → (sp[sp.length - 1]'(by omega)).2 = b → Chain sp[0].1 sp b
  | [], _, h0, _, _, _ => by simp at h0
  | [x], b, _, h1, _, h3 => ⟨rfl, h1 0 (by simp), by simpa [Chain] using h3⟩
  | x :: y :: r, b, _, h1, h2, h3 => by
    refine ⟨rfl, h1 0 (by simp), ?_⟩
    have ih := chain_of_next (y :: r) b (by simp) (fun k hk => h1 (k + 1) (by simpa using hk)) (fun k hk => h2 (k + 1) (by simpa using hk)) (by simpa using h3)
    have e := h2 0 (by simp)
    simp at e ih
    simpa [e] using ih

theorem Back.chain {isp : List (Int × Int)} {N : Nat} (h : Back isp N) (h0 : 0 < isp.length) : Chain ((natSp isp)[0]'(by rw [natSp_length]; exact h0)).1 (natSp isp) N := by
  refine chain_of_next (natSp isp) N (by rw [natSp_length]; exact h0) ?_ ?_ ?_
  · intro k hk
    rw [natSp_length] at hk
    have := h.1 k hk hk
    rw [natSp_get isp k hk]
    simp only
    omega
  · intro k hk
    rw [natSp_length] at hk
    obtain ⟨_, _, h3⟩ := h.1 (k + 1) hk hk
    obtain ⟨hh, e⟩ := h3 (by omega)
    rw [natSp_get isp (k + 1) hk, natSp_get isp k (by omega)]
    simp only
    rw [e]
    rfl
  · obtain ⟨hh, e⟩ := h.2 h0
    have := natSp_get isp (isp.length - 1) hh
    simp only [natSp_length]
    rw [this]
    simp only
    omega

theorem Back.cast {isp : List (Int × Int)} {N : Int} (h : Back isp N) (k : Nat) (hk : k < isp.length) : isp[k].1 = ((natSp isp)[k]'(by rw [natSp_length]; exact hk)).1 ∧ isp[k].2 = ((natSp isp)[k]'(by rw [natSp_length]; exact hk)).2 := by
  have := h.1 k hk hk
  rw [natSp_get isp k hk]
  simp only
  omega

theorem ISpansAt.spans {W : World} {so : Option Addr} {isp : List (Int × Int)} {N : Int} (h : ISpansAt W so isp) (hb : Back isp N) : SpansAt W so (natSp isp) := by
  intro k hk
  have hk' : k < isp.length := by rw [natSp_length] at hk; exact hk
  obtain ⟨b, off, e, c0, c1⟩ := h k hk'
  have := hb.cast k hk'
  exact ⟨b, off, e, by rw [c0, this.1], by rw [c1, this.2]⟩
end Go.Proofs.Qxb6608761a
