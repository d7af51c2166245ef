import Derived.Below
namespace Go.Proofs.Qxb6608761a
open Go.RowKit

/-- One run: first, last, depth. -/
abbrev R3 := Int × Int × Int

namespace Runs

/-- A run's three cells. -/
def cellsOf (r : R3) : List Value := [.int .i64 r.1, .int .i64 r.2.1, .int .i64 r.2.2]
def flat (rs : List R3) : List Value := rs.flatMap cellsOf

theorem flat_length (rs : List R3) : (flat rs).length = rs.length * 3 := by
  induction rs with
  | nil => rfl
  | cons r rs ih => simp [flat, cellsOf] at ih ⊢; omega

theorem flat_append (a b : List R3) : flat (a ++ b) = flat a ++ flat b := by simp [flat]

theorem flat_get (rs : List R3) (k j : Nat) (hk : k < rs.length) (hj : j < 3) : (flat rs)[k * 3 + j]? = (cellsOf rs[k])[j]? := by
  induction rs generalizing k with
  | nil => simp at hk
  | cons r rs ih =>
    have e : flat (r :: rs) = cellsOf r ++ flat rs := by simp [flat]
    have hl : (cellsOf r).length = 3 := rfl
    rw [e]
    cases k with
    | zero => rw [List.getElem?_append_left (by omega)]; simp
    | succ k =>
      rw [List.getElem?_append_right (by omega), hl, show (k + 1) * 3 + j - 3 = k * 3 + j by omega, ih k (by simpa using hk)]
      simp

/-- The depths never fall. -/
def Up (rs : List R3) : Prop := ∀ k, (h : k + 1 < rs.length) → (rs[k]'(by omega)).2.2 ≤ rs[k + 1].2.2

/-- What is handed out of the runs l: first, last each. -/
def pairs (l : List R3) : List Int := l.flatMap fun r => [r.1, r.2.1]

theorem pairs_length (l : List R3) : (pairs l).length = 2 * l.length := by
  induction l with
  | nil => rfl
  | cons r l ih => simp [pairs] at ih ⊢; omega

theorem pairs_append (a b : List R3) : pairs (a ++ b) = pairs a ++ pairs b := by simp [pairs]

theorem pairs_get (l : List R3) (k : Nat) (hk : k < l.length) : (pairs l)[2 * k]? = some l[k].1 ∧ (pairs l)[2 * k + 1]? = some l[k].2.1 := by
  induction l generalizing k with
  | nil => simp at hk
  | cons r l ih =>
    have e : pairs (r :: l) = [r.1, r.2.1] ++ pairs l := by simp [pairs]
    rw [e]
    cases k with
    | zero => simp
    | succ k =>
      have := ih k (by simpa using hk)
      rw [List.getElem?_append_right (by simp; omega), List.getElem?_append_right (by simp; omega)]
      simp only [List.length_cons, List.length_nil, List.getElem_cons_succ]
      rw [show 2 * (k + 1) - (0 + 1 + 1) = 2 * k by omega, show 2 * (k + 1) + 1 - (0 + 1 + 1) = 2 * k + 1 by omega]
      exact this

/-- The index of the first run deeper than i. -/
def cut (i : Int) (rs : List R3) : Nat := rs.findIdx fun r => decide (i < r.2.2)

theorem cut_le (i : Int) (rs : List R3) : cut i rs ≤ rs.length := List.findIdx_le_length

theorem cut_of (i : Int) (rs : List R3) (k : Nat) (hk : k < rs.length) (h : i < rs[k].2.2) (hn : ∀ j, (hj : j < k) → ¬ i < (rs[j]'(by omega)).2.2) : cut i rs = k := by
  unfold cut
  rw [List.findIdx_eq hk]
  exact ⟨by simpa using h, fun j hj => by simpa using hn j hj⟩

theorem cut_none (i : Int) (rs : List R3) (hn : ∀ j, (hj : j < rs.length) → ¬ i < rs[j].2.2) : cut i rs = rs.length := by
  unfold cut
  rw [List.findIdx_eq_length]
  intro r hr
  obtain ⟨j, hj, rfl⟩ := List.mem_iff_getElem.1 hr
  simpa using hn j hj

theorem before_cut (i : Int) (rs : List R3) (k : Nat) (hk : k < cut i rs) (hl : k < rs.length) : ¬ i < rs[k].2.2 := by
  have := List.not_of_lt_findIdx (p := fun r : R3 => decide (i < r.2.2)) hk
  simpa using this

theorem up_le (rs : List R3) (h : Up rs) (j k : Nat) (hjk : j ≤ k) (hk : k < rs.length) : (rs[j]'(by omega)).2.2 ≤ rs[k].2.2 := by
  induction k with
  | zero => have : j = 0 := by omega
            subst this; exact Int.le_refl _
  | succ k ih =>
    by_cases e : j = k + 1
    · subst e; exact Int.le_refl _
    · exact Int.le_trans (ih (by omega) (by omega)) (h k hk)

theorem from_cut (i : Int) (rs : List R3) (h : Up rs) (k : Nat) (hk : cut i rs ≤ k) (hl : k < rs.length) : i < rs[k].2.2 := by
  have hc : cut i rs < rs.length := by omega
  have h0 : i < (rs[cut i rs]'hc).2.2 := by
    have := List.findIdx_getElem (p := fun r : R3 => decide (i < r.2.2)) (w := hc)
    exact of_decide_eq_true this
  exact Int.lt_of_lt_of_le h0 (up_le rs h _ _ hk hl)

theorem cut_mono (i j : Int) (hij : i ≤ j) (rs : List R3) (h : Up rs) : cut i rs ≤ cut j rs := by
  apply Nat.le_of_not_lt
  intro hlt
  have hl : cut j rs < rs.length := Nat.lt_of_lt_of_le hlt (cut_le i rs)
  have h1 := before_cut i rs _ hlt hl
  have h2 := from_cut j rs h _ (Nat.le_refl _) hl
  omega

/-- The runs from c to d, last first. -/
def back (rs : List R3) (c d : Nat) : List R3 := ((rs.take d).drop c).reverse

theorem back_length (rs : List R3) (c d : Nat) (hd : d ≤ rs.length) : (back rs c d).length = d - c := by
  simp [back]; omega

theorem back_get (rs : List R3) (c d k : Nat) (hd : d ≤ rs.length) (hk : k < d - c) : (back rs c d)[k]'(by rw [back_length _ _ _ hd]; exact hk) = rs[d - 1 - k]'(by omega) := by
  unfold back
  rw [List.getElem_reverse, List.getElem_drop, List.getElem_take]
  congr 1
  simp; omega

theorem back_snoc (rs : List R3) (c d : Nat) (h : c < d) (hd : d ≤ rs.length) (e : Nat) (he : d ≤ e) (hl : e ≤ rs.length) : back rs (d - 1) e = back rs d e ++ [rs[d - 1]'(by omega)] := by
  unfold back
  have : (rs.take e).drop (d - 1) = rs[d - 1]'(by omega) :: (rs.take e).drop d := by
    rw [List.drop_eq_getElem_cons (i := d - 1) (by simp; omega)]
    simp [show d - 1 + 1 = d by omega]
  rw [this]
  simp

theorem back_join (rs : List R3) (c d e : Nat) (h1 : c ≤ d) (h2 : d ≤ e) (he : e ≤ rs.length) : back rs d e ++ back rs c d = back rs c e := by
  unfold back
  rw [← List.reverse_append]
  congr 1
  have : (rs.take e).drop c = (rs.take d).drop c ++ (rs.take e).drop d := by
    apply List.ext_getElem?
    intro k
    by_cases hk : k < d - c
    · rw [List.getElem?_append_left (by simp; omega)]
      simp [List.getElem?_drop, List.getElem?_take]
      split <;> split <;> first | rfl | omega
    · rw [List.getElem?_append_right (by simp; omega)]
      simp [List.getElem?_drop, List.getElem?_take, Nat.min_eq_left (show d ≤ rs.length by omega)]
      rw [show d + (k - (d - c)) = c + k by omega]
  rw [this]

end Runs
end Go.Proofs.Qxb6608761a
