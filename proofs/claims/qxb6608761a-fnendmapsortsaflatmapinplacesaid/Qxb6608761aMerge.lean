import Derived.Below
namespace Go.Proofs.Qxb6608761a
namespace Merge
variable {α : Type} (le : α → α → Bool)

/-- The i-th pair of blocks of width w, merged. -/
def chunk (w : Nat) (A : List α) (i : Nat) : List α := ((A.drop (2 * w * i)).take w).merge ((A.drop (2 * w * i + w)).take w) le

def upTo (w : Nat) (A : List α) (j : Nat) : List α := (List.range j).flatMap (chunk le w A)

theorem upTo_zero (w : Nat) (A : List α) : upTo le w A 0 = [] := rfl
theorem upTo_succ (w : Nat) (A : List α) (j : Nat) : upTo le w A (j + 1) = upTo le w A j ++ chunk le w A j := by simp [upTo, List.range_succ]

theorem chunk_perm (w : Nat) (A : List α) (i : Nat) : (chunk le w A i).Perm ((A.drop (2 * w * i)).take (2 * w)) := by
  have h := List.merge_perm_append le (xs := (A.drop (2 * w * i)).take w) (ys := (A.drop (2 * w * i + w)).take w)
  have e : (A.drop (2 * w * i)).take w ++ (A.drop (2 * w * i + w)).take w = (A.drop (2 * w * i)).take (2 * w) := by
    rw [← List.drop_drop, show 2 * w = w + w by omega, List.take_add]
  unfold chunk
  rw [← e]; exact h

theorem upTo_perm (w : Nat) (A : List α) (j : Nat) : (upTo le w A j).Perm (A.take (2 * w * j)) := by
  induction j with
  | zero => simp [upTo]
  | succ j ih =>
    rw [upTo_succ, show 2 * w * (j + 1) = 2 * w * j + 2 * w by rw [Nat.mul_add, Nat.mul_one], List.take_add]
    exact ih.append (chunk_perm le w A j)

theorem upTo_length (w : Nat) (A : List α) (j : Nat) : (upTo le w A j).length = min (2 * w * j) A.length := by
  rw [(upTo_perm le w A j).length_eq, List.length_take]

theorem chunk_length (w : Nat) (A : List α) (j : Nat) : (chunk le w A j).length = min (2 * w) (A.length - 2 * w * j) := by
  rw [(chunk_perm le w A j).length_eq, List.length_take, List.length_drop]

/-- Every block of width w is in order. -/
def Blocks (w : Nat) (A : List α) : Prop := ∀ i, ((A.drop (w * i)).take w).Pairwise (fun a b => le a b = true)

theorem chunk_sorted (tr : ∀ a b c, le a b = true → le b c = true → le a c = true) (tot : ∀ a b, (le a b || le b a) = true) (w : Nat) (A : List α) (h : Blocks le w A) (i : Nat) : (chunk le w A i).Pairwise (fun a b => le a b = true) := by
  refine List.pairwise_merge tr tot _ _ ?_ ?_
  · have := h (2 * i); rwa [show w * (2 * i) = 2 * w * i by rw [Nat.mul_comm 2 w, Nat.mul_assoc]] at this
  · have := h (2 * i + 1); rwa [show w * (2 * i + 1) = 2 * w * i + w by rw [Nat.mul_add, Nat.mul_one, Nat.mul_comm 2 w, Nat.mul_assoc]] at this

theorem upTo_add (w : Nat) (A : List α) (i m : Nat) : ∃ r, upTo le w A (i + 1 + m) = upTo le w A i ++ (chunk le w A i ++ r) ∧ r.length = min (2 * w * (i + 1 + m)) A.length - min (2 * w * (i + 1)) A.length := by
  induction m with
  | zero => exact ⟨[], by rw [Nat.add_zero, upTo_succ]; simp, by simp⟩
  | succ m ih =>
    obtain ⟨r, hr, hl⟩ := ih
    refine ⟨r ++ chunk le w A (i + 1 + m), ?_, ?_⟩
    · rw [← Nat.add_assoc, upTo_succ, hr]; simp
    · rw [List.length_append, hl, chunk_length]
      rw [show 2 * w * (i + 1 + (m + 1)) = 2 * w * (i + 1 + m) + 2 * w by rw [← Nat.add_assoc, Nat.mul_add (2 * w) (i + 1 + m) 1, Nat.mul_one]]
      have : 2 * w * (i + 1) ≤ 2 * w * (i + 1 + m) := Nat.mul_le_mul_left _ (by omega)
      generalize 2 * w * (i + 1 + m) = x at *
      generalize 2 * w * (i + 1) = y at *
      omega

theorem blocks_upTo (tr : ∀ a b c, le a b = true → le b c = true → le a c = true) (tot : ∀ a b, (le a b || le b a) = true) (w : Nat) (A : List α) (j : Nat) (hj : A.length ≤ 2 * w * j) (h : Blocks le w A) : Blocks le (2 * w) (upTo le w A j) := by
  intro i
  by_cases hi : i < j
  · obtain ⟨m, hm⟩ : ∃ m, j = i + 1 + m := ⟨j - i - 1, by omega⟩
    subst hm
    obtain ⟨r, hr, hl⟩ := upTo_add le w A i m
    rw [hr]
    by_cases hn : 2 * w * i ≤ A.length
    · have e : (upTo le w A i).length = 2 * w * i := by rw [upTo_length]; omega
      rw [← e, List.drop_left]
      have hc := chunk_length le w A i
      by_cases hf : (chunk le w A i).length = 2 * w
      · rw [← hf, List.take_left]; exact chunk_sorted le tr tot w A h i
      · have h2 : 2 * w * (i + 1) = 2 * w * i + 2 * w := by rw [Nat.mul_add, Nat.mul_one]
        have hr0 : r = [] := by
          apply List.eq_nil_of_length_eq_zero
          rw [hl]
          generalize 2 * w * (i + 1 + m) = x at *
          generalize 2 * w * (i + 1) = y at *
          generalize 2 * w * i = z at *
          omega
        rw [hr0, List.append_nil]
        exact (chunk_sorted le tr tot w A h i).sublist (List.take_sublist _ _)
    · have : (upTo le w A i ++ (chunk le w A i ++ r)).length ≤ 2 * w * i := by
        rw [← hr, upTo_length]
        omega
      rw [List.drop_eq_nil_of_le this]
      simp
  · have : (upTo le w A j).length ≤ 2 * w * i := by
      rw [upTo_length]
      have := Nat.mul_le_mul_left (2 * w) (show j ≤ i by omega)
      omega
    rw [List.drop_eq_nil_of_le this]
    simp

theorem blocks_one (A : List α) : Blocks le 1 A := by
  intro i
  have : ((A.drop (1 * i)).take 1).length ≤ 1 := by simp; omega
  match h : (A.drop (1 * i)).take 1, this with
  | [], _ => simp
  | [a], _ => simp

theorem blocks_all (w : Nat) (A : List α) (h : Blocks le w A) (hw : A.length ≤ w) : A.Pairwise (fun a b => le a b = true) := by
  have := h 0
  simpa [List.take_of_length_le hw] using this

/-- The part of A from p up to m. -/
def part (A : List α) (p m : Nat) : List α := (A.take m).drop p

theorem part_cons (A : List α) (p m : Nat) (h : p < m) (hm : m ≤ A.length) : part A p m = A[p]'(by omega) :: part A (p + 1) m := by
  unfold part
  rw [List.drop_eq_getElem_cons (by simp; omega)]
  simp

theorem part_nil (A : List α) (p m : Nat) (h : m ≤ p) : part A p m = [] := by
  unfold part; exact List.drop_eq_nil_of_le (by simp; omega)

theorem chunk_parts (w : Nat) (A : List α) (j : Nat) (lo mid hi : Nat) (hlo : lo = 2 * w * j) (hmid : mid = min (lo + w) A.length) (hhi : hi = min (mid + w) A.length) (hl : lo ≤ A.length) :
    chunk le w A j = (part A lo mid).merge (part A mid hi) le := by
  unfold chunk part
  subst hlo
  have e1 : (A.drop (2 * w * j)).take w = (A.take mid).drop (2 * w * j) := by
    rw [List.drop_take]
    by_cases h : 2 * w * j + w ≤ A.length
    · rw [show mid - 2 * w * j = w by omega]
    · rw [List.take_of_length_le (by simp; omega), List.take_of_length_le (by simp; omega)]
  have e2 : (A.drop (2 * w * j + w)).take w = (A.take hi).drop mid := by
    rw [List.drop_take]
    by_cases h : 2 * w * j + w ≤ A.length
    · have em : mid = 2 * w * j + w := by omega
      rw [em]
      by_cases h2 : 2 * w * j + w + w ≤ A.length
      · rw [show hi - (2 * w * j + w) = w by omega]
      · rw [List.take_of_length_le (by simp; omega), List.take_of_length_le (by simp; omega)]
    · rw [List.drop_eq_nil_of_le (by omega), List.drop_eq_nil_of_le (show A.length ≤ mid by omega)]
      simp
  rw [e1, e2]

/-- One step of the merge: the left one. -/
theorem merge_left (A : List α) (p q mid hi : Nat) (hm : mid ≤ A.length) (hh : hi ≤ A.length) (hp : p < mid) (h : hi ≤ q ∨ ∃ (h1 : q < hi), le (A[p]'(by omega)) (A[q]'(by omega)) = true) :
    (part A p mid).merge (part A q hi) le = A[p]'(by omega) :: (part A (p + 1) mid).merge (part A q hi) le := by
  rw [part_cons A p mid hp hm]
  rcases h with h | ⟨h1, h⟩
  · rw [part_nil A q hi h, List.merge_right, List.merge_right]
  · rw [part_cons A q hi h1 hh, List.cons_merge_cons, if_pos h]

/-- .. the right one. -/
theorem merge_rightStep (A : List α) (p q mid hi : Nat) (hm : mid ≤ A.length) (hh : hi ≤ A.length) (hq : q < hi) (h : mid ≤ p ∨ ∃ (h1 : p < mid), le (A[p]'(by omega)) (A[q]'(by omega)) = false) :
    (part A p mid).merge (part A q hi) le = A[q]'(by omega) :: (part A p mid).merge (part A (q + 1) hi) le := by
  rw [part_cons A q hi hq hh]
  rcases h with h | ⟨h1, h⟩
  · rw [part_nil A p mid h, List.nil_merge, List.nil_merge]
  · rw [part_cons A p mid h1 hm, List.cons_merge_cons, if_neg (by simp [h])]

theorem take_set (B : List α) (k : Nat) (x : α) (hk : k < B.length) : (B.set k x).take (k + 1) = B.take k ++ [x] := by
  rw [List.take_succ_eq_append_getElem (by simpa using hk)]
  have e : (B.set k x).take k = B.take k := by
    rw [List.take_set, List.set_eq_of_length_le (by simp; omega)]
  rw [e]
  simp

end Merge
end Go.Proofs.Qxb6608761a
