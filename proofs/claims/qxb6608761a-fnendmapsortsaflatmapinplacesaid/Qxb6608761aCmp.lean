import Derived.Below
namespace Go.Proofs.Qxb6608761a
namespace Cmp

/-- Two rows of bytes compared: -1, 0, 1. -/
def cmpL : List Int → List Int → Int
  | [], [] => 0
  | [], _ :: _ => -1
  | _ :: _, [] => 1
  | a :: as, b :: bs => if a < b then -1 else if b < a then 1 else cmpL as bs

theorem cmpL_range : ∀ a b, cmpL a b = -1 ∨ cmpL a b = 0 ∨ cmpL a b = 1
  | [], [] => by simp [cmpL]
  | [], _ :: _ => by simp [cmpL]
  | _ :: _, [] => by simp [cmpL]
  | a :: as, b :: bs => by
    unfold cmpL
    split
    · simp
    · split
      · simp
      · exact cmpL_range as bs

theorem cmpL_self : ∀ a, cmpL a a = 0
  | [] => rfl
  | a :: as => by simp [cmpL, cmpL_self as]

theorem cmpL_eq : ∀ a b, cmpL a b = 0 → a = b
  | [], [], _ => rfl
  | [], _ :: _, h => by simp [cmpL] at h
  | _ :: _, [], h => by simp [cmpL] at h
  | a :: as, b :: bs, h => by
    unfold cmpL at h
    split at h
    · simp at h
    · split at h
      · simp at h
      · have : a = b := by omega
        rw [this, cmpL_eq as bs h]

theorem cmpL_swap : ∀ a b, cmpL b a = - cmpL a b
  | [], [] => rfl
  | [], _ :: _ => by simp [cmpL]
  | _ :: _, [] => by simp [cmpL]
  | a :: as, b :: bs => by
    unfold cmpL
    by_cases h1 : a < b
    · have h2 : ¬ b < a := by omega
      simp [h1, h2]
    · by_cases h2 : b < a
      · simp [h1, h2]
      · simp [h1, h2]; exact cmpL_swap as bs

theorem cmpL_trans : ∀ a b c, cmpL a b ≤ 0 → cmpL b c ≤ 0 → cmpL a c ≤ 0
  | [], _, [], _, _ => by simp [cmpL]
  | [], _, _ :: _, _, _ => by simp [cmpL]
  | _ :: _, [], _, h, _ => by simp [cmpL] at h
  | _ :: _, _ :: _, [], _, h => by simp [cmpL] at h
  | a :: as, b :: bs, c :: cs, h1, h2 => by
    unfold cmpL at h1 h2 ⊢
    by_cases e1 : a < b
    · by_cases e2 : b < c
      · simp [show a < c by omega]
      · by_cases e3 : c < b
        · simp [e2, e3] at h2
        · simp [show a < c by omega]
    · by_cases e1' : b < a
      · simp [e1, e1'] at h1
      · by_cases e2 : b < c
        · simp [show a < c by omega]
        · by_cases e3 : c < b
          · simp [e2, e3] at h2
          · simp only [e1, e1', e2, e3, if_false] at h1 h2
            simp only [show ¬ a < c by omega, show ¬ c < a by omega, if_false]
            exact cmpL_trans as bs cs h1 h2

theorem cmpL_total (a b : List Int) : cmpL a b ≤ 0 ∨ cmpL b a ≤ 0 := by
  have := cmpL_swap a b
  have := cmpL_range a b
  omega

/-- An equal head does not count. -/
theorem cmpL_drop (a b : List Int) (k : Nat) (ha : k ≤ a.length) (hb : k ≤ b.length) (h : a.take k = b.take k) : cmpL a b = cmpL (a.drop k) (b.drop k) := by
  induction k generalizing a b with
  | zero => simp
  | succ k ih =>
    match a, b, ha, hb with
    | x :: as, y :: bs, ha, hb =>
      simp only [List.take_succ_cons, List.cons.injEq] at h
      have := ih as bs (by simpa using ha) (by simpa using hb) h.2
      rw [List.drop_succ_cons, List.drop_succ_cons, ← this, h.1]
      simp [cmpL]

theorem cmpL_at (a b : List Int) (k : Nat) (ha : k < a.length) (hb : k < b.length) (h : a.take k = b.take k) : cmpL a b = if a[k] < b[k] then -1 else if b[k] < a[k] then 1 else cmpL (a.drop (k + 1)) (b.drop (k + 1)) := by
  rw [cmpL_drop a b k (by omega) (by omega) h, List.drop_eq_getElem_cons ha, List.drop_eq_getElem_cons hb]
  simp [cmpL]

theorem cmpL_end (a b : List Int) (k : Nat) (h : a.take k = b.take k) (ha : k ≤ a.length) (hb : k ≤ b.length) (hk : k = a.length ∨ k = b.length) : cmpL a b = if a.length < b.length then -1 else if b.length < a.length then 1 else 0 := by
  rw [cmpL_drop a b k ha hb h]
  rcases hk with rfl | rfl
  · rw [List.drop_length]
    by_cases e : a.length < b.length
    · rw [if_pos e, List.drop_eq_getElem_cons e]; rfl
    · have : b.length ≤ a.length := by omega
      rw [if_neg e, if_neg (by omega), List.drop_eq_nil_of_le this]; rfl
  · rw [List.drop_length]
    by_cases e : b.length < a.length
    · rw [if_neg (by omega), if_pos e, List.drop_eq_getElem_cons e]; rfl
    · have : a.length ≤ b.length := by omega
      rw [if_neg (by omega), if_neg e, List.drop_eq_nil_of_le this]; rfl

theorem take_next (a b : List Int) (k : Nat) (ha : k < a.length) (hb : k < b.length) (h : a.take k = b.take k) (e : a[k] = b[k]) : a.take (k + 1) = b.take (k + 1) := by
  rw [List.take_succ_eq_append_getElem ha, List.take_succ_eq_append_getElem hb, h, e]

/-- The bytes from s up to e. -/
def seg (B : List Int) (s e : Nat) : List Int := (B.drop s).take (e - s)

theorem seg_length (B : List Int) (s e : Nat) (h : s ≤ e) (he : e ≤ B.length) : (seg B s e).length = e - s := by simp [seg]; omega

theorem seg_get (B : List Int) (s e k : Nat) (h : s ≤ e) (he : e ≤ B.length) (hk : k < e - s) : (seg B s e)[k]'(by rw [seg_length B s e h he]; exact hk) = B[s + k]'(by omega) := by
  simp [seg]

end Cmp
end Go.Proofs.Qxb6608761a
