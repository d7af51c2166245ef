import Derived.Test.Qxb6608761aCmp
namespace Go.Proofs.Qxb6608761a
open Cmp

/-- The first n bytes as a number, the first one the greatest; zeros behind the end. -/
def hdN : Nat → List Int → Int
  | 0, _ => 0
  | _ + 1, [] => 0
  | n + 1, b :: l => b * 256 ^ n + hdN n l

def BytL (l : List Int) : Prop := ∀ x ∈ l, 0 ≤ x ∧ x < 256

theorem hdN_range : ∀ (n : Nat) (l : List Int), BytL l → 0 ≤ hdN n l ∧ hdN n l < 256 ^ n
  | 0, l, _ => by simp [hdN]
  | n + 1, [], _ => by simp only [hdN]; exact ⟨Int.le_refl _, Int.pow_pos (by decide)⟩
  | n + 1, b :: l, h => by
    have ih := hdN_range n l (fun x hx => h x (List.mem_cons_of_mem _ hx))
    have hb := h b List.mem_cons_self
    simp only [hdN, Int.pow_succ]
    have hp : (0 : Int) < 256 ^ n := Int.pow_pos (by decide)
    generalize (256 : Int) ^ n = p at *
    have h1 : b * p ≤ 255 * p := Int.mul_le_mul_of_nonneg_right (by omega) (by omega)
    have h0 : 0 ≤ b * p := Int.mul_nonneg hb.1 (by omega)
    omega

theorem hdN_lt : ∀ (n : Nat) (l1 l2 : List Int), BytL l1 → BytL l2 → hdN n l1 < hdN n l2 → cmpL l1 l2 = -1
  | 0, l1, l2, _, _, h => by simp [hdN] at h
  | n + 1, [], [], _, _, h => by simp [hdN] at h
  | n + 1, [], b :: l2, _, _, _ => by simp [cmpL]
  | n + 1, a :: l1, [], h1, _, h => by
    have := (hdN_range (n + 1) (a :: l1) h1).1
    have e : hdN (n + 1) [] = 0 := rfl
    omega
  | n + 1, a :: l1, b :: l2, h1, h2, h => by
    have r1 := hdN_range n l1 (fun x hx => h1 x (List.mem_cons_of_mem _ hx))
    have r2 := hdN_range n l2 (fun x hx => h2 x (List.mem_cons_of_mem _ hx))
    have ih := hdN_lt n l1 l2 (fun x hx => h1 x (List.mem_cons_of_mem _ hx)) (fun x hx => h2 x (List.mem_cons_of_mem _ hx))
    simp only [hdN] at h
    have hp : (0 : Int) < 256 ^ n := Int.pow_pos (by decide)
    generalize (256 : Int) ^ n = p at *
    simp only [cmpL]
    by_cases c1 : a < b
    · rw [if_pos c1]
    · by_cases c2 : b < a
      · have h3 : (b + 1) * p ≤ a * p := Int.mul_le_mul_of_nonneg_right (by omega) (by omega)
        rw [Int.add_mul, Int.one_mul] at h3
        omega
      · obtain rfl : a = b := by omega
        rw [if_neg c1, if_neg c2]
        exact ih (by omega)

theorem hdN_take_succ : ∀ (n k : Nat) (l : List Int), (hk : k < n) → (hl : k < l.length) → hdN n (l.take (k + 1)) = hdN n (l.take k) + l[k] * 256 ^ (n - 1 - k)
  | 0, k, l, hk, _ => by omega
  | n + 1, k, [], _, hl => by simp at hl
  | n + 1, 0, b :: l, _, _ => by
    cases n <;> simp [hdN]
  | n + 1, k + 1, b :: l, hk, hl => by
    have ih := hdN_take_succ n k l (by omega) (by simpa using hl)
    simp only [List.take_succ_cons, hdN, List.getElem_cons_succ]
    rw [ih, show n + 1 - 1 - (k + 1) = n - 1 - k by omega]
    omega

theorem hdN_take_mod : ∀ (n k : Nat) (l : List Int), k ≤ n → hdN n (l.take k) % 256 ^ (n - k) = 0
  | 0, k, l, _ => by simp [hdN]
  | n + 1, 0, l, _ => by simp [hdN]
  | n + 1, k + 1, [], _ => by simp [hdN]
  | n + 1, k + 1, b :: l, hk => by
    have ih := hdN_take_mod n k l (by omega)
    simp only [List.take_succ_cons, hdN]
    rw [show n + 1 - (k + 1) = n - k by omega]
    have e : (256 : Int) ^ n = 256 ^ (n - k) * 256 ^ k := by rw [← Int.pow_add]; congr 1; omega
    rw [e]
    generalize (256 : Int) ^ (n - k) = p at *
    generalize (256 : Int) ^ k = r at *
    rw [show b * (p * r) = (b * r) * p by rw [Int.mul_comm p r, Int.mul_assoc], Int.add_emod, Int.mul_emod_left, ih]
    simp
end Go.Proofs.Qxb6608761a
