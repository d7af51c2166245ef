import Derived.Test.Qxb6608761aOpen
namespace Go.Proofs.Qxb6608761a
open Go.RowKit

/-- The runs that came in lie at ao. -/
def RunsAt (W : World) (ao : Option Addr) (rs : List R3) : Prop :=
  ∀ k, (hk : k < rs.length) → ∃ b off, ao = some ⟨b, off, none⟩ ∧ W.cell? ⟨b, off + k * 3, none⟩ = some (.int .i64 rs[k].1) ∧ W.cell? ⟨b, off + k * 3 + 1, none⟩ = some (.int .i64 rs[k].2.1) ∧ W.cell? ⟨b, off + k * 3 + 2, none⟩ = some (.int .i64 rs[k].2.2)

theorem RunsAt.kept {W W' : World} {ao : Option Addr} {rs : List R3} {B : Nat} (h : RunsAt W ao rs) (hb : Below B W W') (hB : ∀ a, ao = some a → a.block < B) : RunsAt W' ao rs := by
  intro k hk
  obtain ⟨b, off, rfl, h0, h1, h2⟩ := h k hk
  have hlt : b < B := hB _ rfl
  exact ⟨b, off, rfl, by rw [hb.cell hlt]; exact h0, by rw [hb.cell hlt]; exact h1, by rw [hb.cell hlt]; exact h2⟩

set_option maxHeartbeats 1000000 in
theorem first9 (ao : Option Addr) (cap : Nat) (rs : List R3) (i : Int) (W : World) (h : RunsAt W ao rs) (hn : rs.length ≤ 1000000) :
    Calls Try.prog 9 #[.slice ao rs.length cap, .int .i64 i] W fun e W' => e = .returned (.int .i64 (Runs.cut i rs : Nat)) ∧ W' = W := by
  have H : Hid (RunsAt W ao rs) := h
  clear h
  go_enter Try.func9, Try.ntmps9
  go_wp2
  go_loop [5] (fun t => ∃ k : Nat, k ≤ rs.length ∧ t = .int .i64 k ∧ ∀ j, (hj : j < k) → (hl : j < rs.length) → rs[j].2.2 ≤ i) (fun t => rs.length - (intOf t).toNat)
  case atStart => exact ⟨0, Nat.zero_le _, rfl, fun j hj => absurd hj (by omega)⟩
  case round =>
    obtain ⟨k, hk, rfl, hb⟩ := hrel
    have HB : Hid (∀ j, (hj : j < k) → (hl : j < rs.length) → rs[j].2.2 ≤ i) := hb
    clear hb
    by_cases hlt : k < rs.length
    · obtain ⟨b, off, rfl, _, _, c2⟩ := H.out k hlt
      by_cases hd : i < rs[k].2.2
      · go_wp2
        go_ret
        exact ⟨by rw [Runs.cut_of i rs k hlt hd (fun j hj => Int.not_lt.2 (HB.out j hj (by omega)))]; rfl, rfl⟩
      · go_wp2
        go_round
        case rel => exact ⟨k + 1, by omega, by go_num, fun j hj hl => by
          by_cases e : j = k
          · subst e; exact Int.not_lt.1 hd
          · exact HB.out j (by omega) hl⟩
        case measure => simp [intOf]; omega
    · go_wp2
      go_ret
      exact ⟨by rw [Runs.cut_none i rs (fun j hj => Int.not_lt.2 (HB.out j (by omega) hj))]; rfl, rfl⟩

theorem bytes7 (ao : Option Addr) (n cap : Nat) (i : Int) (W : World) (hn : n ≤ maxLen) :
    Calls Try.prog 7 #[.slice ao n cap, .int .i64 i] W fun e W' => (∃ b, e = .returned (.bool b)) ∧ W' = W := by
  unfold maxLen at hn
  go_enter Try.func7, Try.ntmps7
  go_wp2
  all_goals (go_ret; exact ⟨⟨_, rfl⟩, rfl⟩)

theorem bytes13 (ao : Option Addr) (n cap : Nat) (i j : Int) (W : World) (hn : n ≤ maxLen) :
    Calls Try.prog 13 #[.slice ao n cap, .int .i64 i, .int .i64 j] W fun e W' => (∃ b, e = .returned (.bool b)) ∧ W' = W := by
  unfold maxLen at hn
  go_enter Try.func13, Try.ntmps13
  go_wp2
  all_goals (go_ret; exact ⟨⟨_, rfl⟩, rfl⟩)

theorem len12 (q : Nat) (v : Value) (rs : List R3) (W : World) (h : OR W q v rs) :
    Calls Try.prog 12 #[.pointer (some ⟨q, 0, none⟩)] W fun e W' => e = .returned (.int .i64 rs.length) ∧ W' = W := by
  have hc := h.cell
  rcases h.form with ⟨rfl, rfl⟩ | ⟨g, cap, rfl, _⟩
  all_goals
    clear h
    go_enter Try.func12, Try.ntmps12
    go_wp2
    go_ret
    exact ⟨rfl, rfl⟩
end Go.Proofs.Qxb6608761a
