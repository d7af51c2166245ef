import Derived.Test.Qxb6608761aProg
import Derived.Test.Qxb6608761aCmp
import Derived.Test.Qxb6608761aFrames
import Derived.WalkKit
import Derived.Deep.QuietTactic
import Derived.BigQuiet
namespace Go.Proofs.Qxb6608761a
open Go.RowKit Cmp

/-- The bytes l lie at ao. -/
def BytesAt (W : World) (ao : Option Addr) (l : List Int) : Prop :=
  ∀ k, (hk : k < l.length) → ∃ b off, ao = some ⟨b, off, none⟩ ∧ W.cell? ⟨b, off + k, none⟩ = some (.int .u8 l[k])

theorem BytesAt.kept {S : Nat → Prop} {W W' : World} {ao : Option Addr} {l : List Int} (h : BytesAt W ao l) (hf : Fr S W W') (hS : ∀ a, ao = some a → ¬ S a.block) : BytesAt W' ao l := by
  intro k hk
  obtain ⟨b, off, rfl, h0⟩ := h k hk
  have hlt : b < W.heap.size := World.block_lt_of_cell? _ _ h0
  exact ⟨b, off, rfl, by rw [hf.cell (p := ⟨b, off + k, none⟩) hlt (hS ⟨b, off, none⟩ rfl)]; exact h0⟩

theorem BytesAt.later {W W' : World} {ao : Option Addr} {l : List Int} (h : BytesAt W ao l) (hf : Fr (fun _ => False) W W') : BytesAt W' ao l := h.kept hf (fun _ _ f => f)

theorem drawn2 (W : World) (a b : Nat) : ∃ m, (W.drewN a).drewN b = W.drewN m := ⟨_, World.drewN_drewN _ _ _⟩
theorem drawn3 (W : World) (a b c : Nat) : ∃ m, ((W.drewN a).drewN b).drewN c = W.drewN m := ⟨_, by rw [World.drewN_drewN, World.drewN_drewN]⟩

set_option maxHeartbeats 1000000 in
/-- equalBytes at two rows of the same bytes. -/
theorem equal24 (ao bo : Option Addr) (c1 c2 : Nat) (l : List Int) (W : World) (h1 : BytesAt W ao l) (h2 : BytesAt W bo l) (hn : l.length ≤ 100000000) :
    Calls Try.prog 24 #[.slice ao l.length c1, .slice bo l.length c2] W fun e W' => e = .returned (.bool true) ∧ ∃ n, W' = W.drewN n := by
  have H1 : Hid (BytesAt W ao l) := h1
  have H2 : Hid (BytesAt W bo l) := h2
  clear h1 h2
  go_enter Try.func24, Try.ntmps24
  go_wp2
  go_loopw [5] (fun t wr => ∃ k : Nat, k ≤ l.length ∧ t = .int .i64 k ∧ ∃ n, wr = W.drewN n) (fun t _ => l.length - (intOf t).toNat)
  case atStart => exact ⟨0, Nat.zero_le _, rfl, 0, rfl⟩
  case round =>
    obtain ⟨k, hk, rfl, n, rfl⟩ := hrel
    by_cases hlt : k < l.length
    · obtain ⟨b, off, rfl, x1⟩ := H1.out k hlt
      obtain ⟨b', off', rfl, x2⟩ := H2.out k hlt
      go_wp2
      go_quiet (fail)
      go_wp2
      go_roundw
      case rel => exact ⟨k + 1, by omega, by go_num, _, rfl⟩
      case measure => simp [intOf]; omega
    · go_wp2
      go_ret
      exact ⟨rfl, n, rfl⟩

set_option maxHeartbeats 2000000 in
/-- compareBytes, its loop at the shorter length m. -/
theorem compare43 (ao bo : Option Addr) (c1 c2 : Nat) (l1 l2 : List Int) (W : World) (h1 : BytesAt W ao l1) (h2 : BytesAt W bo l2) (hn1 : l1.length ≤ 100000000) (hn2 : l2.length ≤ 100000000) :
    Calls Try.prog 43 #[.slice ao l1.length c1, .slice bo l2.length c2] W fun e W' => e = .returned (.int .i64 (cmpL l1 l2)) ∧ ∃ n, W' = W.drewN n := by
  have H1 : Hid (BytesAt W ao l1) := h1
  have H2 : Hid (BytesAt W bo l2) := h2
  clear h1 h2
  by_cases hs : l2.length < l1.length
  all_goals
    go_enter Try.func43, Try.ntmps43
    go_wp2
  · go_loopw [6] (fun t wr => ∃ k : Nat, k ≤ l2.length ∧ t = .int .i64 k ∧ (∃ n, wr = W.drewN n) ∧ Hid (l1.take k = l2.take k)) (fun t _ => l2.length - (intOf t).toNat)
    case atStart => exact ⟨0, Nat.zero_le _, rfl, ⟨0, rfl⟩, rfl⟩
    case round =>
      obtain ⟨k, hk, rfl, ⟨n, rfl⟩, HE⟩ := hrel
      by_cases hlt : k < l2.length
      · have hlt1 : k < l1.length := by omega
        obtain ⟨b, off, rfl, x1⟩ := H1.out k hlt1
        obtain ⟨b', off', rfl, x2⟩ := H2.out k hlt
        have HC : Hid (cmpL l1 l2 = if l1[k] < l2[k] then -1 else if l2[k] < l1[k] then 1 else cmpL (l1.drop (k + 1)) (l2.drop (k + 1))) := cmpL_at l1 l2 k hlt1 hlt HE.out
        by_cases hc : l1[k] < l2[k]
        · go_wp2
          go_quiet (fail)
          go_wp2
          go_ret
          exact ⟨by rw [HC.out, if_pos hc]; rfl, drawn2 W _ _⟩
        · by_cases hc2 : l2[k] < l1[k]
          · go_wp2
            go_quiet (fail)
            go_wp2
            go_quiet (fail)
            go_wp2
            go_ret
            exact ⟨by rw [HC.out, if_neg (by omega), if_pos hc2]; rfl, drawn3 W _ _ _⟩
          · have HT : Hid (l1.take (k + 1) = l2.take (k + 1)) := take_next l1 l2 k hlt1 hlt HE.out (by omega)
            go_wp2
            go_quiet (fail)
            go_wp2
            go_quiet (fail)
            go_wp2
            go_roundw
            case rel => exact ⟨k + 1, by omega, by go_num, ⟨_, rfl⟩, HT⟩
            case measure => simp [intOf]; omega
      · have HC : Hid (cmpL l1 l2 = if l1.length < l2.length then -1 else if l2.length < l1.length then 1 else 0) := cmpL_end l1 l2 k HE.out (by omega) (by omega) (.inr (by omega))
        go_wp2
        go_ret
        exact ⟨by rw [HC.out, if_neg (by omega), if_pos hs]; rfl, _, rfl⟩
  · go_loopw [6] (fun t wr => ∃ k : Nat, k ≤ l1.length ∧ t = .int .i64 k ∧ (∃ n, wr = W.drewN n) ∧ Hid (l1.take k = l2.take k)) (fun t _ => l1.length - (intOf t).toNat)
    case atStart => exact ⟨0, Nat.zero_le _, rfl, ⟨0, rfl⟩, rfl⟩
    case round =>
      obtain ⟨k, hk, rfl, ⟨n, rfl⟩, HE⟩ := hrel
      by_cases hlt1 : k < l1.length
      · have hlt : k < l2.length := by omega
        obtain ⟨b, off, rfl, x1⟩ := H1.out k hlt1
        obtain ⟨b', off', rfl, x2⟩ := H2.out k hlt
        have HC : Hid (cmpL l1 l2 = if l1[k] < l2[k] then -1 else if l2[k] < l1[k] then 1 else cmpL (l1.drop (k + 1)) (l2.drop (k + 1))) := cmpL_at l1 l2 k hlt1 hlt HE.out
        by_cases hc : l1[k] < l2[k]
        · go_wp2
          go_quiet (fail)
          go_wp2
          go_ret
          exact ⟨by rw [HC.out, if_pos hc]; rfl, drawn2 W _ _⟩
        · by_cases hc2 : l2[k] < l1[k]
          · go_wp2
            go_quiet (fail)
            go_wp2
            go_quiet (fail)
            go_wp2
            go_ret
            exact ⟨by rw [HC.out, if_neg (by omega), if_pos hc2]; rfl, drawn3 W _ _ _⟩
          · have HT : Hid (l1.take (k + 1) = l2.take (k + 1)) := take_next l1 l2 k hlt1 hlt HE.out (by omega)
            go_wp2
            go_quiet (fail)
            go_wp2
            go_quiet (fail)
            go_wp2
            go_roundw
            case rel => exact ⟨k + 1, by omega, by go_num, ⟨_, rfl⟩, HT⟩
            case measure => simp [intOf]; omega
      · have HC : Hid (cmpL l1 l2 = if l1.length < l2.length then -1 else if l2.length < l1.length then 1 else 0) := cmpL_end l1 l2 k HE.out (by omega) (by omega) (.inl (by omega))
        by_cases hll : l1.length < l2.length
        · go_wp2
          go_ret
          exact ⟨by rw [HC.out, if_pos hll]; rfl, _, rfl⟩
        · go_wp2
          go_ret
          exact ⟨by rw [HC.out, if_neg (by omega), if_neg (by omega)]; rfl, _, rfl⟩
end Go.Proofs.Qxb6608761a
