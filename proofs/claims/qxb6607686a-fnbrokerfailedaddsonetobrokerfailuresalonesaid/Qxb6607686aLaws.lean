import Derived.Test.Qxb6607686aWalks
import Derived.Deep.RegionWith
namespace Go.Proofs.Qxb6607686a
open Go.RowKit

section
variable (w : World) (a0 a1 a2 a3 a4 a5 : Int)
theorem cw_c0 : (cw w a0 a1 a2 a3 a4 a5).cell? ⟨w.heap.size, 0, none⟩ = some (.int .i64 a0) := by unfold cw; simp
theorem cw_c1 : (cw w a0 a1 a2 a3 a4 a5).cell? ⟨w.heap.size, 1, none⟩ = some (.int .i64 a1) := by unfold cw; simp
theorem cw_c2 : (cw w a0 a1 a2 a3 a4 a5).cell? ⟨w.heap.size, 2, none⟩ = some (.int .i64 a2) := by unfold cw; simp
theorem cw_c3 : (cw w a0 a1 a2 a3 a4 a5).cell? ⟨w.heap.size, 3, none⟩ = some (.int .i64 a3) := by unfold cw; simp
theorem cw_c4 : (cw w a0 a1 a2 a3 a4 a5).cell? ⟨w.heap.size, 4, none⟩ = some (.int .i64 a4) := by unfold cw; simp
theorem cw_c5 : (cw w a0 a1 a2 a3 a4 a5).cell? ⟨w.heap.size, 5, none⟩ = some (.int .i64 a5) := by unfold cw; simp
theorem cw_f3 : (cw w a0 a1 a2 a3 a4 a5).frozen? ⟨w.heap.size, 3, none⟩ = false := by unfold cw; simp
theorem cw_grown (n : Nat) : Grown w ((cw w a0 a1 a2 a3 a4 a5).drewN n) := ((Grown.refl w).alloc _ _)

/-- brokerFailed on the counters at the world's end. -/
theorem broker_cw : Calls Try.prog 6 #[.pointer (some ⟨w.heap.size, 0, none⟩)] (cw w a0 a1 a2 a3 a4 a5) fun e w' => e = .returned (.tuple #[]) ∧ w' = cw w a0 a1 a2 (wrap64 (a3 + 1)) a4 a5 :=
  (broker6 w.heap.size a3 _ (cw_c3 ..) (cw_f3 ..)).mono fun _ _ ⟨he, hw⟩ => ⟨he, hw.trans (cw_add ..)⟩

theorem read_cw : Calls Try.prog 7 #[.pointer (some ⟨w.heap.size, 0, none⟩)] (cw w a0 a1 a2 a3 a4 a5) fun e w' => e = .returned (.tuple #[.int .i64 a0, .int .i64 a1, .int .i64 a2, .int .i64 a3, .int .i64 a4, .int .i64 a5]) ∧ Grown w w' :=
  (read7 a0 a1 a2 a3 a4 a5 w.heap.size _ (cw_c0 ..) (cw_c1 ..) (cw_c2 ..) (cw_c3 ..) (cw_c4 ..) (cw_c5 ..)).mono fun _ _ ⟨he, n, hw⟩ => ⟨he, by rw [hw]; exact cw_grown ..⟩
end

theorem wrap64_succ (a : Int) (k : Nat) : wrap64 (wrap64 (a + k) + 1) = wrap64 (a + (k + 1 : Nat)) := by
  unfold wrap64; omega

set_option maxHeartbeats 1000000 in
theorem law3 (a0 a1 a2 a3 a4 a5 : Int) (w : World) :
    Calls Try.prog 3 #[.int .i64 a0, .int .i64 a1, .int .i64 a2, .int .i64 a3, .int .i64 a4, .int .i64 a5] w fun e w' => e = .returned (.bool true) ∧ Grown w w' := by
  go_enter Try.func3, Try.ntmps3
  go_wp2_with (first | (go_at_call 5; refine (new5 _ _ _ _ _ _ _).mono ?_; rintro e w' ⟨rfl, rfl⟩) | (go_at_call 6; refine (broker_cw _ _ _ _ _ _ _).mono ?_; rintro e w' ⟨rfl, rfl⟩) | (go_at_call 7; refine (read_cw _ _ _ _ _ _ _).mono ?_; rintro e w' ⟨rfl, hg⟩))
  go_ret
  exact ⟨rfl, hg⟩

set_option maxHeartbeats 1000000 in
theorem law4_out (a0 a1 a2 a3 a4 a5 n : Int) (w : World) (h : n < 0 ∨ 65536 < n) :
    Calls Try.prog 4 #[.int .i64 a0, .int .i64 a1, .int .i64 a2, .int .i64 a3, .int .i64 a4, .int .i64 a5, .int .i64 n] w fun e w' => e = .returned (.bool true) ∧ Grown w w' := by
  rcases h with h | h
  · go_enter Try.func4, Try.ntmps4
    go_wp2_with fail
    go_ret
    exact ⟨rfl, Grown.refl _⟩
  · have h' : ¬ n < 0 := by omega
    go_enter Try.func4, Try.ntmps4
    go_wp2_with fail
    go_ret
    exact ⟨rfl, Grown.refl _⟩

set_option maxHeartbeats 1000000 in
theorem law4_in (a0 a1 a2 a3 a4 a5 : Int) (m : Nat) (w : World) (hm : m ≤ 65536) (H3 : Hid (wrap64 (a3 + (0 : Nat)) = a3)) :
    Calls Try.prog 4 #[.int .i64 a0, .int .i64 a1, .int .i64 a2, .int .i64 a3, .int .i64 a4, .int .i64 a5, .int .i64 m] w fun e w' => e = .returned (.bool true) ∧ Grown w w' := by
  have h1 : ¬ ((m : Int) < 0) := by omega
  have h2 : ¬ ((65536 : Int) < m) := by omega
  go_enter Try.func4, Try.ntmps4
  go_wp2_with (go_at_call 5; refine (new5 _ _ _ _ _ _ _).mono ?_; rintro e w' ⟨rfl, rfl⟩)
  go_loopw [16] (fun i wr => ∃ k : Nat, k ≤ m ∧ i = .int .i64 k ∧ wr = cw w a0 a1 a2 (wrap64 (a3 + (k : Nat))) a4 a5) (fun i _ => m - (intOf i).toNat)
  case atStart => exact ⟨0, Nat.zero_le _, rfl, by rw [H3.out]⟩
  case round =>
    obtain ⟨k, hk, rfl, rfl⟩ := hrel
    by_cases hlt : k < m
    · go_wp2_with (first | (go_at_call_of 6 (Value.pointer none); refine (broker6_nil _).mono ?_; rintro e w' ⟨rfl, rfl⟩) | (go_at_call 6; refine (broker_cw _ _ _ _ _ _ _).mono ?_; rintro e w' ⟨rfl, rfl⟩))
      go_roundw
      case rel => exact ⟨k + 1, by omega, by go_num, by rw [wrap64_succ]⟩
      case measure => simp [intOf]; omega
    · have hkm : k = m := by omega
      subst hkm
      go_wp2_with (first | (go_at_call_of 6 (Value.pointer none); refine (broker6_nil _).mono ?_; rintro e w' ⟨rfl, rfl⟩) | (go_at_call 7; refine (read_cw _ _ _ _ _ _ _).mono ?_; rintro e w' ⟨rfl, hg⟩))
      go_ret
      exact ⟨rfl, hg⟩
end Go.Proofs.Qxb6607686a
