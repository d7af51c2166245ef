import Derived.Test.Qxb6607686aProg
import Derived.WalkKit
import Derived.Laws.LoneSync
import Derived.Deep.QuietTactic
import Derived.BigQuiet
namespace Go.Proofs.Qxb6607686a
open Go.RowKit

theorem store8 (b o : Nat) (y : Int) (u : Value) (w : World) (hc : w.cell? ⟨b, o, none⟩ = some u) (hz : w.frozen? ⟨b, o, none⟩ = false) :
    Calls Try.prog 8 #[.pointer (some ⟨b, o, none⟩), .int .i64 y] w fun e w' => e = .returned (.tuple #[]) ∧ w' = w.setCell ⟨b, o, none⟩ (.int .i64 y) := by
  have hst := run_call_store (P := Try.prog) Try.func11 (by kernel_rfl) (by kernel_rfl) (by kernel_rfl) (by kernel_rfl) (k := .i64) (y := y) hc hz
  go_enter Try.func8, Try.ntmps8
  go_wp2
  go_end0
  exact ⟨rfl, rfl⟩

theorem load10 (b o : Nat) (x : Int) (w : World) (hc : w.cell? ⟨b, o, none⟩ = some (.int .i64 x)) :
    Calls Try.prog 10 #[.pointer (some ⟨b, o, none⟩)] w fun e w' => e = .returned (.int .i64 x) ∧ w' = w := by
  have hl := run_call_load (P := Try.prog) Try.func13 (by kernel_rfl) (by kernel_rfl) (by kernel_rfl) .i64 (by kernel_rfl) hc
  go_enter Try.func10, Try.ntmps10
  go_wp2
  go_ret
  exact ⟨rfl, rfl⟩

theorem add12 (b o : Nat) (x : Int) (w : World) (hc : w.cell? ⟨b, o, none⟩ = some (.int .i64 x)) (hz : w.frozen? ⟨b, o, none⟩ = false) :
    Calls Try.prog 12 #[.pointer (some ⟨b, o, none⟩), .int .i64 1] w fun e w' => e = .returned (.int .i64 (wrap64 (x + 1))) ∧ w' = w.setCell ⟨b, o, none⟩ (.int .i64 (wrap64 (x + 1))) := by
  have ha := run_call_add (P := Try.prog) Try.func14 (by kernel_rfl) (by kernel_rfl) (by kernel_rfl) .i64 (by kernel_rfl) (y := 1) (s := wrap64 (x + 1)) hc hz (by simp [go_sem, wrap64, IntKind.wrap_i64])
  go_enter Try.func12, Try.ntmps12
  go_wp2
  go_ret
  exact ⟨rfl, rfl⟩

theorem broker9_nil (w : World) : Calls Try.prog 9 #[.pointer none] w fun e w' => e = .returned (.tuple #[]) ∧ w' = w := by
  go_enter Try.func9, Try.ntmps9
  go_wp2
  go_end0
  exact ⟨rfl, rfl⟩

theorem broker9 (b : Nat) (x : Int) (w : World) (hc : w.cell? ⟨b, 3, none⟩ = some (.int .i64 x)) (hz : w.frozen? ⟨b, 3, none⟩ = false) :
    Calls Try.prog 9 #[.pointer (some ⟨b, 0, none⟩)] w fun e w' => e = .returned (.tuple #[]) ∧ w' = w.setCell ⟨b, 3, none⟩ (.int .i64 (wrap64 (x + 1))) := by
  go_enter Try.func9, Try.ntmps9
  go_wp2_with (go_at_call 12; refine (add12 _ _ x _ hc hz).mono ?_; rintro e w' ⟨rfl, rfl⟩)
  go_end0
  exact ⟨rfl, rfl⟩

theorem broker6_nil (w : World) : Calls Try.prog 6 #[.pointer none] w fun e w' => e = .returned (.tuple #[]) ∧ w' = w := by
  go_enter Try.func6, Try.ntmps6
  go_wp2_with (go_at_call 9; refine (broker9_nil _).mono ?_; rintro e w' ⟨rfl, rfl⟩)
  go_end0
  exact ⟨rfl, rfl⟩

theorem broker6 (b : Nat) (x : Int) (w : World) (hc : w.cell? ⟨b, 3, none⟩ = some (.int .i64 x)) (hz : w.frozen? ⟨b, 3, none⟩ = false) :
    Calls Try.prog 6 #[.pointer (some ⟨b, 0, none⟩)] w fun e w' => e = .returned (.tuple #[]) ∧ w' = w.setCell ⟨b, 3, none⟩ (.int .i64 (wrap64 (x + 1))) := by
  go_enter Try.func6, Try.ntmps6
  go_wp2_with (go_at_call 9; refine (broker9 b x _ hc hz).mono ?_; rintro e w' ⟨rfl, rfl⟩)
  go_end0
  exact ⟨rfl, rfl⟩

/-- The world with counters at its end. -/
def cw (w : World) (a0 a1 a2 a3 a4 a5 : Int) : World := w.alloc (.cells #[.int .i64 a0, .int .i64 a1, .int .i64 a2, .int .i64 a3, .int .i64 a4, .int .i64 a5] 35)

theorem cw_add (w : World) (a0 a1 a2 a3 a4 a5 x : Int) : (cw w a0 a1 a2 a3 a4 a5).setCell ⟨w.heap.size, 3, none⟩ (.int .i64 x) = cw w a0 a1 a2 x a4 a5 := by
  unfold cw; rw [World.setCell_alloc_at _ _ _ _ _ rfl]; rfl

set_option maxHeartbeats 1000000 in
theorem new5 (a0 a1 a2 a3 a4 a5 : Int) (w : World) :
    Calls Try.prog 5 #[.int .i64 a0, .int .i64 a1, .int .i64 a2, .int .i64 a3, .int .i64 a4, .int .i64 a5] w fun e w' => e = .returned (.pointer (some ⟨w.heap.size, 0, none⟩)) ∧ w' = cw w a0 a1 a2 a3 a4 a5 := by
  unfold cw
  go_enter Try.func5, Try.ntmps5
  go_wp2_with (go_at_call 8; refine (store8 _ _ _ (.int .i64 0) _ ?_ ?_).mono ?_; simp; simp; rintro e w' ⟨rfl, rfl⟩)
  go_ret
  exact ⟨rfl, rfl⟩

set_option maxHeartbeats 1000000 in
theorem read7 (a0 a1 a2 a3 a4 a5 : Int) (b : Nat) (w : World) (h0 : w.cell? ⟨b, 0, none⟩ = some (.int .i64 a0)) (h1 : w.cell? ⟨b, 1, none⟩ = some (.int .i64 a1)) (h2 : w.cell? ⟨b, 2, none⟩ = some (.int .i64 a2)) (h3 : w.cell? ⟨b, 3, none⟩ = some (.int .i64 a3)) (h4 : w.cell? ⟨b, 4, none⟩ = some (.int .i64 a4)) (h5 : w.cell? ⟨b, 5, none⟩ = some (.int .i64 a5)) :
    Calls Try.prog 7 #[.pointer (some ⟨b, 0, none⟩)] w fun e w' => e = .returned (.tuple #[.int .i64 a0, .int .i64 a1, .int .i64 a2, .int .i64 a3, .int .i64 a4, .int .i64 a5]) ∧ ∃ n, w' = w.drewN n := by
  go_enter Try.func7, Try.ntmps7
  go_wp2
  go_quiet ((go_at_call 10; exact Calls.quiet_of_same (load10 _ _ _ _ (by first | exact h0 | exact h1 | exact h2 | exact h3 | exact h4 | exact h5))))
  go_wp2
  exact bodyPost_ret (v := .tuple #[.int .i64 a0, .int .i64 a1, .int .i64 a2, .int .i64 a3, .int .i64 a4, .int .i64 a5]) (by simp [results, Try.results7, go_sem]) rfl ⟨rfl, _, rfl⟩
end Go.Proofs.Qxb6607686a
