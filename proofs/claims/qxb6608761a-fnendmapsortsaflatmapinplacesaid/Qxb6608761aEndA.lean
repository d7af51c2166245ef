import Derived.Test.Qxb6608761aMoveC
namespace Go.Proofs.Qxb6608761a
open Go.RowKit Cmp

set_option maxRecDepth 100000 in
set_option maxHeartbeats 2000000 in
/-- EndMap at a map of no entry. -/
theorem end20_none (q : Nat) (va : Option Addr) (nv cv : Nat) (vp : Value) (ip : Int) (W : World) (hO : OBlk W q (.slice none 0 0) vp ip (.slice none 0 0)) :
    Calls Try.prog 20 #[.pointer (some ⟨q, 0, none⟩), .slice va nv cv, .agg #[.int .i64 0, .int .i64 (-1), .int .i64 ip]] W fun e W' => e = .returned (.tuple #[]) ∧ OBlk W' q (.slice none 0 0) vp ip (.slice none 0 0) ∧ Fr (fun b => b = q) W W' := by
  have G1 : Fr (fun _ => False) W (W.alloc (.cells #[.int .i64 0, .int .i64 (-1), .int .i64 ip] 51)) := Fr.alloc _ _
  have hlt := hO.lt
  have hO1 := hO.kept G1 (fun f => f)
  have c0 := hO1.c0
  have f0 := hO1.free 0
  have b0 : (W.alloc (.cells #[.int .i64 0, .int .i64 (-1), .int .i64 ip] 51)).cell? ⟨W.heap.size, 0, none⟩ = some (.int .i64 0) := by simp
  have b1 : (W.alloc (.cells #[.int .i64 0, .int .i64 (-1), .int .i64 ip] 51)).cell? ⟨W.heap.size, 1, none⟩ = some (.int .i64 (-1)) := by simp
  have HO := hid hO1
  have HG := hid G1
  have hne : q ≠ W.heap.size := by omega
  clear hO hO1 G1
  go_enter Try.func20, Try.ntmps20
  go_wp2_with fail
  generalize W.alloc (.cells #[.int .i64 0, .int .i64 (-1), .int .i64 ip] 51) = W1 at *
  generalize W.heap.size = bx at *
  go_quiet (fail)
  go_wp2_with fail
  go_region
  all_goals
    go_wp2_with fail
    go_end0
    exact ⟨rfl, ((HO.out.kept (S := fun _ => False) (Fr.drewN _ nq) (fun f => f)).set0 _).kept (S := fun _ => False) (Fr.drew _) (fun f => f), ((HG.out.mono (fun _ _ f => f.elim)).trans (Fr.drewN (S := fun b => b = q) _ nq) (fun _ _ x => x)).trans ((Fr.setCell (S := fun b => b = q) _ _ _ rfl).trans (Fr.drew _) (fun _ _ x => x)) (fun _ _ x => x)⟩

set_option maxRecDepth 100000 in
set_option maxHeartbeats 2000000 in
/-- .. of one entry. -/
theorem end20_one (q go co : Nat) (va : Option Addr) (nv cv : Nat) (vp : Value) (ip : Int) (W : World) (hO : OBlk W q (.slice (some ⟨go, 0, none⟩) 1 co) vp ip (.slice none 0 0)) (hco : 1 ≤ co) :
    Calls Try.prog 20 #[.pointer (some ⟨q, 0, none⟩), .slice va nv cv, .agg #[.int .i64 0, .int .i64 (-1), .int .i64 ip]] W fun e W' => e = .returned (.tuple #[]) ∧ OBlk W' q (.slice (some ⟨go, 0, none⟩) 0 co) vp ip (.slice none 0 0) ∧ Fr (fun b => b = q) W W' := by
  have G1 : Fr (fun _ => False) W (W.alloc (.cells #[.int .i64 0, .int .i64 (-1), .int .i64 ip] 51)) := Fr.alloc _ _
  have hlt := hO.lt
  have z1 : (1 : Int) ≤ (co : Int) := by omega
  have hO1 := hO.kept G1 (fun f => f)
  have c0 := hO1.c0
  have f0 := hO1.free 0
  have b0 : (W.alloc (.cells #[.int .i64 0, .int .i64 (-1), .int .i64 ip] 51)).cell? ⟨W.heap.size, 0, none⟩ = some (.int .i64 0) := by simp
  have b1 : (W.alloc (.cells #[.int .i64 0, .int .i64 (-1), .int .i64 ip] 51)).cell? ⟨W.heap.size, 1, none⟩ = some (.int .i64 (-1)) := by simp
  have HO := hid hO1
  have HG := hid G1
  have hne : q ≠ W.heap.size := by omega
  clear hO hO1 G1
  go_enter Try.func20, Try.ntmps20
  go_wp2_with fail
  generalize W.alloc (.cells #[.int .i64 0, .int .i64 (-1), .int .i64 ip] 51) = W1 at *
  generalize W.heap.size = bx at *
  go_quiet (fail)
  go_wp2_with fail
  go_region
  all_goals
    go_wp2_with fail
    go_end0
    exact ⟨rfl, ((HO.out.kept (S := fun _ => False) (Fr.drewN _ nq) (fun f => f)).set0 _).kept (S := fun _ => False) (Fr.drew _) (fun f => f), ((HG.out.mono (fun _ _ f => f.elim)).trans (Fr.drewN (S := fun b => b = q) _ nq) (fun _ _ x => x)).trans ((Fr.setCell (S := fun b => b = q) _ _ _ rfl).trans (Fr.drew _) (fun _ _ x => x)) (fun _ _ x => x)⟩
end Go.Proofs.Qxb6608761a
