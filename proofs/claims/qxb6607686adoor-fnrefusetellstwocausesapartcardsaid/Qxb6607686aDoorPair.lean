import Derived.Test.Qxb6607686aDoorOnce
namespace Go.Proofs.Qxb6607686aDoor
open Go.RowKit Go.Extern.Stop Go.Stop Go.Extern

/-- What the six looks of ZZRefusePair find, in whatever world that has grown out of W. -/
structure PairIs (x y a0 : Addr) (W : World) : Prop where
  x0 : ErrIs (.iface 37 (.agg #[.iface 40 (.pointer (some x))])) a0 true W
  xx : ErrIs (.iface 37 (.agg #[.iface 40 (.pointer (some x))])) x true W
  xy : ErrIs (.iface 37 (.agg #[.iface 40 (.pointer (some x))])) y false W

theorem pairIs {x y a0 : Addr} {c0 cx cy : Array Value} {t0 tx ty : TypeId} {W : World} (hg : W.cell? ⟨0, 0, none⟩ = some (.iface 40 (.pointer (some a0)))) (h0 : 0 < W.heap.size)
    (hb0 : W.heap[a0.block]? = some (.cells c0 t0 (0, 0))) (hbx : W.heap[x.block]? = some (.cells cx tx (0, 0))) (hby : W.heap[y.block]? = some (.cells cy ty (0, 0))) (hx : x ≠ a0) (hy : y ≠ a0) (hxy : x ≠ y) : PairIs x y a0 W :=
  ⟨ErrIs.refusal (r0 := true) (r1 := false) hg h0 (ErrIs.same _ _) (ErrIs.other hx hbx hb0),
   ErrIs.refusal (r0 := false) (r1 := true) hg h0 (ErrIs.other hx.symm hb0 hbx) (ErrIs.same _ _),
   ErrIs.refusal (r0 := false) (r1 := false) hg h0 (ErrIs.other hy.symm hb0 hby) (ErrIs.other hxy hbx hby)⟩

theorem pair_end {w u : World} {o1 o2 : Obj} (hu : Below ((w.alloc o1).alloc o2).heap.size ((w.alloc o1).alloc o2) u) : Below w.heap.size w u := by
  have h1 : Below w.heap.size w ((w.alloc o1).alloc o2) := ((Below.refl _ _).alloc (Nat.le_refl _) _).alloc (by simp) _
  exact h1.trans (hu.mono h1.size)

set_option maxHeartbeats 4000000 in
theorem pair_any (s t : ByteArray) (a0 : Addr) (c0 : Array Value) (t0 : TypeId) (w : World) (hg : w.cell? ⟨0, 0, none⟩ = some (.iface 40 (.pointer (some a0)))) (h0 : 0 < w.heap.size)
    (hb0 : w.heap[a0.block]? = some (.cells c0 t0 (0, 0))) :
    Calls Tryd.prog 11 #[.string s, .string t] w fun e w' => e = .returned (.tuple #[.bool false, .bool true, .bool true, .bool false, .bool false, .bool true, .bool true, .bool false]) ∧ Below w.heap.size w w' := by
  have lt0 := lt_of_heap hb0
  have hB : Below w.heap.size w ((w.alloc (.cells #[.string s] 42)).alloc (.cells #[.string t] 42)) := ((Below.refl _ _).alloc (Nat.le_refl _) _).alloc (by simp) _
  have hg1 : ((w.alloc (.cells #[.string s] 42)).alloc (.cells #[.string t] 42)).cell? ⟨0, 0, none⟩ = some (.iface 40 (.pointer (some a0))) := by rw [hB.cell (p := ⟨0, 0, none⟩) h0]; exact hg
  have h01 : 0 < ((w.alloc (.cells #[.string s] 42)).alloc (.cells #[.string t] 42)).heap.size := by simp
  have hb1 := (hB.block _ lt0).trans hb0
  have hbx : ((w.alloc (.cells #[.string s] 42)).alloc (.cells #[.string t] 42)).heap[w.heap.size]? = some (.cells #[.string s] 42) := (Below.heap_alloc _ _ _ (by simp)).trans (heap_new w _)
  have hby : ((w.alloc (.cells #[.string s] 42)).alloc (.cells #[.string t] 42)).heap[w.heap.size + 1]? = some (.cells #[.string t] 42) := by
    have := heap_new (w.alloc (.cells #[.string s] 42)) (.cells #[.string t] 42)
    simpa using this
  have hx : (⟨w.heap.size, 0, none⟩ : Addr) ≠ a0 := fun e => by rw [← e] at lt0; exact Nat.lt_irrefl _ lt0
  have hy : (⟨w.heap.size + 1, 0, none⟩ : Addr) ≠ a0 := fun e => by rw [← e] at lt0; simp at lt0; omega
  have hxy : (⟨w.heap.size, 0, none⟩ : Addr) ≠ ⟨w.heap.size + 1, 0, none⟩ := fun e => by simp at e
  have PX := pairIs hg1 h01 hb1 hbx hby hx hy hxy
  have PY := pairIs hg1 h01 hb1 hby hbx hy hx hxy.symm
  clear hb1 hbx hby hx hy hxy hB
  go_enter Tryd.func11, Tryd.ntmps11
  go_wp2_with (first | (go_at_call 17; refine (new_any _ _).mono ?_; rintro e w' ⟨rfl, rfl⟩) | (go_at_call 16; refine (refuse_any _ _ _).mono ?_; rintro e w' ⟨rfl, rfl⟩))
  generalize (⟨w.heap.size + 1, 0, none⟩ : Addr) = y at PX PY ⊢
  go_region_with (first
    | (go_at_call_of 18 (#[Value.iface 37 (.agg #[.iface 40 (.pointer (some ⟨w.heap.size, 0, none⟩))]), .iface 40 (.pointer (some a0))]); refine (is_later PX.x0 _ ?_).mono ?_; exact (Below.refl _ _).drew; rintro e u ⟨rfl, hu⟩; have hgu := (hu.cell (p := ⟨0, 0, none⟩) h01).trans hg1)
    | (go_at_call_of 18 (#[Value.iface 37 (.agg #[.iface 40 (.pointer (some ⟨w.heap.size, 0, none⟩))]), .iface 40 (.pointer (some ⟨w.heap.size, 0, none⟩))]); refine (is_later PX.xx _ ?_).mono ?_; exact hu; rintro e u ⟨rfl, hu⟩; have hgu := (hu.cell (p := ⟨0, 0, none⟩) h01).trans hg1)
    | (go_at_call_of 18 (#[Value.iface 37 (.agg #[.iface 40 (.pointer (some ⟨w.heap.size, 0, none⟩))]), .iface 40 (.pointer (some y))]); refine (is_later PX.xy _ ?_).mono ?_; exact hu; rintro e u ⟨rfl, hu⟩; have hgu := (hu.cell (p := ⟨0, 0, none⟩) h01).trans hg1)
    | (go_at_call_of 18 (#[Value.iface 37 (.agg #[.iface 40 (.pointer (some y))]), .iface 40 (.pointer (some a0))]); refine (is_later PY.x0 _ ?_).mono ?_; exact hu; rintro e u ⟨rfl, hu⟩; have hgu := (hu.cell (p := ⟨0, 0, none⟩) h01).trans hg1)
    | (go_at_call_of 18 (#[Value.iface 37 (.agg #[.iface 40 (.pointer (some y))]), .iface 40 (.pointer (some y))]); refine (is_later PY.xx _ ?_).mono ?_; exact hu; rintro e u ⟨rfl, hu⟩)
    | (go_at_call_of 18 (#[Value.iface 37 (.agg #[.iface 40 (.pointer (some y))]), .iface 40 (.pointer (some ⟨w.heap.size, 0, none⟩))]); refine (is_later PY.xy _ ?_).mono ?_; exact hu; rintro e u ⟨rfl, hu⟩))
  all_goals (try go_wp2)
  all_goals (exact bodyPost_ret (v := .tuple #[.bool false, .bool true, .bool true, .bool false, .bool false, .bool true, .bool true, .bool false]) (by simp [results, Tryd.results11, go_sem]) rfl ⟨rfl, pair_end hu⟩)
end Go.Proofs.Qxb6607686aDoor
