import Derived.Test.Qxb6607686aDoorCalls
namespace Go.Proofs.Qxb6607686aDoor
open Go.RowKit Go.Extern.Stop Go.Stop Go.Extern

/-- errors.Is in a world that has grown out of w. -/
theorem is_later {tv : TypeId} {xv : Value} {b : Addr} {r : Bool} {w : World} (h : ErrIs (.iface tv xv) b r w) (W : World) (hW : Below w.heap.size w W) :
    Calls Tryd.prog 18 #[.iface tv xv, .iface 40 (.pointer (some b))] W fun e w' => e = .returned (.bool r) ∧ Below w.heap.size w w' :=
  (is_any tv xv b r W (h.later hW)).mono fun _ _ ⟨he, hw⟩ => ⟨he, hW.trans (hw.mono hW.size)⟩

theorem heap_new (w : World) (o : Obj) : (w.alloc o).heap[w.heap.size]? = some o := by
  show (w.heap.push o)[w.heap.size]? = some o
  simp

/-- A fresh error against the refusal of another: false. -/
theorem fresh_false {a0 x : Addr} {c0 cx : Array Value} {t0 tx : TypeId} {s : ByteArray} {w : World} (hg : w.cell? ⟨0, 0, none⟩ = some (.iface 40 (.pointer (some a0)))) (h0 : 0 < w.heap.size)
    (hb0 : w.heap[a0.block]? = some (.cells c0 t0 (0, 0))) (hbx : w.heap[x.block]? = some (.cells cx tx (0, 0))) :
    ErrIs (.iface 37 (.agg #[.iface 40 (.pointer (some x))])) ⟨w.heap.size, 0, none⟩ false (w.alloc (.cells #[.string s] 42)) := by
  have lt0 := lt_of_heap hb0
  have ltx := lt_of_heap hbx
  have hB : Below w.heap.size w (w.alloc (.cells #[.string s] 42)) := (Below.refl _ _).alloc (Nat.le_refl _) _
  exact ErrIs.refusal (r0 := false) (r1 := false) (by rw [hB.cell (p := ⟨0, 0, none⟩) h0]; exact hg) (by simp)
    (ErrIs.other (fun e => by rw [e] at lt0; exact Nat.lt_irrefl _ lt0) ((hB.block _ lt0).trans hb0) (heap_new w _))
    (ErrIs.other (fun e => by rw [e] at ltx; exact Nat.lt_irrefl _ ltx) ((hB.block _ ltx).trans hbx) (heap_new w _))

theorem once_end {w u2 u3 : World} {o1 o2 : Obj} (hu2 : Below (w.alloc o1).heap.size (w.alloc o1) u2) (hu3 : Below (u2.alloc o2).heap.size (u2.alloc o2) u3) : Below w.heap.size w u3 := by
  have h1 : Below w.heap.size w (w.alloc o1) := (Below.refl _ _).alloc (Nat.le_refl _) _
  have h2 : Below w.heap.size w u2 := h1.trans (hu2.mono h1.size)
  have h3 : Below w.heap.size w (u2.alloc o2) := h2.alloc h2.size _
  exact h3.trans (hu3.mono h3.size)

set_option maxHeartbeats 1000000 in
theorem once_any (s o : ByteArray) (a0 : Addr) (c0 : Array Value) (t0 : TypeId) (w : World) (hg : w.cell? ⟨0, 0, none⟩ = some (.iface 40 (.pointer (some a0)))) (h0 : 0 < w.heap.size)
    (hb0 : w.heap[a0.block]? = some (.cells c0 t0 (0, 0))) :
    Calls Tryd.prog 9 #[.string s, .string o] w fun e w' => e = .returned (.tuple #[.bool false, .bool true, .bool true, .bool false]) ∧ Below w.heap.size w w' := by
  have lt0 := lt_of_heap hb0
  have hB : Below w.heap.size w (w.alloc (.cells #[.string s] 42)) := (Below.refl _ _).alloc (Nat.le_refl _) _
  have hg1 : (w.alloc (.cells #[.string s] 42)).cell? ⟨0, 0, none⟩ = some (.iface 40 (.pointer (some a0))) := by rw [hB.cell (p := ⟨0, 0, none⟩) h0]; exact hg
  have h01 : 0 < (w.alloc (.cells #[.string s] 42)).heap.size := by simp
  have hb1 := (hB.block _ lt0).trans hb0
  have hbi := heap_new w (.cells #[.string s] 42)
  have hne : (⟨w.heap.size, 0, none⟩ : Addr) ≠ a0 := fun e => by rw [← e] at lt0; exact Nat.lt_irrefl _ lt0
  have E0 : ErrIs (.iface 37 (.agg #[.iface 40 (.pointer (some ⟨w.heap.size, 0, none⟩))])) a0 true (w.alloc (.cells #[.string s] 42)) :=
    ErrIs.refusal (r0 := true) (r1 := false) hg1 h01 (ErrIs.same _ _) (ErrIs.other hne hbi hb1)
  have E1 : ErrIs (.iface 37 (.agg #[.iface 40 (.pointer (some ⟨w.heap.size, 0, none⟩))])) ⟨w.heap.size, 0, none⟩ true (w.alloc (.cells #[.string s] 42)) :=
    ErrIs.refusal (r0 := false) (r1 := true) hg1 h01 (ErrIs.other hne.symm hb1 hbi) (ErrIs.same _ _)
  clear hb1 hbi hne hB
  go_enter Tryd.func9, Tryd.ntmps9
  go_wp2_with (first | (go_at_call 17; refine (new_any _ _).mono ?_; rintro e w' ⟨rfl, rfl⟩) | (go_at_call 16; refine (refuse_any _ _ _).mono ?_; rintro e w' ⟨rfl, rfl⟩))
  go_region_with (first
    | (go_at_call_of 18 (Value.iface 40 (Value.pointer (some a0))); refine (is_later E0 _ ?_).mono ?_; exact (Below.refl _ _).drew; rintro e u1 ⟨rfl, hu1⟩)
    | (go_at_call_of 18 (Value.pointer (some (Addr.mk u2.heap.size 0 none))); refine (is_later (fresh_false (s := o) (a0 := a0) (c0 := c0) (t0 := t0) (cx := #[.string s]) (tx := 42) ?_ ?_ ?_ ?_) _ ?_).mono ?_; exact (by rw [hu2.cell (p := ⟨0, 0, none⟩) h01]; exact hg1); exact Nat.lt_of_lt_of_le h01 hu2.size; exact (hu2.block _ (by simp; omega)).trans ((Below.heap_alloc _ _ _ lt0).trans hb0); exact (hu2.block _ (by simp)).trans (heap_new _ _); exact Below.refl _ _; rintro e u3 ⟨rfl, hu3⟩)
    | (go_at_call 18; refine (is_later E1 _ ?_).mono ?_; exact hu1; rintro e u2 ⟨rfl, hu2⟩)
    | (go_at_call 17; refine (new_any _ _).mono ?_; rintro e w' ⟨rfl, rfl⟩))
  all_goals (try go_wp2)
  all_goals (exact bodyPost_ret (v := .tuple #[.bool false, .bool true, .bool true, .bool false]) (by simp [results, Tryd.results9, go_sem]) rfl ⟨rfl, once_end hu2 hu3⟩)

/-! ### ZZRefuseTwice: the refusal of a refusal -/
theorem fresh_false2 {a0 x : Addr} {c0 cx : Array Value} {t0 tx : TypeId} {s : ByteArray} {w : World} (hg : w.cell? ⟨0, 0, none⟩ = some (.iface 40 (.pointer (some a0)))) (h0 : 0 < w.heap.size)
    (hb0 : w.heap[a0.block]? = some (.cells c0 t0 (0, 0))) (hbx : w.heap[x.block]? = some (.cells cx tx (0, 0))) :
    ErrIs (.iface 37 (.agg #[.iface 37 (.agg #[.iface 40 (.pointer (some x))])])) ⟨w.heap.size, 0, none⟩ false (w.alloc (.cells #[.string s] 42)) := by
  have lt0 := lt_of_heap hb0
  have hB : Below w.heap.size w (w.alloc (.cells #[.string s] 42)) := (Below.refl _ _).alloc (Nat.le_refl _) _
  exact ErrIs.refusal (r0 := false) (r1 := false) (by rw [hB.cell (p := ⟨0, 0, none⟩) h0]; exact hg) (by simp)
    (ErrIs.other (fun e => by rw [e] at lt0; exact Nat.lt_irrefl _ lt0) ((hB.block _ lt0).trans hb0) (heap_new w _))
    (fresh_false hg h0 hb0 hbx)

set_option maxHeartbeats 1000000 in
theorem twice_any (s o : ByteArray) (a0 : Addr) (c0 : Array Value) (t0 : TypeId) (w : World) (hg : w.cell? ⟨0, 0, none⟩ = some (.iface 40 (.pointer (some a0)))) (h0 : 0 < w.heap.size)
    (hb0 : w.heap[a0.block]? = some (.cells c0 t0 (0, 0))) :
    Calls Tryd.prog 15 #[.string s, .string o] w fun e w' => e = .returned (.tuple #[.bool false, .bool true, .bool true, .bool false]) ∧ Below w.heap.size w w' := by
  have lt0 := lt_of_heap hb0
  have hB : Below w.heap.size w (w.alloc (.cells #[.string s] 42)) := (Below.refl _ _).alloc (Nat.le_refl _) _
  have hg1 : (w.alloc (.cells #[.string s] 42)).cell? ⟨0, 0, none⟩ = some (.iface 40 (.pointer (some a0))) := by rw [hB.cell (p := ⟨0, 0, none⟩) h0]; exact hg
  have h01 : 0 < (w.alloc (.cells #[.string s] 42)).heap.size := by simp
  have hb1 := (hB.block _ lt0).trans hb0
  have hbi := heap_new w (.cells #[.string s] 42)
  have hne : (⟨w.heap.size, 0, none⟩ : Addr) ≠ a0 := fun e => by rw [← e] at lt0; exact Nat.lt_irrefl _ lt0
  have E0 : ErrIs (.iface 37 (.agg #[.iface 37 (.agg #[.iface 40 (.pointer (some ⟨w.heap.size, 0, none⟩))])])) a0 true (w.alloc (.cells #[.string s] 42)) :=
    ErrIs.refusal (r0 := true) (r1 := true) hg1 h01 (ErrIs.same _ _) (ErrIs.refusal (r0 := true) (r1 := false) hg1 h01 (ErrIs.same _ _) (ErrIs.other hne hbi hb1))
  have E1 : ErrIs (.iface 37 (.agg #[.iface 37 (.agg #[.iface 40 (.pointer (some ⟨w.heap.size, 0, none⟩))])])) ⟨w.heap.size, 0, none⟩ true (w.alloc (.cells #[.string s] 42)) :=
    ErrIs.refusal (r0 := false) (r1 := true) hg1 h01 (ErrIs.other hne.symm hb1 hbi) (ErrIs.refusal (r0 := false) (r1 := true) hg1 h01 (ErrIs.other hne.symm hb1 hbi) (ErrIs.same _ _))
  clear hb1 hbi hne hB
  go_enter Tryd.func15, Tryd.ntmps15
  go_wp2_with (first | (go_at_call 17; refine (new_any _ _).mono ?_; rintro e w' ⟨rfl, rfl⟩) | (go_at_call 16; refine (refuse_any _ _ _).mono ?_; rintro e w' ⟨rfl, rfl⟩))
  go_region_with (first
    | (go_at_call_of 18 (Value.iface 40 (Value.pointer (some a0))); refine (is_later E0 _ ?_).mono ?_; exact (Below.refl _ _).drew; rintro e u1 ⟨rfl, hu1⟩)
    | (go_at_call_of 18 (Value.pointer (some (Addr.mk u2.heap.size 0 none))); refine (is_later (fresh_false2 (s := o) (a0 := a0) (c0 := c0) (t0 := t0) (cx := #[.string s]) (tx := 42) ?_ ?_ ?_ ?_) _ ?_).mono ?_; exact (by rw [hu2.cell (p := ⟨0, 0, none⟩) h01]; exact hg1); exact Nat.lt_of_lt_of_le h01 hu2.size; exact (hu2.block _ (by simp; omega)).trans ((Below.heap_alloc _ _ _ lt0).trans hb0); exact (hu2.block _ (by simp)).trans (heap_new _ _); exact Below.refl _ _; rintro e u3 ⟨rfl, hu3⟩)
    | (go_at_call 18; refine (is_later E1 _ ?_).mono ?_; exact hu1; rintro e u2 ⟨rfl, hu2⟩)
    | (go_at_call 17; refine (new_any _ _).mono ?_; rintro e w' ⟨rfl, rfl⟩))
  all_goals (try go_wp2)
  all_goals (exact bodyPost_ret (v := .tuple #[.bool false, .bool true, .bool true, .bool false]) (by simp [results, Tryd.results15, go_sem]) rfl ⟨rfl, once_end hu2 hu3⟩)
end Go.Proofs.Qxb6607686aDoor
