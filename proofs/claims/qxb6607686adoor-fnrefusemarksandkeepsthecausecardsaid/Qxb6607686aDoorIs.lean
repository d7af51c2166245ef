import Derived.Test.Qxb6607686aDoorProg
import Derived.WalkKit
import Derived.LaidEql
import Derived.Stop.Asserts
import Derived.RowKitTokens
namespace Go.Proofs.Qxb6607686aDoor
open Go.RowKit Go.Extern.Stop Go.Stop Go.Extern

theorem Tryd.isTypeOf (v : Value) (w : World) : (Extern.ReflectliteType.typeOf #[.iface 40 v]).run Tryd.prog w = .ok (.iface 48 (.agg #[.pointer (some ⟨1, 40, none⟩)])) w := by kernel_rfl
theorem Tryd.isComp : (Tryd.prog.info? 40).map (·.comparable) = some true := by kernel_rfl
theorem Tryd.isSize : (Tryd.prog.info? 42).map (·.size) = some 1 := by kernel_rfl
theorem Tryd.noIsE (v : Value) (xT : TypeId) (w : World) : (Instr.typeAssert (.iface 40 v) xT 50 true).run Tryd.prog w = .ok (.tuple #[.nilIface, .bool false]) w := run_typeAssert_lacksB Tryd.underlying50 (by kernel_rfl) (by kernel_rfl) v xT w
theorem Tryd.noUnwrapE (v : Value) (xT : TypeId) (w : World) : (Instr.typeAssert (.iface 40 v) xT 53 true).run Tryd.prog w = .ok (.tuple #[.nilIface, .bool false]) w := run_typeAssert_lacksB Tryd.underlying53 (by kernel_rfl) (by kernel_rfl) v xT w
theorem Tryd.noUnwrapsE (v : Value) (xT : TypeId) (w : World) : (Instr.typeAssert (.iface 40 v) xT 55 true).run Tryd.prog w = .ok (.tuple #[.nilIface, .bool false]) w := run_typeAssert_lacksB Tryd.underlying55 (by kernel_rfl) (by kernel_rfl) v xT w
theorem Tryd.noIsR (v : Value) (xT : TypeId) (w : World) : (Instr.typeAssert (.iface 37 v) xT 50 true).run Tryd.prog w = .ok (.tuple #[.nilIface, .bool false]) w := run_typeAssert_lacksB Tryd.underlying50 (by kernel_rfl) (by kernel_rfl) v xT w
theorem Tryd.noUnwrapR (v : Value) (xT : TypeId) (w : World) : (Instr.typeAssert (.iface 37 v) xT 53 true).run Tryd.prog w = .ok (.tuple #[.nilIface, .bool false]) w := run_typeAssert_lacksB Tryd.underlying53 (by kernel_rfl) (by kernel_rfl) v xT w
theorem Tryd.hasUnwrapsR (v : Value) (xT : TypeId) (w : World) : (Instr.typeAssert (.iface 37 v) xT 55 true).run Tryd.prog w = .ok (.tuple #[.iface 37 v, .bool true]) w := run_typeAssert_hasB Tryd.underlying55 (by kernel_rfl) v xT w

set_option maxHeartbeats 400000 in
/-- errors.is(x, x, true), x a pointer to an errors.errorString. -/
theorem is21_same (a : Addr) (w : World) :
    Calls Tryd.prog 21 #[.iface 40 (.pointer (some a)), .iface 40 (.pointer (some a)), .bool true] w fun e w' => e = .returned (.bool true) ∧ w' = w := by
  obtain ⟨i, hi, hcmp⟩ := Option.map_eq_some_iff.1 Tryd.isComp
  obtain ⟨j, hj, hjs⟩ := Option.map_eq_some_iff.1 Tryd.isSize
  have heq := run_eql_iface_ptr_same (P := Tryd.prog) w a Tryd.underlying32 Tryd.underlying40 hi hcmp hj
  go_enter Tryd.func21, Tryd.ntmps21
  go_wp2
  refine wp_loop_rounds 1 ?_
  rw [rounds_succ]
  go_wp2
  go_ret
  exact ⟨rfl, rfl⟩

set_option maxHeartbeats 400000 in
/-- errors.is(x, y, true), two different pointers to errors.errorString. -/
theorem is21_other (a b : Addr) (ca cb : Array Value) (ta tb : TypeId) (w : World) (hne : a ≠ b) (ha : w.heap[a.block]? = some (.cells ca ta (0, 0))) (hb : w.heap[b.block]? = some (.cells cb tb (0, 0))) :
    Calls Tryd.prog 21 #[.iface 40 (.pointer (some a)), .iface 40 (.pointer (some b)), .bool true] w fun e w' => e = .returned (.bool false) ∧ w' = w := by
  obtain ⟨i, hi, hcmp⟩ := Option.map_eq_some_iff.1 Tryd.isComp
  obtain ⟨j, hj, hjs⟩ := Option.map_eq_some_iff.1 Tryd.isSize
  have nE := Tryd.noIsE
  have uE := Tryd.noUnwrapE
  have vE := Tryd.noUnwrapsE
  have heq := run_eql_iface_ptr_other (P := Tryd.prog) w Tryd.underlying32 Tryd.underlying40 hi hcmp hj (by rw [hjs]; decide) hne ha hb
  go_enter Tryd.func21, Tryd.ntmps21
  go_wp2
  refine wp_loop_rounds 1 ?_
  rw [rounds_succ]
  go_wp2
  go_ret
  exact ⟨rfl, rfl⟩

/-- refusal.Unwrap: two new blocks: the boxed receiver, and the list's array. -/
theorem unwrap_any (tv tg : TypeId) (xv xg : Value) (w : World) (hg : w.cell? ⟨0, 0, none⟩ = some (.iface tg xg)) (h0 : 0 < w.heap.size) :
    Calls Tryd.prog 19 #[.agg #[.iface tv xv]] w fun e w' => e = .returned (.slice (some ⟨w.heap.size + 1, 0, none⟩) 2 2) ∧ w' = (w.alloc (.cells #[.iface tv xv] 37)).alloc (.cells #[.iface tg xg, .iface tv xv] 32) := by
  have hg1 : (w.alloc (.cells #[.iface tv xv] 37)).cell? ⟨0, 0, none⟩ = some (.iface tg xg) := by rw [World.cell?_alloc_lt _ _ ⟨0, 0, none⟩ h0]; exact hg
  go_enter Tryd.func19, Tryd.ntmps19
  go_wp2
  go_ret
  exact ⟨rfl, rfl⟩

/-- What errors.is answers of v against the errorString at b, in whatever world that has grown out of w. -/
def ErrIs (v : Value) (b : Addr) (r : Bool) (w : World) : Prop :=
  ∀ W, Below w.heap.size w W → Calls Tryd.prog 21 #[v, .iface 40 (.pointer (some b)), .bool true] W fun e w' => e = .returned (.bool r) ∧ Below W.heap.size W w'

theorem ErrIs.later {v : Value} {b : Addr} {r : Bool} {w w1 : World} (h : ErrIs v b r w) (hb : Below w.heap.size w w1) : ErrIs v b r w1 :=
  fun W hW => h W (hb.trans (hW.mono hb.size))

theorem ErrIs.same (b : Addr) (w : World) : ErrIs (.iface 40 (.pointer (some b))) b true w :=
  fun W _ => (is21_same b W).mono fun _ _ ⟨he, hw⟩ => ⟨he, by rw [hw]; exact Below.refl _ _⟩

theorem lt_of_heap {w : World} {k : Nat} {o : Obj} (h : w.heap[k]? = some o) : k < w.heap.size := by
  rcases Nat.lt_or_ge k w.heap.size with h' | h'
  · exact h'
  · simp [Array.getElem?_eq_none h'] at h

theorem ErrIs.other {a b : Addr} {ca cb : Array Value} {ta tb : TypeId} {w : World} (hne : a ≠ b) (ha : w.heap[a.block]? = some (.cells ca ta (0, 0))) (hb : w.heap[b.block]? = some (.cells cb tb (0, 0))) : ErrIs (.iface 40 (.pointer (some a))) b false w :=
  fun W hW => (is21_other a b ca cb ta tb W hne ((hW.block _ (lt_of_heap ha)).trans ha) ((hW.block _ (lt_of_heap hb)).trans hb)).mono fun _ _ ⟨he, hw⟩ => ⟨he, by rw [hw]; exact Below.refl _ _⟩

theorem Tryd.methodUnwrap (v : Value) (w : World) : (Go.method 196 37 v "Unwrap").run Tryd.prog w = .ok (19, v) w := by kernel_rfl

set_option maxHeartbeats 1000000 in
theorem is21_refusal (tv : TypeId) (xv : Value) (a0 b : Addr) (r0 r1 : Bool) (w : World) (hg : w.cell? ⟨0, 0, none⟩ = some (.iface 40 (.pointer (some a0)))) (h0 : 0 < w.heap.size)
    (i0 : ErrIs (.iface 40 (.pointer (some a0))) b r0 w) (i1 : ErrIs (.iface tv xv) b r1 w) :
    Calls Tryd.prog 21 #[.iface 37 (.agg #[.iface tv xv]), .iface 40 (.pointer (some b)), .bool true] w fun e w' => e = .returned (.bool (r0 || r1)) ∧ Below w.heap.size w w' := by
  have nR := Tryd.noIsR
  have uR := Tryd.noUnwrapR
  have vR := Tryd.hasUnwrapsR
  have mU := Tryd.methodUnwrap
  have hty := run_eql_iface_types (P := Tryd.prog) 37 40 (.agg #[.iface tv xv]) (.pointer (some b)) Tryd.underlying32 (by decide) w
  go_enter Tryd.func21, Tryd.ntmps21
  go_wp2
  refine wp_loop_rounds 1 ?_
  rw [rounds_succ]
  go_wp2_with (go_at_call 19; refine (unwrap_any tv 40 xv (.pointer (some a0)) _ hg h0).mono ?_; rintro e w' ⟨rfl, rfl⟩)
  have hb1 : Below w.heap.size w ((w.alloc (.cells #[.iface tv xv] 37)).alloc (.cells #[.iface 40 (.pointer (some a0)), .iface tv xv] 32)) := ((Below.refl _ _).alloc (Nat.le_refl _) _).alloc (by simp) _
  have B1 := i0 _ hb1
  refine wp_loop_rounds 3 ?_
  rw [rounds_succ]
  go_wp2_with fail
  refine B1.mono ?_
  rintro e w1 ⟨rfl, hw1⟩
  have hb2 := hb1.trans (hw1.mono (by simp; omega))
  have c1 : w1.cell? ⟨w.heap.size + 1, 1, none⟩ = some (.iface tv xv) := by
    rw [hw1.cell (p := ⟨w.heap.size + 1, 1, none⟩) (by simp)]; simp
  cases r0 with
  | true =>
    go_wp2_with fail
    go_ret
    exact ⟨rfl, hb2⟩
  | false =>
    have B2 := i1 _ hb2
    clear B1 hb1 hw1
    go_wp2_with fail
    rw [rounds_succ]
    go_wp2_with fail
    refine B2.mono ?_
    rintro e w2 ⟨rfl, hw2⟩
    have hb3 := hb2.trans (hw2.mono hb2.size)
    clear B2 hw2 hb2
    cases r1 with
    | true =>
      go_wp2_with fail
      go_ret
      exact ⟨rfl, hb3⟩
    | false =>
      go_wp2_with fail
      rw [rounds_succ]
      go_wp2_with fail
      go_ret
      exact ⟨rfl, hb3⟩

theorem ErrIs.refusal {tv : TypeId} {xv : Value} {a0 b : Addr} {r0 r1 : Bool} {w : World} (hg : w.cell? ⟨0, 0, none⟩ = some (.iface 40 (.pointer (some a0)))) (h0 : 0 < w.heap.size)
    (i0 : ErrIs (.iface 40 (.pointer (some a0))) b r0 w) (i1 : ErrIs (.iface tv xv) b r1 w) : ErrIs (.iface 37 (.agg #[.iface tv xv])) b (r0 || r1) w :=
  fun W hW => is21_refusal tv xv a0 b r0 r1 W (by rw [hW.cell (p := ⟨0, 0, none⟩) h0]; exact hg) (Nat.lt_of_lt_of_le h0 hW.size) (i0.later hW) (i1.later hW)
end Go.Proofs.Qxb6607686aDoor
