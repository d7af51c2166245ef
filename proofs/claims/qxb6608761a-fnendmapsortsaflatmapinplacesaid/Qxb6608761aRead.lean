import Derived.Test.Qxb6608761aRows
import Derived.Test.Qxb6608761aFirst
import Derived.ProofKit
import Derived.OpenShut
import Derived.Deep.Strs
namespace Go.Proofs.Qxb6608761a
open Go.ChangeShapes Go.WideShapes Go.ChangeAt Go.RowKit

theorem own : ownKnob Try.prog.godebug = none := by kernel_rfl
theorem laidOut : laidOutB Try.prog = true := by kernel_rfl
theorem cells25 : Try.prog.cellsOf 25 = 3 := by kernel_rfl
theorem cells3 : Try.prog.cellsOf 3 = 1 := by kernel_rfl

/-- A slice of triples of ints, opened: over whatever program. -/
theorem open_triples {H : Type} {enc : TypeId × Value → H} {P : Program} {W : World} {t e ti : TypeId} {f0 f1 f2 : Field} {ao : Option Addr} {len cap fuel : Nat} {x : DataW H × List MemPlace}
    (ht : P.underlying t = some (.slice e)) (he : P.underlying e = some (.struct #[f0, f1, f2])) (ce : P.cellsOf e = 3) (hi : P.underlying ti = some (.int .i64)) (ci : P.cellsOf ti = 1)
    (t0 : f0.type = ti) (t1 : f1.type = ti) (t2 : f2.type = ti) (o0 : f0.offset = 0) (o1 : f1.offset = 1) (o2 : f2.offset = 2)
    (hf : DataW.trod enc P W 0 (fun _ => true) true fuel t [.slice ao len cap] = some x) :
    ∃ rs : List R3, rs.length = len ∧ len ≤ maxLen ∧ RunsAt W ao rs := by
  rcases Deep.open_slice ht hf with ⟨hcs, _⟩ | ⟨a, len', cap', m, n, D, Pl, hcs, hb, hl, hm, hmm, _, hx⟩
  · simp at hcs
    obtain ⟨rfl, rfl, rfl⟩ := hcs
    exact ⟨[], rfl, Nat.zero_le _, fun k hk => absurd hk (by simp)⟩
  · simp at hcs
    obtain ⟨rfl, rfl, rfl⟩ := hcs
    have hlm : len ≤ m := by rw [hmm]; simpa using hl
    have each : ∀ k, k < len → ∃ r : R3, W.cell? (a.add (k * 3)) = some (.int .i64 r.1) ∧ W.cell? (a.add (k * 3 + 1)) = some (.int .i64 r.2.1) ∧ W.cell? (a.add (k * 3 + 2)) = some (.int .i64 r.2.2) := by
      intro k hk
      obtain ⟨cs', h1, h2⟩ := hx k (by omega)
      rw [ce] at h1
      obtain ⟨_, hlen, hcell⟩ := World.cells?_some h1
      obtain ⟨y0, y1, y2, n', _, _, g0, g1, g2⟩ := Deep.trod_struct3 he h2
      rw [t0, o0, ci] at g0
      rw [t1, o1, ci] at g1
      rw [t2, o2, ci] at g2
      match cs', hlen with
      | [v0, v1, v2], _ =>
        obtain ⟨x0, e0, _, _⟩ := DataW.trod_int hi g0
        obtain ⟨x1, e1, _, _⟩ := DataW.trod_int hi g1
        obtain ⟨x2, e2, _, _⟩ := DataW.trod_int hi g2
        simp at e0 e1 e2
        subst e0 e1 e2
        have a0 := hcell 0 (by omega)
        have a1 := hcell 1 (by omega)
        have a2 := hcell 2 (by omega)
        rw [Deep.add_add] at a0 a1 a2
        exact ⟨(x0, x1, x2), by simpa using a0, by simpa using a1, by simpa using a2⟩
    obtain ⟨f, hfn⟩ := Deep.choose_lt each
    refine ⟨(List.range len).map f, by simp, Nat.le_trans hl hm, fun k hk => ?_⟩
    have hk' : k < len := by simpa using hk
    obtain ⟨c0, c1, c2⟩ := hfn k hk'
    obtain ⟨b, off, spot⟩ := a
    have hspot : spot = none := by
      have := (hfn 0 (by omega)).1
      simpa [Addr.add] using World.cell?_spot this
    subst hspot
    rw [Go.WideShapes.add_plain] at c0 c1 c2
    have e : ((List.range len).map f)[k] = f k := by simp
    rw [e]
    exact ⟨b, off, rfl, c0, by simpa [Nat.add_assoc] using c1, by simpa [Nat.add_assoc] using c2⟩

/-- A slice of runs that came in, opened. -/
theorem open_runs {H : Type} {enc : TypeId × Value → H} {W : World} {ao : Option Addr} {len cap : Nat} {d : DataW H} {p : List MemPlace} (h : DataW.Trod enc Try.prog W 0 (fun _ => true) true 22 (.slice ao len cap) d p) :
    ∃ rs : List R3, rs.length = len ∧ len ≤ maxLen ∧ RunsAt W ao rs := by
  obtain ⟨fuel, hf⟩ := h
  exact open_triples Try.underlying22 Try.underlying25 cells25 Try.underlying3 cells3 rfl rfl rfl rfl rfl rfl (by simpa [Value.cells] using hf)
end Go.Proofs.Qxb6608761a
