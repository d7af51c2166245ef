import Derived.Test.Qxb6608761aRead
import Derived.Test.Qxb6608761aPieces
namespace Go.Proofs.Qxb6608761a
open Go.ChangeShapes Go.WideShapes Go.ChangeAt Go.RowKit

theorem cells47 : Try.prog.cellsOf 47 = 2 := by kernel_rfl
theorem cells5 : Try.prog.cellsOf 5 = 1 := by kernel_rfl

/-- A slice of pairs of ints, opened: over whatever program. -/
theorem open_pairs {H : Type} {enc : TypeId × Value → H} {P : Program} {W : World} {t e ti : TypeId} {f0 f1 : Field} {ao : Option Addr} {len cap fuel : Nat} {x : DataW H × List MemPlace}
    (ht : P.underlying t = some (.slice e)) (he : P.underlying e = some (.struct #[f0, f1])) (ce : P.cellsOf e = 2) (hi : P.underlying ti = some (.int .i64)) (ci : P.cellsOf ti = 1)
    (t0 : f0.type = ti) (t1 : f1.type = ti) (o0 : f0.offset = 0) (o1 : f1.offset = 1)
    (hf : DataW.trod enc P W 0 (fun _ => true) true fuel t [.slice ao len cap] = some x) :
    ∃ rs : List (Int × Int), rs.length = len ∧ len ≤ maxLen ∧ ISpansAt W ao rs := by
  rcases Deep.open_slice ht hf with ⟨hcs, _⟩ | ⟨a, len', cap', m, n, D, Pl, hcs, hb, hl, hm, hmm, _, hx⟩
  · simp at hcs
    obtain ⟨rfl, rfl, rfl⟩ := hcs
    exact ⟨[], rfl, Nat.zero_le _, fun k hk => absurd hk (by simp)⟩
  · simp at hcs
    obtain ⟨rfl, rfl, rfl⟩ := hcs
    have hlm : len ≤ m := by rw [hmm]; simpa using hl
    have each : ∀ k, k < len → ∃ r : Int × Int, W.cell? (a.add (k * 2)) = some (.int .i64 r.1) ∧ W.cell? (a.add (k * 2 + 1)) = some (.int .i64 r.2) := by
      intro k hk
      obtain ⟨cs', h1, h2⟩ := hx k (by omega)
      rw [ce] at h1
      obtain ⟨_, hlen, hcell⟩ := World.cells?_some h1
      obtain ⟨y0, y1, n', _, _, g0, g1⟩ := trod_struct2 he h2
      rw [t0, o0, ci] at g0
      rw [t1, o1, ci] at g1
      match cs', hlen with
      | [v0, v1], _ =>
        obtain ⟨x0, e0, _, _⟩ := DataW.trod_int hi g0
        obtain ⟨x1, e1, _, _⟩ := DataW.trod_int hi g1
        simp at e0 e1
        subst e0 e1
        have a0 := hcell 0 (by omega)
        have a1 := hcell 1 (by omega)
        rw [Deep.add_add] at a0 a1
        exact ⟨(x0, x1), by simpa using a0, by simpa using a1⟩
    obtain ⟨f, hfn⟩ := Deep.choose_lt each
    refine ⟨(List.range len).map f, by simp, Nat.le_trans hl hm, fun k hk => ?_⟩
    have hk' : k < len := by simpa using hk
    obtain ⟨c0, c1⟩ := hfn k hk'
    obtain ⟨b, off, spot⟩ := a
    have hspot : spot = none := by
      have := (hfn 0 (by omega)).1
      simpa [Addr.add] using World.cell?_spot this
    subst hspot
    rw [Go.WideShapes.add_plain] at c0 c1
    have e : ((List.range len).map f)[k] = f k := by simp
    rw [e]
    exact ⟨b, off, rfl, c0, by simpa [Nat.add_assoc] using c1⟩

theorem u8_wf {n : Int} (h : (Lit.int .u8 n).wf = true) : 0 ≤ n ∧ n < 256 := by
  have h' : IntKind.u8.min ≤ n ∧ n ≤ IntKind.u8.max := by simpa [Lit.wf] using h
  have e1 : IntKind.u8.min = 0 := by decide
  have e2 : IntKind.u8.max = 255 := by decide
  omega

/-- The bytes that came in, opened. -/
theorem open_bytes {H : Type} {enc : TypeId × Value → H} {W : World} {ao : Option Addr} {len cap : Nat} {d : DataW H} {p : List MemPlace} (h : DataW.Trod enc Try.prog W 0 (fun _ => true) true 38 (.slice ao len cap) d p) :
    ∃ B : List Int, B.length = len ∧ len ≤ maxLen ∧ BytesAt W ao B ∧ Byt B ∧ (ao = none → cap = 0) := by
  obtain ⟨fuel, hf⟩ := h
  rcases open_ints Try.underlying38 Try.underlying5 cells5 (by simpa [Value.cells] using hf : DataW.trod enc Try.prog W 0 (fun _ => true) true fuel 38 [.slice ao len cap] = some (d, p)) with ⟨hcs, _⟩ | ⟨a, len', cap', zs, hcs, _, hl, hm, hz, _, hcell, hwz⟩
  · simp at hcs
    obtain ⟨rfl, rfl, rfl⟩ := hcs
    exact ⟨[], rfl, Nat.zero_le _, bytesAt_nil _ _, fun x hx => absurd hx (by simp), fun _ => rfl⟩
  · simp at hcs
    obtain ⟨rfl, rfl, rfl⟩ := hcs
    have hzl : zs.length = cap := by simpa using hz
    have hBl : (zs.take len).length = len := by simp; omega
    refine ⟨zs.take len, hBl, Nat.le_trans hl hm, ?_, fun x hx => u8_wf (hwz x (List.mem_of_mem_take hx)), fun e => by cases e⟩
    intro k hk
    rw [hBl] at hk
    have c := hcell k (by omega)
    obtain ⟨b, off, spot⟩ := a
    have hspot : spot = none := by
      have := hcell 0 (by omega)
      simpa [Addr.add] using World.cell?_spot this
    subst hspot
    rw [Go.WideShapes.add_plain] at c
    refine ⟨b, off, rfl, ?_⟩
    rw [c]
    simp
    rw [List.getElem?_eq_getElem (by omega)]
    rfl

/-- The spans that came in, opened. -/
theorem open_spans {H : Type} {enc : TypeId × Value → H} {W : World} {ao : Option Addr} {len cap : Nat} {d : DataW H} {p : List MemPlace} (h : DataW.Trod enc Try.prog W 0 (fun _ => true) true 39 (.slice ao len cap) d p) :
    ∃ rs : List (Int × Int), rs.length = len ∧ len ≤ maxLen ∧ ISpansAt W ao rs := by
  obtain ⟨fuel, hf⟩ := h
  exact open_pairs Try.underlying39 Try.underlying47 cells47 Try.underlying3 cells3 rfl rfl rfl rfl (by simpa [Value.cells] using hf)
end Go.Proofs.Qxb6608761a
