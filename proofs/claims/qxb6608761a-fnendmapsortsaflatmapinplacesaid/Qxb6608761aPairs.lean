import Derived.Test.Qxb6608761aSpan
import Derived.Test.Qxb6608761aMerge
import Derived.Laws.CopyOwn
namespace Go.Proofs.Qxb6608761a
open Go.RowKit Cmp

abbrev Sp := Nat × Nat
def cells2 (x : Sp) : List Value := [.int .i64 (x.1 : Nat), .int .i64 (x.2 : Nat)]
def flat2 (A : List Sp) : List Value := A.flatMap cells2

theorem flat2_length (A : List Sp) : (flat2 A).length = A.length * 2 := by
  induction A with
  | nil => rfl
  | cons x A ih => simp [flat2, cells2] at ih ⊢; omega

theorem flat2_cons (x : Sp) (A : List Sp) : flat2 (x :: A) = cells2 x ++ flat2 A := by simp [flat2]

theorem flat2_get (A : List Sp) (k : Nat) (hk : k < A.length) : (flat2 A)[k * 2]? = some (.int .i64 (A[k].1 : Nat)) ∧ (flat2 A)[k * 2 + 1]? = some (.int .i64 (A[k].2 : Nat)) := by
  induction A generalizing k with
  | nil => simp at hk
  | cons x A ih =>
    rw [flat2_cons]
    cases k with
    | zero => simp [cells2]
    | succ k =>
      have := ih k (by simpa using hk)
      rw [List.getElem?_append_right (by simp [cells2]; omega), List.getElem?_append_right (by simp [cells2]; omega)]
      simp only [cells2, List.length_cons, List.length_nil, List.getElem_cons_succ]
      rw [show (k + 1) * 2 - (0 + 1 + 1) = k * 2 by omega, show (k + 1) * 2 + 1 - (0 + 1 + 1) = k * 2 + 1 by omega]
      exact this

theorem flat2_set (A : List Sp) (k : Nat) (x : Sp) (hk : k < A.length) : ((flat2 A).set (k * 2) (.int .i64 (x.1 : Nat))).set (k * 2 + 1) (.int .i64 (x.2 : Nat)) = flat2 (A.set k x) := by
  induction A generalizing k with
  | nil => simp at hk
  | cons y A ih =>
    cases k with
    | zero => simp [flat2, cells2]
    | succ k =>
      have := ih k (by simpa using hk)
      rw [List.set_cons_succ, flat2_cons, flat2_cons, ← this]
      simp [cells2, show (k + 1) * 2 = k * 2 + 1 + 1 by omega]

theorem flat2_one (A : List Sp) : ∀ v ∈ flat2 A, v.oneCell' = true := by
  intro v hv
  simp only [flat2, List.mem_flatMap, cells2] at hv
  obtain ⟨x, _, hx⟩ := hv
  simp at hx
  rcases hx with rfl | rfl <;> rfl

/-- A block of pairs, known whole. -/
def PairsBlk (W : World) (g : Nat) (A : List Sp) : Prop := W.heap[g]? = some (.cells (flat2 A).toArray 47 (0, 0))

namespace PairsBlk
variable {W W' : World} {g : Nat} {A : List Sp}
theorem lt (h : PairsBlk W g A) : g < W.heap.size := lt_of_heap h
theorem c0 (h : PairsBlk W g A) (k : Nat) (hk : k < A.length) : W.cell? ⟨g, k * 2, none⟩ = some (.int .i64 (A[k].1 : Nat)) := by
  have h' : W.heap[g]? = some (.cells (flat2 A).toArray 47 (0, 0)) := h
  simp only [World.cell?, h']
  simpa using (flat2_get A k hk).1
theorem c1 (h : PairsBlk W g A) (k : Nat) (hk : k < A.length) : W.cell? ⟨g, k * 2 + 1, none⟩ = some (.int .i64 (A[k].2 : Nat)) := by
  have h' : W.heap[g]? = some (.cells (flat2 A).toArray 47 (0, 0)) := h
  simp only [World.cell?, h']
  simpa using (flat2_get A k hk).2
theorem free (h : PairsBlk W g A) (o : Nat) : W.frozen? ⟨g, o, none⟩ = false := by
  have h' : W.heap[g]? = some (.cells (flat2 A).toArray 47 (0, 0)) := h
  simp [World.frozen?, h']
theorem kept {S : Nat → Prop} (h : PairsBlk W g A) (hf : Fr S W W') (hS : ¬ S g) : PairsBlk W' g A := (hf.block g h.lt hS).trans h
theorem put (h : PairsBlk W g A) (k : Nat) (x : Sp) (hk : k < A.length) : PairsBlk ((W.setCell ⟨g, k * 2, none⟩ (.int .i64 (x.1 : Nat))).setCell ⟨g, k * 2 + 1, none⟩ (.int .i64 (x.2 : Nat))) g (A.set k x) := by
  unfold PairsBlk at h ⊢
  rw [heap_setCell_same _ g _ _ _ _ (heap_setCell_same W g _ _ _ _ h)]
  rw [← flat2_set A k x hk]
  simp
end PairsBlk

/-- The spans that came in. -/
def SpansAt (W : World) (so : Option Addr) (sp : List Sp) : Prop :=
  ∀ k, (hk : k < sp.length) → ∃ b off, so = some ⟨b, off, none⟩ ∧ W.cell? ⟨b, off + k * 2, none⟩ = some (.int .i64 (sp[k].1 : Nat)) ∧ W.cell? ⟨b, off + k * 2 + 1, none⟩ = some (.int .i64 (sp[k].2 : Nat))

theorem SpansAt.later {W W' : World} {so : Option Addr} {sp : List Sp} (h : SpansAt W so sp) (hb : Below W.heap.size W W') : SpansAt W' so sp := by
  intro k hk
  obtain ⟨b, off, rfl, h0, h1⟩ := h k hk
  have hlt : b < W.heap.size := World.block_lt_of_cell? _ _ h0
  exact ⟨b, off, rfl, by rw [hb.cell hlt]; exact h0, by rw [hb.cell hlt]; exact h1⟩

theorem PairsBlk.spans {W : World} {g : Nat} {A : List Sp} (h : PairsBlk W g A) : SpansAt W (some ⟨g, 0, none⟩) A :=
  fun k hk => ⟨g, 0, rfl, by rw [Nat.zero_add]; exact h.c0 k hk, by rw [Nat.zero_add]; exact h.c1 k hk⟩

theorem Try.info47 : (Try.prog.info? 47).map (fun i => (i.zero, i.size, i.bytes)) = some (some (.agg #[.int .i64 0, .int .i64 0]), 2, 16) := by kernel_rfl

/-- 'copy' of elements of two cells: a run equation. -/
theorem run_copy_two {P : Program} (w : World) (dT sT ty elem : TypeId) (g dLen dCap : Nat) (a : Addr) (sLen sCap : Nat) (cur : Array Value) (t : TypeId) (cs : List Value) (i : TypeInfo)
    (hu : P.underlying dT = some (.slice elem)) (hq : P.info? elem = some i) (hi : i.size = 2) (m : Nat) (hm : Nat.min sLen dLen = m)
    (hg : w.heap[g]? = some (.cells cur t (0, 0))) (hn : cs.length = m * 2)
    (hsrc : ∀ j v, cs[j]? = some v → w.cell? (a.add j) = some v) (hfit : cs.length ≤ cur.size) (h1 : ∀ v ∈ cs, v.oneCell' = true) :
    (Builtin.copy_ #[dT, sT] ty #[.slice (some ⟨g, 0, none⟩) dLen dCap, .slice (some a) sLen sCap]).run P w =
      .ok (goInt m) (w.setRow g (cur.toList.take 0 ++ cs ++ cur.toList.drop (0 + cs.length)).toArray) := by
  have hl := run_firstCells_some (P := P) w 2 m a sLen sCap cs hn hsrc
  have hst := run_storeCells_at P g 0 t cs 0 cur w hg (by simpa using hfit) h1
  simp only [Nat.add_zero] at hst
  simp [Builtin.copy_, run_underlying hu, Builtin.lenOf, sizeOf, typeInfo, hq, hi, hm, hl, hst]

theorem run_copy_two_none {P : Program} (w : World) (dT sT ty elem : TypeId) (d a : Option Addr) (dLen dCap sLen sCap : Nat) (i : TypeInfo) (hu : P.underlying dT = some (.slice elem)) (hq : P.info? elem = some i) (hn : Nat.min sLen dLen = 0) :
    (Builtin.copy_ #[dT, sT] ty #[.slice d dLen dCap, .slice a sLen sCap]).run P w = .ok (goInt 0) w := by
  have hl : ∀ (x : Addr), (loadCells x 0).run P w = .ok #[] w := fun x => by simpa using run_loadCells_list (P := P) w x [] (by simp)
  cases d <;> cases a <;> simp [Builtin.copy_, run_underlying hu, Builtin.lenOf, Builtin.firstCells, sizeOf, typeInfo, hq, hn, storeCells, hl]

theorem made_pairs (n : Nat) : (madeCells (Value.agg #[.int .i64 0, .int .i64 0]).cells (n * 2)) = (flat2 (List.replicate n (0, 0))).toArray := by
  apply Array.ext
  · rw [size_madeCells]; simp [flat2_length]
  · intro k h1 h2
    rw [size_madeCells] at h1
    have hk : k / 2 < (List.replicate n ((0, 0) : Sp)).length := by simp; omega
    have hg := flat2_get (List.replicate n (0, 0)) (k / 2) hk
    have e0 : (madeCells (Value.agg #[.int .i64 0, .int .i64 0]).cells (n * 2))[k] = .int .i64 0 := by
      simp only [madeCells, Array.getElem_map, Array.getElem_range]
      rcases (show k % 2 = 0 ∨ k % 2 = 1 by omega) with e | e
      · simp [Value.cells, e]
      · simp [Value.cells, e]
    rw [e0]
    rcases (show k = k / 2 * 2 ∨ k = k / 2 * 2 + 1 by omega) with e | e
    · have := hg.1
      rw [← e] at this
      rw [List.getElem?_eq_some_iff] at this
      obtain ⟨_, h⟩ := this
      simpa using h.symm
    · have := hg.2
      rw [← e] at this
      rw [List.getElem?_eq_some_iff] at this
      obtain ⟨_, h⟩ := this
      simpa using h.symm

/-- 'copy(a, spans)', a a new row of as many pairs. -/
theorem copy_spans (W : World) (so : Option Addr) (cap : Nat) (sp : List Sp) (h : SpansAt W so sp) :
    ∃ W2, (Builtin.copy_ #[39, 39] 3 #[.slice (some ⟨W.heap.size, 0, none⟩) sp.length sp.length, .slice so sp.length cap]).run Try.prog (W.alloc (.cells (flat2 (List.replicate sp.length (0, 0))).toArray 47)) = .ok (goInt sp.length) W2 ∧
      PairsBlk W2 W.heap.size sp ∧ W2.heap.size = W.heap.size + 1 ∧ Below W.heap.size W W2 := by
  obtain ⟨i0, hi, hz0, hz1, hz2⟩ := info_parts Try.info47
  have hb0 : Below W.heap.size W (W.alloc (.cells (flat2 (List.replicate sp.length (0, 0))).toArray 47)) := (Below.refl _ _).alloc (Nat.le_refl _) _
  by_cases h0 : sp.length = 0
  · obtain rfl : sp = [] := List.eq_nil_of_length_eq_zero h0
    refine ⟨_, ?_, ?_, by simp, hb0⟩
    · exact run_copy_two_none _ 39 39 3 47 _ _ 0 0 0 cap i0 Try.underlying39 hi (by simp)
    · exact heap_alloc_new W _
  · obtain ⟨b, off, rfl, _, _⟩ := h 0 (by omega)
    have hsrc : ∀ j v, (flat2 sp)[j]? = some v → (W.alloc (.cells (flat2 (List.replicate sp.length (0, 0))).toArray 47)).cell? ((⟨b, off, none⟩ : Addr).add j) = some v := by
      intro j v hv
      have hj : j < sp.length * 2 := by
        rcases Nat.lt_or_ge j (sp.length * 2) with a | a
        · exact a
        · rw [List.getElem?_eq_none (by rw [flat2_length]; exact a)] at hv; cases hv
      obtain ⟨b', off', e, c0, c1⟩ := h (j / 2) (by omega)
      obtain ⟨rfl, rfl⟩ : b = b' ∧ off = off' := by simpa using e
      have hlt : b < W.heap.size := World.block_lt_of_cell? _ _ c0
      rw [Addr.add_lit]
      rw [hb0.cell (p := ⟨b, off + j, none⟩) hlt]
      have hg := flat2_get sp (j / 2) (by omega)
      rcases (show j = j / 2 * 2 ∨ j = j / 2 * 2 + 1 by omega) with e | e
      · have h1 := hg.1
        rw [← e] at h1 c0
        rw [c0, ← hv, h1]
      · have h1 := hg.2
        rw [← e] at h1
        rw [Nat.add_assoc, ← e] at c1
        rw [c1, ← hv, h1]
    have hr := run_copy_two (P := Try.prog) (W.alloc (.cells (flat2 (List.replicate sp.length (0, 0))).toArray 47)) 39 39 3 47 W.heap.size sp.length sp.length ⟨b, off, none⟩ sp.length cap (flat2 (List.replicate sp.length (0, 0))).toArray 47 (flat2 sp) i0 Try.underlying39 hi hz1 sp.length (by simp) (heap_alloc_new W _) (flat2_length sp) hsrc (by simp [flat2_length]) (flat2_one sp)
    refine ⟨_, hr, ?_, ?_, below_setRow hb0 (Nat.le_refl _) _⟩
    · unfold PairsBlk
      rw [setRow_heap _ _ _ _ _ _ (heap_alloc_new W _)]
      have e : (flat2 (List.replicate sp.length ((0, 0) : Sp))).drop (0 + (flat2 sp).length) = [] := List.drop_eq_nil_of_le (by simp [flat2_length])
      simp only [List.take_zero, List.nil_append]
      rw [e, List.append_nil]
    · simp [World.setRow]

theorem make_spans (n : Nat) (hn : n ≤ 1000000) (w : World) : (Instr.makeSlice 39 (.int .i64 (n : Int)) (.int .i64 (n : Int))).run Try.prog w = .ok (.slice (some ⟨w.heap.size, 0, none⟩) n n) (w.alloc (.cells (flat2 (List.replicate n (0, 0))).toArray 47)) := by
  obtain ⟨i0, hi, hz0, hz1, hz2⟩ := info_parts Try.info47
  have h := run_make (P := Try.prog) w 39 47 i0 _ Try.underlying39 hi hz0 .i64 .i64 n n (by omega) (Int.le_refl _) (by rw [hz2]; omega) (by omega)
  rw [hz1, Int.toNat_natCast, made_pairs] at h
  exact h
end Go.Proofs.Qxb6608761a
