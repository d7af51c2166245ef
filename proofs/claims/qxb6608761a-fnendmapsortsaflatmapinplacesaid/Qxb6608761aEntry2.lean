import Derived.Test.Qxb6608761aEntry
namespace Go.Proofs.Qxb6608761a
open Go.RowKit Cmp

theorem began {W w1 : World} {q g cap st : Nat} {vo : Value} {ip : Int} {o : Obj} (h : OBlk W q vo (.slice none 0 0) ip (.slice none 0 0))
    (hown : w1.ownsRow 0 74 5 (.slice (some ⟨g, 0, none⟩) (0 + 1) cap) (0 + 1) ([] ++ [.int .i64 (st : Nat), .int .i64 0, .int .i64 0, .int .i64 0, .int .i64 0])) (hgrow : (W.alloc o).grownBy w1 none) (hat : g = W.heap.size + 1) :
    ∃ gp pc, OBlk (w1.setCell ⟨q, 1, none⟩ (.slice (some ⟨g, 0, none⟩) (0 + 1) cap)) q vo (.slice (some ⟨gp, 0, none⟩) 1 pc) ip (.slice none 0 0) ∧ (w1.setCell ⟨q, 1, none⟩ (.slice (some ⟨g, 0, none⟩) (0 + 1) cap)).cell? ⟨gp, 0, none⟩ = some (.int .i64 (st : Nat)) ∧ W.heap.size ≤ gp ∧ 1 ≤ pc ∧
      Fr (fun b => b = q) W (w1.setCell ⟨q, 1, none⟩ (.slice (some ⟨g, 0, none⟩) (0 + 1) cap)) ∧ ∃ cur, (w1.setCell ⟨q, 1, none⟩ (.slice (some ⟨g, 0, none⟩) (0 + 1) cap)).heap[gp]? = some (.cells cur 74 (0, 0)) := by
  have hlt := h.lt
  have hb1 : OBlk w1 q vo (.slice none 0 0) ip (.slice none 0 0) := by
    show w1.heap[q]? = _
    rw [hgrow.block q (by simp; omega) (by simp), Below.heap_alloc _ _ _ hlt]; exact h
  rcases hown.2 with ⟨e, _⟩ | ⟨g', cap', cur, e, hb, hg, hc, hm, hsz, ht⟩
  · simp at e
  · obtain ⟨rfl, rfl⟩ : g = g' ∧ cap = cap' := by simpa using e
    have hne : g ≠ q := by omega
    have hg2 : (w1.setCell ⟨q, 1, none⟩ (.slice (some ⟨g, 0, none⟩) (0 + 1) cap)).heap[g]? = some (.cells cur 74 (0, 0)) := by
      rw [Below.heap_setCell _ _ _ _ (by simpa using hne)]; exact hg
    refine ⟨g, cap, hb1.set1 _, ?_, by omega, by omega, ?_, cur, hg2⟩
    · simp only [World.cell?, hg2]
      have h1 : (cur.toList.take (1 * 5))[0]? = some (.int .i64 (st : Nat)) := by rw [show (1 : Nat) * 5 = (0 + 1) * 5 from rfl, ht]; rfl
      rw [List.getElem?_take] at h1
      simpa using h1
    · exact ((Fr.alloc W o).trans (Fr.grown (S := fun b => b = q) hgrow (fun k e => by cases e)) (fun _ _ x => x)).trans (Fr.setCell (S := fun b => b = q) _ _ _ rfl) (fun _ _ x => x)

set_option maxHeartbeats 1000000 in
theorem begin18 (q st : Nat) (vo : Value) (ip : Int) (W : World) (h : OBlk W q vo (.slice none 0 0) ip (.slice none 0 0)) :
    Calls Try.prog 18 #[.pointer (some ⟨q, 0, none⟩), .int .i64 (st : Nat)] W fun r W' => r = .returned (.tuple #[]) ∧ ∃ gp pc, OBlk W' q vo (.slice (some ⟨gp, 0, none⟩) 1 pc) ip (.slice none 0 0) ∧ W'.cell? ⟨gp, 0, none⟩ = some (.int .i64 (st : Nat)) ∧ W.heap.size ≤ gp ∧ 1 ≤ pc ∧ Fr (fun b => b = q) W W' ∧ ∃ cur, W'.heap[gp]? = some (.cells cur 74 (0, 0)) := by
  obtain ⟨i0, hi, hz0, hz1, hz2⟩ := info_parts Try.info74
  have hc := h.c1
  have hlt := h.lt
  go_enter Try.func18, Try.ntmps18
  go_wp2_with (at_builtin; refine wpList_append_lies _ rfl _ _ _ rfl 0 74 i0 (.agg #[.int .i64 0, .int .i64 0, .int .i64 0, .int .i64 0, .int .i64 0]) 5 40 Try.underlying67 hi hz0 hz1 hz2 rfl (by decide) (.slice none 0 0) 0 [] rfl (World.ownsRow_nil _ _ _ _) ⟨W.heap.size, 0, none⟩ 1 1 [.int .i64 (st : Nat), .int .i64 0, .int .i64 0, .int .i64 0, .int .i64 0] rfl rfl (cell_five_new W _ _ _ _ _ _) (by intro u hu; simp at hu; rcases hu with rfl | rfl <;> rfl) (by decide) (by unfold maxLen; omega) (by omega) (Nat.zero_le _) (W.heap.size + 1) (by simp) ?_; intro g cap w1 hown hgrow hat hg; have c1 : w1.cell? ⟨q, 1, none⟩ = some (.slice none 0 0) := (hgrow.cell_far _ (by simp; omega) (by simp [Value.ownBlock])).trans (by rw [World.cell?_alloc_lt _ _ ⟨q, 1, none⟩ hlt]; exact hc); have f1 : w1.frozen? ⟨q, 1, none⟩ = false := (hgrow.frozen_far _ (by simp; omega) (by simp [Value.ownBlock])).trans (by have := h.eqn; simp [World.frozen?, Below.heap_alloc _ _ _ hlt, this]))
  go_end0
  exact ⟨rfl, began h hown hgrow (hat.resolve_left (by simp [Value.ownBlock]))⟩

set_option maxHeartbeats 1000000 in
theorem mark21 (a b c : Int) (W : World) : Calls Try.prog 21 #[.int .i64 a, .int .i64 b, .int .i64 c] W fun r W' => r = .returned (.agg #[.int .i64 a, .int .i64 b, .int .i64 c]) ∧ Fr (fun _ => False) W W' := by
  go_enter Try.func21, Try.ntmps21
  go_wp2
  refine bodyPost_ret (v := .agg #[.int .i64 a, .int .i64 b, .int .i64 c]) (by simp [results, Try.results21, go_sem]) rfl ⟨rfl, ?_⟩
  exact Fr.alloc _ _

set_option maxHeartbeats 1000000 in
theorem openLen25 (q n c : Nat) (a : Option Addr) (vp : Value) (ip : Int) (sc : Value) (W : World) (h : OBlk W q (.slice a n c) vp ip sc) : Calls Try.prog 25 #[.pointer (some ⟨q, 0, none⟩)] W fun r W' => r = .returned (.int .i64 (n : Nat)) ∧ W' = W := by
  have hc := h.c0
  go_enter Try.func25, Try.ntmps25
  go_wp2
  go_ret
  exact ⟨rfl, rfl⟩

set_option maxHeartbeats 1000000 in
theorem pendLen26 (q n c : Nat) (a : Option Addr) (vo : Value) (ip : Int) (sc : Value) (W : World) (h : OBlk W q vo (.slice a n c) ip sc) : Calls Try.prog 26 #[.pointer (some ⟨q, 0, none⟩)] W fun r W' => r = .returned (.int .i64 (n : Nat)) ∧ W' = W := by
  have hc := h.c1
  go_enter Try.func26, Try.ntmps26
  go_wp2
  go_ret
  exact ⟨rfl, rfl⟩

set_option maxHeartbeats 1000000 in
theorem sortedLen27 (q : Nat) (vo vp : Value) (ip : Int) (sc : Value) (W : World) (h : OBlk W q vo vp ip sc) : Calls Try.prog 27 #[.pointer (some ⟨q, 0, none⟩)] W fun r W' => r = .returned (.int .i64 0) ∧ W' = W := by
  have hc := h.c2
  go_enter Try.func27, Try.ntmps27
  go_wp2
  go_ret
  exact ⟨rfl, rfl⟩

set_option maxHeartbeats 1000000 in
theorem inPlace28 (q : Nat) (vo vp : Value) (ip : Int) (sc : Value) (W : World) (h : OBlk W q vo vp ip sc) : Calls Try.prog 28 #[.pointer (some ⟨q, 0, none⟩)] W fun r W' => r = .returned (.int .i64 ip) ∧ W' = W := by
  have hc := h.c3
  go_enter Try.func28, Try.ntmps28
  go_wp2
  go_ret
  exact ⟨rfl, rfl⟩

/-- The row of the opened entries. -/
theorem OE.hrow {W : World} {q go n co : Nat} {vp : Value} {ip : Int} {es : List Sp} {B : List Int} (h : OE W q (.slice (some ⟨go, 0, none⟩) n co) vp ip 1 es) : n = es.length ∧ n ≤ co ∧ HRow W go B es 0 := by
  rcases h.row.2 with ⟨e, _⟩ | ⟨g', cap', cur, e, _, hg, hc, _, hsz, ht⟩
  · simp at e
  · obtain ⟨rfl, rfl, rfl⟩ : go = g' ∧ n = es.length ∧ co = cap' := by simpa using e
    refine ⟨rfl, hc, fun i hi => ?_, fun o => by simp [World.frozen?, hg], lt_of_heap hg⟩
    have hcell : ∀ j, j < 4 → W.cell? ⟨go, i * 4 + j, none⟩ = (cells4 1 es[i])[j]? := by
      intro j hj
      rw [← flat4_get 1 es i hi j hj, ← ht, List.getElem?_take, if_pos (by omega)]
      simp [World.cell?, hg]
    exact ⟨hcell 0 (by omega), hcell 1 (by omega), hcell 2 (by omega), by rw [if_neg (by omega)]; exact hcell 3 (by omega)⟩
end Go.Proofs.Qxb6608761a
