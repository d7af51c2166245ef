import Derived.Test.Qxb6608761aProg
import Derived.Test.Qxb6608761aFrames
import Derived.WalkKit
import Derived.Deep.QuietTactic
import Derived.BigQuiet
namespace Go.Proofs.Qxb6608761a
open Go.RowKit

theorem Try.info63 : (Try.prog.info? 63).map (fun i => (i.zero, i.size, i.bytes)) = some (some (.agg #[.int .i64 0, .int .i64 0, .int .i64 0]), 3, 24) := by kernel_rfl
theorem Try.info3 : (Try.prog.info? 3).map (fun i => (i.zero, i.size, i.bytes)) = some (some (.int .i64 0), 1, 8) := by kernel_rfl

theorem cell_three_new (w : World) (a b c : Value) (t : TypeId) : ∀ j u, [a, b, c][j]? = some u → (w.alloc (.cells #[a, b, c] t)).cell? ((⟨w.heap.size, 0, none⟩ : Addr).add j) = some u := by
  intro j u hj
  match j, hj with
  | 0, hj => simp at hj; subst hj; simp [Addr.add]
  | 1, hj => simp at hj; subst hj; simp [Addr.add]
  | 2, hj => simp at hj; subst hj; simp [Addr.add]
  | j + 3, hj => simp at hj

/-- What a push leaves. -/
structure Pushed (W : World) (q : Nat) (v : Value) (rs : List R3) (W' : World) : Prop where
  obj : ∃ v', OR W' q v' rs ∧ ∀ g, v'.ownBlock = some g → v.ownBlock = some g ∨ W.heap.size ≤ g
  fr : Fr (fun k => k = q ∨ v.ownBlock = some k) W W'

theorem pushed {W w1 : World} {q g cap : Nat} {v : Value} {rs : List R3} {r : R3} {o : Obj} (h : OR W q v rs)
    (hown : w1.ownsRow 0 63 3 (.slice (some ⟨g, 0, none⟩) (rs.length + 1) cap) (rs.length + 1) (Runs.flat rs ++ Runs.cellsOf r)) (hgrow : (W.alloc o).grownBy w1 v.ownBlock) (hat : v.ownBlock = some g ∨ g = W.heap.size + 1) :
    Pushed W q v (rs ++ [r]) (w1.setCell ⟨q, 0, none⟩ (.slice (some ⟨g, 0, none⟩) (rs.length + 1) cap)) := by
  have hlt := h.lt
  have hne : g ≠ q := by
    rcases hat with e | e
    · exact fun eq => h.apart (by rw [e, eq])
    · omega
  have hb1 : w1.heap[q]? = some (.cells #[v] 29 (0, 0)) := by
    rw [hgrow.block q (by simp; omega) (Ne.symm h.apart), Below.heap_alloc _ _ _ hlt]; exact h.blk
  refine ⟨⟨.slice (some ⟨g, 0, none⟩) (rs.length + 1) cap, ⟨?_, ?_⟩, ?_⟩, ?_⟩
  · rw [heap_setCell_same w1 q 0 _ _ _ hb1]; rfl
  · have hl : (rs ++ [r]).length = rs.length + 1 := by simp
    rw [hl, Runs.flat_append, show Runs.flat [r] = Runs.cellsOf r by simp [Runs.flat]]
    refine ⟨hown.1, ?_⟩
    rcases hown.2 with ⟨e, _⟩ | ⟨g', cap', cur, e, hb, hg, rest⟩
    · simp at e
    · refine .inr ⟨g', cap', cur, e, hb, ?_, rest⟩
      have : g' = g := by simp at e; exact e.1.symm
      rw [Below.heap_setCell _ _ _ _ (by simp; omega)]
      exact hg
  · intro k hk
    simp [Value.ownBlock] at hk
    subst hk
    rcases hat with e | e
    · exact .inl e
    · right; omega
  · exact ((Fr.alloc W o).trans (Fr.grown (S := fun k => k = q ∨ v.ownBlock = some k) hgrow (fun k e => .inr e)) (fun _ _ x => x)).trans (Fr.setCell (S := fun k => k = q ∨ v.ownBlock = some k) _ _ _ (.inl rfl)) (fun _ _ x => x)

set_option maxHeartbeats 1000000 in
theorem push8 (q : Nat) (v : Value) (rs : List R3) (f l d : Int) (W : World) (h : OR W q v rs) (hn : rs.length ≤ 1000000) :
    Calls Try.prog 8 #[.pointer (some ⟨q, 0, none⟩), .int .i64 f, .int .i64 l, .int .i64 d] W fun e W' => e = .returned (.tuple #[]) ∧ Pushed W q v (rs ++ [(f, l, d)]) W' := by
  obtain ⟨i0, hi, hz0, hz1, hz2⟩ := info_parts Try.info63
  have hc := h.cell
  have hlt := h.lt
  have hap := h.apart
  go_enter Try.func8, Try.ntmps8
  go_wp2_with (at_builtin; refine wpList_append_lies _ rfl _ _ _ rfl 0 63 i0 (.agg #[.int .i64 0, .int .i64 0, .int .i64 0]) 3 24 Try.underlying27 hi hz0 hz1 hz2 rfl (by decide) v rs.length (Runs.flat rs) rfl (h.row.alloc _) ⟨W.heap.size, 0, none⟩ 1 1 (Runs.cellsOf (f, l, d)) rfl rfl (cell_three_new W _ _ _ _) (by intro u hu; simp [Runs.cellsOf] at hu; rcases hu with rfl | rfl | rfl <;> rfl) (by decide) (by unfold maxLen; omega) (by omega) (Nat.zero_le _) (W.heap.size + 1) (by simp) ?_; intro g cap w1 hown hgrow hat hg; have c1 : w1.cell? ⟨q, 0, none⟩ = some v := (hgrow.cell_far _ (by simp; omega) (Ne.symm hap)).trans (by rw [World.cell?_alloc_lt _ _ ⟨q, 0, none⟩ hlt]; exact hc); have f1 : w1.frozen? ⟨q, 0, none⟩ = false := (hgrow.frozen_far _ (by simp; omega) (Ne.symm hap)).trans (by simp [World.frozen?, Below.heap_alloc _ _ _ hlt, h.blk]))
  go_end0
  exact ⟨rfl, pushed h hown hgrow hat⟩
end Go.Proofs.Qxb6608761a
