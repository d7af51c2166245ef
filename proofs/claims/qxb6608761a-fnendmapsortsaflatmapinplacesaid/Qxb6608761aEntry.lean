import Derived.Test.Qxb6608761aEndB
import Derived.Test.Qxb6608761aOpen
namespace Go.Proofs.Qxb6608761a
open Go.RowKit Cmp

theorem Try.info77 : (Try.prog.info? 77).map (fun i => (i.zero, i.size, i.bytes)) = some (some (.agg #[.int .i64 0, .int .i64 0, .int .i64 0, .int .u64 0]), 4, 32) := by kernel_rfl
theorem Try.info74 : (Try.prog.info? 74).map (fun i => (i.zero, i.size, i.bytes)) = some (some (.agg #[.int .i64 0, .int .i64 0, .int .i64 0, .int .i64 0, .int .i64 0]), 5, 40) := by kernel_rfl

set_option maxHeartbeats 1000000 in
theorem new17 (ip : Int) (W : World) : Calls Try.prog 17 #[.int .i64 ip] W fun e W' => e = .returned (.pointer (some ⟨W.heap.size, 0, none⟩)) ∧ OBlk W' W.heap.size (.slice none 0 0) (.slice none 0 0) ip (.slice none 0 0) ∧ Fr (fun _ => False) W W' := by
  go_enter Try.func17, Try.ntmps17
  go_wp2
  go_ret
  exact ⟨rfl, heap_alloc_new W _, Fr.alloc _ _⟩

def cells4 (p : Int) (x : Sp) : List Value := [.int .i64 (x.1 : Nat), .int .i64 (x.2 : Nat), .int .i64 p, .int .u64 0]
def flat4 (p : Int) (A : List Sp) : List Value := A.flatMap (cells4 p)

theorem flat4_append (p : Int) (A : List Sp) (x : Sp) : flat4 p (A ++ [x]) = flat4 p A ++ cells4 p x := by simp [flat4]

theorem flat4_get (p : Int) : ∀ (A : List Sp) (k : Nat) (hk : k < A.length) (j : Nat), j < 4 → (flat4 p A)[k * 4 + j]? = (cells4 p A[k])[j]?
  | [], k, hk, _, _ => by simp at hk
  | x :: A, 0, _, j, hj => by
    have : flat4 p (x :: A) = cells4 p x ++ flat4 p A := by simp [flat4]
    rw [this, Nat.zero_mul, Nat.zero_add, List.getElem?_append_left (by simpa [cells4] using hj)]
    rfl
  | x :: A, k + 1, hk, j, hj => by
    have : flat4 p (x :: A) = cells4 p x ++ flat4 p A := by simp [flat4]
    rw [this, List.getElem?_append_right (by simp [cells4]; omega)]
    have e : (k + 1) * 4 + j - (cells4 p x).length = k * 4 + j := by simp [cells4]; omega
    rw [e, flat4_get p A k (by simpa using hk) j hj]
    rfl

/-- The MapOrder while its entries are opened. -/
structure OE (W : World) (q : Nat) (vo vp : Value) (ip p : Int) (es : List Sp) : Prop where
  blk : OBlk W q vo vp ip (.slice none 0 0)
  row : W.ownsRow 0 77 4 vo es.length (flat4 p es)

theorem OE.apart {W : World} {q : Nat} {vo vp : Value} {ip p : Int} {es : List Sp} (h : OE W q vo vp ip p es) : vo.ownBlock ≠ some q := fun e => by
  obtain ⟨cur, hc⟩ := own_type h.row e
  have := h.blk.eqn
  rw [hc] at this
  simp at this

theorem OE.kept {S : Nat → Prop} {W W' : World} {q : Nat} {vo vp : Value} {ip p : Int} {es : List Sp} (h : OE W q vo vp ip p es) (hf : Fr S W W') (hq : ¬ S q) (hS : ∀ g, vo.ownBlock = some g → ¬ S g) : OE W' q vo vp ip p es :=
  ⟨h.blk.kept hf hq, hf.owns h.row hS⟩

theorem cell_four_new (w : World) (a b c d : Value) (t : TypeId) : ∀ j u, [a, b, c, d][j]? = some u → (w.alloc (.cells #[a, b, c, d] t)).cell? ((⟨w.heap.size, 0, none⟩ : Addr).add j) = some u := by
  intro j u hj
  match j, hj with
  | 0, hj => simp at hj; subst hj; simp [Addr.add]
  | 1, hj => simp at hj; subst hj; simp [Addr.add]
  | 2, hj => simp at hj; subst hj; simp [Addr.add]
  | 3, hj => simp at hj; subst hj; simp [Addr.add]
  | j + 4, hj => simp at hj

theorem cell_five_new (w : World) (a b c d e : Value) (t : TypeId) : ∀ j u, [a, b, c, d, e][j]? = some u → (w.alloc (.cells #[a, b, c, d, e] t)).cell? ((⟨w.heap.size, 0, none⟩ : Addr).add j) = some u := by
  intro j u hj
  match j, hj with
  | 0, hj => simp at hj; subst hj; simp [Addr.add]
  | 1, hj => simp at hj; subst hj; simp [Addr.add]
  | 2, hj => simp at hj; subst hj; simp [Addr.add]
  | 3, hj => simp at hj; subst hj; simp [Addr.add]
  | 4, hj => simp at hj; subst hj; simp [Addr.add]
  | j + 5, hj => simp at hj

/-- What ZZopenEntry leaves. -/
structure Opened (W : World) (q : Nat) (vo vp : Value) (ip p : Int) (es : List Sp) (W' : World) : Prop where
  obj : ∃ v', OE W' q v' vp ip p es ∧ ∀ g, v'.ownBlock = some g → vo.ownBlock = some g ∨ W.heap.size ≤ g
  fr : Fr (fun k => k = q ∨ vo.ownBlock = some k) W W'

theorem opened {W w1 : World} {q g cap : Nat} {vo vp : Value} {ip p : Int} {es : List Sp} {x : Sp} {o : Obj} (h : OE W q vo vp ip p es)
    (hown : w1.ownsRow 0 77 4 (.slice (some ⟨g, 0, none⟩) (es.length + 1) cap) (es.length + 1) (flat4 p es ++ cells4 p x)) (hgrow : (W.alloc o).grownBy w1 vo.ownBlock) (hat : vo.ownBlock = some g ∨ g = W.heap.size + 1) :
    Opened W q vo vp ip p (es ++ [x]) (w1.setCell ⟨q, 0, none⟩ (.slice (some ⟨g, 0, none⟩) (es.length + 1) cap)) := by
  have hlt := h.blk.lt
  have hne : g ≠ q := by
    rcases hat with e | e
    · exact fun eq => h.apart (by rw [e, eq])
    · omega
  have hb1 : OBlk w1 q vo vp ip (.slice none 0 0) := by
    show w1.heap[q]? = _
    rw [hgrow.block q (by simp; omega) (Ne.symm h.apart), Below.heap_alloc _ _ _ hlt]; exact h.blk
  refine ⟨⟨.slice (some ⟨g, 0, none⟩) (es.length + 1) cap, ⟨hb1.set0 _, ?_⟩, ?_⟩, ?_⟩
  · have hl : (es ++ [x]).length = es.length + 1 := by simp
    rw [hl, flat4_append]
    refine ⟨hown.1, ?_⟩
    rcases hown.2 with ⟨e, _⟩ | ⟨g', cap', cur, e, hb, hg, rest⟩
    · simp at e
    · refine .inr ⟨g', cap', cur, e, hb, ?_, rest⟩
      have : g' = g := by simp at e; exact e.1.symm
      rw [Below.heap_setCell _ _ _ _ (by simp; omega)]
      exact hg
  · intro k hk
    simp [Value.ownBlock] at hk
    subst hk
    rcases hat with e | e
    · exact .inl e
    · right; omega
  · exact ((Fr.alloc W o).trans (Fr.grown (S := fun k => k = q ∨ vo.ownBlock = some k) hgrow (fun k e => .inr e)) (fun _ _ x => x)).trans (Fr.setCell (S := fun k => k = q ∨ vo.ownBlock = some k) _ _ _ (.inl rfl)) (fun _ _ x => x)

set_option maxHeartbeats 1000000 in
theorem open19 (q s e : Nat) (vo vp : Value) (ip p : Int) (es : List Sp) (W : World) (h : OE W q vo vp ip p es) (hn : es.length ≤ 1000000) :
    Calls Try.prog 19 #[.pointer (some ⟨q, 0, none⟩), .int .i64 (s : Nat), .int .i64 (e : Nat), .int .i64 p] W fun r W' => r = .returned (.tuple #[]) ∧ Opened W q vo vp ip p (es ++ [(s, e)]) W' := by
  obtain ⟨i0, hi, hz0, hz1, hz2⟩ := info_parts Try.info77
  have hc := h.blk.c0
  have hlt := h.blk.lt
  have hap := h.apart
  go_enter Try.func19, Try.ntmps19
  go_wp2_with (at_builtin; refine wpList_append_lies _ rfl _ _ _ rfl 0 77 i0 (.agg #[.int .i64 0, .int .i64 0, .int .i64 0, .int .u64 0]) 4 32 Try.underlying66 hi hz0 hz1 hz2 rfl (by decide) vo es.length (flat4 p es) rfl (h.row.alloc _) ⟨W.heap.size, 0, none⟩ 1 1 (cells4 p (s, e)) rfl rfl (cell_four_new W _ _ _ _ _) (by intro u hu; simp [cells4] at hu; rcases hu with rfl | rfl | rfl | rfl <;> rfl) (by decide) (by unfold maxLen; omega) (by omega) (Nat.zero_le _) (W.heap.size + 1) (by simp) ?_; intro g cap w1 hown hgrow hat hg; have c1 : w1.cell? ⟨q, 0, none⟩ = some vo := (hgrow.cell_far _ (by simp; omega) (Ne.symm hap)).trans (by rw [World.cell?_alloc_lt _ _ ⟨q, 0, none⟩ hlt]; exact hc); have f1 : w1.frozen? ⟨q, 0, none⟩ = false := (hgrow.frozen_far _ (by simp; omega) (Ne.symm hap)).trans (by have := h.blk.eqn; simp [World.frozen?, Below.heap_alloc _ _ _ hlt, this]))
  go_end0
  exact ⟨rfl, opened h hown hgrow hat⟩
end Go.Proofs.Qxb6608761a
