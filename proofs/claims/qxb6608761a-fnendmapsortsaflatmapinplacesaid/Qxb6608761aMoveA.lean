import Derived.Test.Qxb6608761aSortB
import Derived.Test.Qxb6608761aConcat
import Derived.Deep.RegionLaw
namespace Go.Proofs.Qxb6608761a
open Go.RowKit Cmp

/-- 'copy' at a step of a region that draws its order, by its run. -/
theorem step_copy_run {P : Program} {ops : Array Oper} {o : Oper} {a : Act} {w : World} {K : Act → World → Prop} {Q : Exit → Act → World → Prop} {E : Prop} (hgd : o.guard = none) (s x : Operand) (t : TypeId)
    (ho : o.op = .call { callee := .builtin .copy, args := #[s, x], argTypes := #[t, t] }) (v X r : Value) (w1 : World) (hs : a.eval s = v) (hx : a.eval x = X)
    (hrun : (Builtin.copy_ #[t, t] o.type #[v, X]).run P w = .ok r w1) (h : K (a.put o.dst r) w1) :
    if Region.wanted o (yielded ops a.tmps) = true then Oper.wp P o a w K Q else E := by
  have hw : Region.wanted o (yielded ops a.tmps) = true := by simp [Region.wanted, hgd]
  rw [if_pos hw]
  unfold Oper.wp
  simp [execOp, ho, resolve, invoke, builtin, hs, hx, hrun, Result.andThen]
  exact h

theorem Fr.setRow {S : Nat → Prop} (w : World) (g : Nat) (cs : Array Value) (hg : S g) : Fr S w (w.setRow g cs) :=
  ⟨rfl, rfl, rfl, by simp [World.setRow], fun k _ hk => setRow_other w g k cs (fun e => hk (e ▸ hg))⟩

theorem src_of {W : World} {b off : Nat} {S : List Int} (hS : BytesAt W (some ⟨b, off, none⟩) S) (w : World) (hw : w.heap = W.heap) : ∀ j v, (vals S)[j]? = some v → w.cell? ((⟨b, off, none⟩ : Addr).add j) = some v := by
  intro j v hv
  have hj : j < S.length := by
    rcases Nat.lt_or_ge j S.length with a | a
    · exact a
    · rw [List.getElem?_eq_none (by rw [vals_length]; exact a)] at hv; cases hv
  obtain ⟨b', off', e, c0⟩ := hS j hj
  obtain ⟨rfl, rfl⟩ : b = b' ∧ off = off' := by simpa using e
  rw [Addr.add_lit]
  have : w.cell? ⟨b, off + j, none⟩ = W.cell? ⟨b, off + j, none⟩ := by simp [World.cell?, hw]
  rw [this, c0, ← hv]
  simp [vals, hj]

/-- One 'copy(body[at:], ..)'. -/
theorem copy_step (wr : World) (g at_ : Nat) (C S : List Int) (da sa : Option Addr) (dl dc m sc : Nat) (hC : wr.heap[g]? = some (.cells (vals C).toArray 5 (0, 0))) (hfit : at_ + S.length ≤ C.length) (hda : 0 < S.length → da = some ⟨g, at_, none⟩) (hS : BytesAt wr sa S) (hm : S.length = m) (hdl : S.length ≤ dl) :
    ∃ w1 C', (Builtin.copy_ #[38, 38] 3 #[.slice da dl dc, .slice sa m sc]).run Try.prog wr.drew = .ok (.int .i64 (m : Nat)) w1 ∧ w1.heap[g]? = some (.cells (vals C').toArray 5 (0, 0)) ∧ C'.length = C.length ∧ C'.take (at_ + S.length) = C.take at_ ++ S ∧ Fr (fun b => b = g) wr w1 := by
  subst hm
  by_cases h0 : S.length = 0
  · obtain rfl : S = [] := List.eq_nil_of_length_eq_zero h0
    refine ⟨wr.drew, C, ?_, hC, rfl, by simp, Fr.drew _⟩
    exact run_copy_none wr.drew 38 38 3 5 da sa dl dc 0 sc Try.underlying38 Try.size5 (by simp)
  · obtain ⟨b, off, rfl, _⟩ := hS 0 (by omega)
    obtain rfl := hda (by omega)
    have hr := run_copy_row (P := Try.prog) wr.drew 38 38 3 5 g at_ dl dc ⟨b, off, none⟩ S.length sc (vals C).toArray 5 (vals S) Try.underlying38 Try.size5 hC (by rw [vals_length]; exact (Nat.min_eq_left hdl).symm) (src_of hS wr.drew rfl) (by simpa [vals_length] using hfit) (vals_one S)
    rw [vals_length] at hr
    refine ⟨_, C.take at_ ++ S ++ C.drop (at_ + S.length), hr, ?_, ?_, ?_, (Fr.drew wr).trans (Fr.setRow (S := fun b => b = g) _ _ _ rfl) (fun _ _ x => x)⟩
    · rw [setRow_heap wr.drew g _ _ 5 _ hC]
      simp [vals, List.map_take, List.map_drop]
    · simp; omega
    · exact List.take_left' (by simp; omega)

/-- The scratch: 'append(nil, body[start:]...)'. -/
theorem scratch_run (W : World) (X : Option Addr) (S : List Int) (m c : Nat) (hS : BytesAt W X S) (hm : S.length = m) (hn : m ≤ 100000000) :
    ∃ sa sc w1, (Builtin.append_ #[38, 38] 38 #[.slice none 0 0, .slice X m c]).run Try.prog W.drew = .ok (.slice sa m sc) w1 ∧ BytesAt w1 sa S ∧ Fr (fun _ => False) W w1 ∧ m ≤ sc ∧ sc ≤ maxLen ∧ ((m = 0 ∧ sa = none ∧ sc = 0) ∨ (0 < m ∧ ∃ gs, sa = some ⟨gs, 0, none⟩ ∧ W.heap.size ≤ gs)) := by
  subst hm
  obtain ⟨i0, hi, hz0, hz1, hz2⟩ := info_parts Try.info5
  by_cases h0 : S.length = 0
  · obtain rfl : S = [] := List.eq_nil_of_length_eq_zero h0
    refine ⟨none, 0, W.drew, ?_, bytesAt_nil _ _, Fr.drew _, Nat.le_refl _, Nat.zero_le _, .inl ⟨rfl, rfl, rfl⟩⟩
    cases X <;> simp [Builtin.append_, run_underlying Try.underlying38, sizeOf, typeInfo, hi, Builtin.lenOf, Builtin.firstCells, loadCells, loadCellsFrom]
  · obtain ⟨b, off, rfl, _⟩ := hS 0 (by omega)
    obtain ⟨g', cap', w1, hrun, hown, hgrow, hat, hlt⟩ := run_append_lies W.drew 38 38 W.heap.size 5 i0 (.int .u8 0) 1 1 Try.underlying38 hi hz0 hz1 hz2 rfl (by decide) (.slice none 0 0) 0 [] (World.ownsRow_nil _ _ _ _) ⟨b, off, none⟩ S.length c (vals S) (by rw [vals_length]; omega) (src_of hS W.drew rfl) (vals_one S) (by omega) (by unfold maxLen; omega) (by omega) (Nat.le_refl _) W.drew.heap.size rfl
    rw [Nat.zero_add] at hrun hown
    have hg' : g' = W.heap.size := by
      rcases hat with e | e
      · simp [Value.ownBlock] at e
      · exact e
    rcases hown.2 with ⟨e, _⟩ | ⟨g'', cap'', cur, e, hb, hgg, hc, hmx, _, ht⟩
    · simp at e
    · obtain ⟨rfl, rfl⟩ : g' = g'' ∧ cap' = cap'' := by simpa using e
      refine ⟨_, _, w1, hrun, ?_, (Fr.drew W).trans (Fr.grown (S := fun _ => False) hgrow (fun k e => by simp [Value.ownBlock] at e)) (fun _ _ x => x), hc, hmx, .inr ⟨by omega, g', rfl, by omega⟩⟩
      intro k hk
      refine ⟨g', 0, rfl, ?_⟩
      have h1 : (vals S)[k]? = some (.int .u8 S[k]) := by simp [vals, hk]
      rw [List.nil_append] at ht
      rw [← ht, List.getElem?_take] at h1
      simp only [World.cell?, hgg, Nat.zero_add]
      split at h1
      · simpa using h1
      · cases h1
end Go.Proofs.Qxb6608761a
