import Derived.Test.Qxb6608761aMSort
namespace Go.Proofs.Qxb6608761a
open Go.RowKit Cmp

theorem Try.info5 : (Try.prog.info? 5).map (fun i => (i.zero, i.size, i.bytes)) = some (some (.int .u8 0), 1, 1) := by kernel_rfl
theorem Try.size5 : (Try.prog.info? 5).map (·.size) = some 1 := by kernel_rfl

theorem made_bytes (n : Nat) : (madeCells (Value.int .u8 0).cells (n * 1)) = (vals (List.replicate n 0)).toArray := by
  apply Array.ext
  · rw [size_madeCells]; simp [vals]
  · intro k h1 h2
    simp [madeCells, Value.cells, vals, Nat.mod_one]

theorem make_bytes (l n : Nat) (hl : l ≤ n) (hn : n ≤ 100000000) (w : World) : (Instr.makeSlice 38 (.int .i64 (l : Int)) (.int .i64 (n : Int))).run Try.prog w = .ok (.slice (some ⟨w.heap.size, 0, none⟩) l n) (w.alloc (.cells (vals (List.replicate n 0)).toArray 5)) := by
  obtain ⟨i0, hi, hz0, hz1, hz2⟩ := info_parts Try.info5
  have h := run_make (P := Try.prog) w 38 5 i0 _ Try.underlying38 hi hz0 .i64 .i64 l n (by omega) (by omega) (by rw [hz2]; omega) (by omega)
  rw [hz1, Int.toNat_natCast, Int.toNat_natCast, made_bytes] at h
  exact h

theorem vals_one (B : List Int) : ∀ v ∈ vals B, v.oneCell' = true := by
  intro v hv
  simp [vals] at hv
  obtain ⟨x, _, rfl⟩ := hv
  rfl

/-- 'copy(c, b)', c a new row of as many bytes. -/
theorem copy_bytes (W : World) (ao : Option Addr) (cap : Nat) (B : List Int) (h : BytesAt W ao B) :
    ∃ W2, (Builtin.copy_ #[38, 38] 3 #[.slice (some ⟨W.heap.size, 0, none⟩) B.length B.length, .slice ao B.length cap]).run Try.prog (W.alloc (.cells (vals (List.replicate B.length 0)).toArray 5)) = .ok (goInt B.length) W2 ∧
      W2.heap[W.heap.size]? = some (.cells (vals B).toArray 5 (0, 0)) ∧ W2.heap.size = W.heap.size + 1 ∧ Below W.heap.size W W2 := by
  have hb0 : Below W.heap.size W (W.alloc (.cells (vals (List.replicate B.length 0)).toArray 5)) := (Below.refl _ _).alloc (Nat.le_refl _) _
  by_cases h0 : B.length = 0
  · obtain rfl : B = [] := List.eq_nil_of_length_eq_zero h0
    refine ⟨_, ?_, ?_, by simp, hb0⟩
    · exact run_copy_none _ 38 38 3 5 _ _ 0 0 0 cap Try.underlying38 Try.size5 (by simp)
    · exact heap_alloc_new W _
  · obtain ⟨b, off, rfl, _⟩ := h 0 (by omega)
    have hsrc : ∀ j v, (vals B)[j]? = some v → (W.alloc (.cells (vals (List.replicate B.length 0)).toArray 5)).cell? ((⟨b, off, none⟩ : Addr).add j) = some v := by
      intro j v hv
      have hj : j < B.length := by
        rcases Nat.lt_or_ge j B.length with a | a
        · exact a
        · rw [List.getElem?_eq_none (by rw [vals_length]; exact a)] at hv; cases hv
      obtain ⟨b', off', e, c0⟩ := h j hj
      obtain ⟨rfl, rfl⟩ : b = b' ∧ off = off' := by simpa using e
      have hlt : b < W.heap.size := World.block_lt_of_cell? _ _ c0
      rw [Addr.add_lit, hb0.cell (p := ⟨b, off + j, none⟩) hlt, c0, ← hv]
      simp [vals, hj]
    have hr := run_copy_row (P := Try.prog) (W.alloc (.cells (vals (List.replicate B.length 0)).toArray 5)) 38 38 3 5 W.heap.size 0 B.length B.length ⟨b, off, none⟩ B.length cap (vals (List.replicate B.length 0)).toArray 5 (vals B) Try.underlying38 Try.size5 (heap_alloc_new W _) (by rw [vals_length]; simp) hsrc (by simp [vals_length]) (vals_one B)
    rw [vals_length] at hr
    refine ⟨_, hr, ?_, ?_, below_setRow hb0 (Nat.le_refl _) _⟩
    · rw [setRow_heap _ _ _ _ _ _ (heap_alloc_new W _)]
      have e : (vals (List.replicate B.length (0 : Int))).drop (0 + B.length) = [] := List.drop_eq_nil_of_le (by simp [vals_length])
      simp only [List.take_zero, List.nil_append]
      rw [e, List.append_nil]
    · simp [World.setRow]

/-- A row of bytes that is new. -/
def BodN (N : Nat) (W : World) (v : Value) (B : List Int) : Prop :=
  (v = .slice none 0 0 ∧ B = []) ∨ ∃ g, N ≤ g ∧ v = .slice (some ⟨g, 0, none⟩) B.length B.length ∧ W.heap[g]? = some (.cells (vals B).toArray 5 (0, 0))

theorem BodN.bod {N : Nat} {W : World} {v : Value} {B : List Int} (h : BodN N W v B) : Bod W v B := by
  rcases h with h | ⟨g, _, h⟩
  · exact .inl h
  · exact .inr ⟨g, h⟩

set_option maxRecDepth 100000 in
set_option maxHeartbeats 1000000 in
theorem clone16_some (a : Addr) (cap : Nat) (B : List Int) (W : World) (h : BytesAt W (some a) B) (hn : B.length ≤ 100000000) :
    Calls Try.prog 16 #[.slice (some a) B.length cap] W fun e W' => ∃ v, e = .returned v ∧ BodN W.heap.size W' v B ∧ Below W.heap.size W W' := by
  obtain ⟨W2, hcp, hblk, hsz, hbel⟩ := copy_bytes W (some a) cap B h
  have hmk := make_bytes B.length B.length (Nat.le_refl _) hn
  have HB : Hid (W2.heap[W.heap.size]? = some (.cells (vals B).toArray 5 (0, 0))) := hblk
  have HBel : Hid (Below W.heap.size W W2) := hbel
  have he : ∀ w : World, (binOp .eql 38 (.slice (some a) B.length cap) (.slice none 0 0)).run Try.prog w = .ok (.bool false) w := fun _ => rfl
  clear h hblk hbel hsz
  go_enter Try.func16, Try.ntmps16
  go_wp2_with fail
  go_ret
  exact ⟨_, rfl, .inr ⟨_, Nat.le_refl _, rfl, HB.out⟩, HBel.out⟩

set_option maxRecDepth 100000 in
set_option maxHeartbeats 1000000 in
theorem clone16_nil (W : World) :
    Calls Try.prog 16 #[.slice none 0 0] W fun e W' => ∃ v, e = .returned v ∧ BodN W.heap.size W' v [] ∧ Below W.heap.size W W' := by
  have he : ∀ w : World, (binOp .eql 38 (.slice none 0 0) (.slice none 0 0)).run Try.prog w = .ok (.bool true) w := fun _ => rfl
  go_enter Try.func16, Try.ntmps16
  go_wp2_with fail
  go_ret
  exact ⟨_, rfl, .inl ⟨rfl, rfl⟩, Below.refl _ _⟩

set_option maxHeartbeats 1000000 in
theorem bytes14 (ao so : Option Addr) (c1 c2 n1 n2 : Nat) (ip : Int) (W : World) (h1 : n1 ≤ maxLen) (h2 : n2 ≤ maxLen) :
    Calls Try.prog 14 #[.slice ao n1 c1, .slice so n2 c2, .int .i64 ip] W fun e W' => e = .returned (.bool (decide (n1 ≤ 1048576 ∧ n1 + n2 ≤ 1048576))) ∧ W' = W := by
  unfold maxLen at h1 h2
  by_cases g1 : n1 ≤ 1048576
  · by_cases g2 : n2 ≤ 1048576
    · by_cases g3 : n1 + n2 ≤ 1048576
      · have e : decide (n1 ≤ 1048576 ∧ n1 + n2 ≤ 1048576) = true := decide_eq_true ⟨g1, g3⟩
        rw [e]
        clear e
        go_enter Try.func14, Try.ntmps14
        go_wp2_with fail
        go_ret
        exact ⟨rfl, rfl⟩
      · have e : decide (n1 ≤ 1048576 ∧ n1 + n2 ≤ 1048576) = false := decide_eq_false (by omega)
        rw [e]
        clear e
        go_enter Try.func14, Try.ntmps14
        go_wp2_with fail
        go_ret
        exact ⟨rfl, rfl⟩
    · have e : decide (n1 ≤ 1048576 ∧ n1 + n2 ≤ 1048576) = false := decide_eq_false (by omega)
      rw [e]
      clear e
      go_enter Try.func14, Try.ntmps14
      go_wp2_with fail
      go_ret
      exact ⟨rfl, rfl⟩
  · have e : decide (n1 ≤ 1048576 ∧ n1 + n2 ≤ 1048576) = false := decide_eq_false (by omega)
    rw [e]
    clear e
    go_enter Try.func14, Try.ntmps14
    go_wp2_with fail
    go_ret
    exact ⟨rfl, rfl⟩
end Go.Proofs.Qxb6608761a
