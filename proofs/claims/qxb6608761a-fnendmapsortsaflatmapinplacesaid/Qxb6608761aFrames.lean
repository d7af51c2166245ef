import Derived.Test.Qxb6608761aRuns
import Derived.Deep.AppendLies
import Derived.WalkSmall
namespace Go.Proofs.Qxb6608761a
open Go.RowKit

/-- w' is w but for the blocks of S, and new blocks. -/
structure Fr (S : Nat → Prop) (w w' : World) : Prop where
  os : w'.os = w.os
  tape : w'.tape = w.tape
  output : w'.output = w.output
  size : w.heap.size ≤ w'.heap.size
  block : ∀ k, k < w.heap.size → ¬ S k → w'.heap[k]? = w.heap[k]?

namespace Fr
variable {S T : Nat → Prop} {a b c : World}

theorem refl (S : Nat → Prop) (w : World) : Fr S w w := ⟨rfl, rfl, rfl, Nat.le_refl _, fun _ _ _ => rfl⟩

theorem mono (h : Fr S a b) (hST : ∀ k, k < a.heap.size → S k → T k) : Fr T a b := ⟨h.os, h.tape, h.output, h.size, fun k hk hT => h.block k hk (fun hs => hT (hST k hk hs))⟩

theorem trans (h : Fr S a b) (k : Fr T b c) (hT : ∀ x, x < a.heap.size → T x → S x) : Fr S a c :=
  ⟨k.os.trans h.os, k.tape.trans h.tape, k.output.trans h.output, Nat.le_trans h.size k.size, fun i hi hS => (k.block i (Nat.lt_of_lt_of_le hi h.size) (fun ht => hS (hT i hi ht))).trans (h.block i hi hS)⟩

theorem alloc (w : World) (o : Obj) : Fr S w (w.alloc o) := ⟨rfl, rfl, rfl, by simp, fun k hk _ => Below.heap_alloc w o k hk⟩

theorem drewN (w : World) (n : Nat) : Fr S w (w.drewN n) := ⟨rfl, rfl, rfl, Nat.le_refl _, fun _ _ _ => rfl⟩

theorem drew (w : World) : Fr S w w.drew := ⟨rfl, rfl, rfl, Nat.le_refl _, fun _ _ _ => rfl⟩

theorem setCell (w : World) (p : Addr) (u : Value) (hp : S p.block) : Fr S w (w.setCell p u) :=
  ⟨rfl, rfl, rfl, by simp [World.setCell], fun k _ hS => Below.heap_setCell w p u k (fun e => hS (e ▸ hp))⟩

theorem grown {w w' : World} {row : Option Nat} (h : w.grownBy w' row) (hr : ∀ k, row = some k → S k) : Fr S w w' :=
  ⟨h.os, h.tape, h.output, h.size, fun k hk hS => h.block k hk (fun e => hS (hr k e.symm))⟩

theorem grownBy {w w' : World} (h : Fr (fun _ => False) w w') (row : Option Nat) : w.grownBy w' row :=
  ⟨h.os, h.tape, h.output, h.size, fun k hk _ => h.block k hk (fun f => f)⟩

theorem below {w W W' : World} {B : Nat} (hb : Below B w W) (h : Fr S W W') (hB : B ≤ W.heap.size) (hS : ∀ k, k < W.heap.size → S k → B ≤ k) : Below B w W' :=
  hb.trans ⟨h.os, h.tape, h.output, h.size, fun k hk => h.block k (by omega) (fun hs => by have := hS k (by omega) hs; omega)⟩

theorem cell (h : Fr S a b) {p : Addr} (hlt : p.block < a.heap.size) (hS : ¬ S p.block) : b.cell? p = a.cell? p := World.cell?_of_block (h.block _ hlt hS)
theorem frozen (h : Fr S a b) {p : Addr} (hlt : p.block < a.heap.size) (hS : ¬ S p.block) : b.frozen? p = a.frozen? p := World.frozen?_of_block (h.block _ hlt hS)

/-- A row that lies outside S stays owned. -/
theorem owns {base : Nat} {e : TypeId} {size : Nat} {v : Value} {n : Nat} {xs : List Value} (h : Fr S a b) (hr : a.ownsRow base e size v n xs) (hS : ∀ g, v.ownBlock = some g → ¬ S g) : b.ownsRow base e size v n xs := by
  refine ⟨hr.1, ?_⟩
  rcases hr.2 with hn | ⟨g, cap, cur, rfl, hb, hgg, rest⟩
  · exact .inl hn
  · refine .inr ⟨g, cap, cur, rfl, hb, ?_, rest⟩
    rw [h.block g (Array.getElem?_eq_some_iff.1 hgg).1 (hS g rfl)]
    exact hgg
end Fr

theorem lt_of_heap {w : World} {k : Nat} {o : Obj} (h : w.heap[k]? = some o) : k < w.heap.size := by
  rcases Nat.lt_or_ge k w.heap.size with h' | h'
  · exact h'
  · simp [Array.getElem?_eq_none h'] at h

/-- The block of a row is of the row's own element type. -/
theorem own_type {w : World} {base : Nat} {e : TypeId} {size : Nat} {v : Value} {n : Nat} {xs : List Value} (h : w.ownsRow base e size v n xs) {g : Nat} (hg : v.ownBlock = some g) : ∃ cur, w.heap[g]? = some (.cells cur e (0, 0)) := by
  rcases h.2 with ⟨rfl, _⟩ | ⟨g', cap, cur, rfl, _, hgg, _⟩
  · simp [Value.ownBlock] at hg
  · simp [Value.ownBlock] at hg; subst hg; exact ⟨cur, hgg⟩

/-- AN OpenRuns AT BLOCK q: its one cell holds v; v owns the runs rs. -/
structure OR (W : World) (q : Nat) (v : Value) (rs : List R3) : Prop where
  blk : W.heap[q]? = some (.cells #[v] 29 (0, 0))
  row : W.ownsRow 0 63 3 v rs.length (Runs.flat rs)

namespace OR
variable {W W' : World} {q : Nat} {v : Value} {rs : List R3}
theorem lt (h : OR W q v rs) : q < W.heap.size := lt_of_heap h.blk
theorem cell (h : OR W q v rs) : W.cell? ⟨q, 0, none⟩ = some v := by simp [World.cell?, h.blk]
theorem free (h : OR W q v rs) : W.frozen? ⟨q, 0, none⟩ = false := by simp [World.frozen?, h.blk]
theorem apart (h : OR W q v rs) : v.ownBlock ≠ some q := fun e => by
  obtain ⟨cur, hc⟩ := own_type h.row e
  have := h.blk
  rw [hc] at this
  simp at this
theorem kept {S : Nat → Prop} (h : OR W q v rs) (hf : Fr S W W') (hq : ¬ S q) (hS : ∀ g, v.ownBlock = some g → ¬ S g) : OR W' q v rs :=
  ⟨by rw [hf.block q h.lt hq]; exact h.blk, hf.owns h.row hS⟩
/-- What v looks like: nil, or the head of a row. -/
theorem form (h : OR W q v rs) : (v = .slice none 0 0 ∧ rs = []) ∨ ∃ g cap, v = .slice (some ⟨g, 0, none⟩) rs.length cap ∧ g < W.heap.size ∧ g ≠ q ∧ rs.length ≤ cap ∧ cap ≤ maxLen := by
  rcases h.row.2 with ⟨e, hn⟩ | ⟨g, cap, cur, e, _, hg, hc, hm, _⟩
  · exact .inl ⟨e, List.eq_nil_of_length_eq_zero hn⟩
  · refine .inr ⟨g, cap, e, lt_of_heap hg, fun eq => ?_, hc, hm⟩
    exact h.apart (by rw [e, eq]; rfl)
theorem cellAt {g cap : Nat} (h : OR W q (.slice (some ⟨g, 0, none⟩) rs.length cap) rs) (k j : Nat) (hk : k < rs.length) (hj : j < 3) : W.cell? ⟨g, k * 3 + j, none⟩ = (Runs.cellsOf rs[k])[j]? := by
  rw [h.row.cellAt (k * 3 + j) (by omega), Runs.flat_get rs k j hk hj]
end OR
end Go.Proofs.Qxb6608761a
