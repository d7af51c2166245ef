import Derived.Test.Qxb6608761aHead
import Derived.Test.Qxb6608761aLaid
import Derived.Shelf.SlSortCmp.WholeK
import Derived.Deep.RegionWith
namespace Go.Proofs.Qxb6608761a
open Go.RowKit Cmp Go.Sort Go.BigFrame

/-- The row of the entries, the first k with their heads. -/
structure HRow (wr : World) (go : Nat) (B : List Int) (sp : List Sp) (k : Nat) : Prop where
  cells : ∀ i, (hi : i < sp.length) → wr.cell? ⟨go, i * 4, none⟩ = some (.int .i64 (sp[i].1 : Nat)) ∧ wr.cell? ⟨go, i * 4 + 1, none⟩ = some (.int .i64 (sp[i].2 : Nat)) ∧ wr.cell? ⟨go, i * 4 + 2, none⟩ = some (.int .i64 1) ∧ wr.cell? ⟨go, i * 4 + 3, none⟩ = some (.int .u64 (if i < k then hdN 8 (seg B sp[i].1 sp[i].2) else 0))
  free : ∀ o, wr.frozen? ⟨go, o, none⟩ = false
  lt : go < wr.heap.size

namespace HRow
variable {wr w1 : World} {go k : Nat} {B : List Int} {sp : List Sp}
theorem kept {S : Nat → Prop} (h : HRow wr go B sp k) (hf : Fr S wr w1) (hS : ¬ S go) : HRow w1 go B sp k := by
  refine ⟨fun i hi => ?_, fun o => ?_, Nat.lt_of_lt_of_le h.lt hf.size⟩
  · have := h.cells i hi
    rw [hf.cell (p := ⟨go, i * 4, none⟩) h.lt hS, hf.cell (p := ⟨go, i * 4 + 1, none⟩) h.lt hS, hf.cell (p := ⟨go, i * 4 + 2, none⟩) h.lt hS, hf.cell (p := ⟨go, i * 4 + 3, none⟩) h.lt hS]
    exact this
  · rw [hf.frozen (p := ⟨go, o, none⟩) h.lt hS]; exact h.free o

theorem step (h : HRow wr go B sp k) (hk : k < sp.length) : HRow (wr.setCell ⟨go, k * 4 + 3, none⟩ (.int .u64 (hdN 8 (seg B sp[k].1 sp[k].2)))) go B sp (k + 1) := by
  refine ⟨fun i hi => ?_, fun o => by rw [World.frozen?_setCell]; exact h.free o, by simpa using h.lt⟩
  obtain ⟨c0, c1, c2, c3⟩ := h.cells i hi
  have far : ∀ o, o ≠ k * 4 + 3 → (wr.setCell ⟨go, k * 4 + 3, none⟩ (.int .u64 (hdN 8 (seg B sp[k].1 sp[k].2)))).cell? ⟨go, o, none⟩ = wr.cell? ⟨go, o, none⟩ := fun o ho => World.cell?_setCell_other _ _ _ _ (fun e => ho (by injection e with _ e2; exact e2.symm))
  refine ⟨by rw [far _ (by omega)]; exact c0, by rw [far _ (by omega)]; exact c1, by rw [far _ (by omega)]; exact c2, ?_⟩
  by_cases e : i = k
  · subst e
    rw [if_pos (by omega)]
    exact World.cell?_setCell_same' _ _ _ (by rw [c3]; rfl)
  · rw [far _ (by omega), c3]
    by_cases l : i < k
    · rw [if_pos l, if_pos (by omega)]
    · rw [if_neg l, if_neg (by omega)]
end HRow

/-- The span of that index; behind the end the empty one. -/
def spAt (sp : List Sp) (i : Nat) : Sp := sp.getD i (0, 0)
def segAt (B : List Int) (sp : List Sp) (i : Nat) : List Int := seg B (spAt sp i).1 (spAt sp i).2
def encI (B : List Int) (sp : List Sp) (i : Nat) : List Value := [.int .i64 ((spAt sp i).1 : Nat), .int .i64 ((spAt sp i).2 : Nat), .int .i64 1, .int .u64 (hdN 8 (segAt B sp i))]

theorem spAt_lt (sp : List Sp) (i : Nat) (h : i < sp.length) : spAt sp i = sp[i] := by simp [spAt, h]
theorem spAt_ok {sp : List Sp} {N : Nat} (hval : ∀ x ∈ sp, x.1 ≤ x.2 ∧ x.2 ≤ N) (i : Nat) : (spAt sp i).1 ≤ (spAt sp i).2 ∧ (spAt sp i).2 ≤ N := by
  rcases Nat.lt_or_ge i sp.length with h | h
  · rw [spAt_lt sp i h]; exact hval _ (List.getElem_mem h)
  · simp [spAt, h]

theorem Byt.bytL {l : List Int} (h : Byt l) : BytL l := h

/-- The heads agree with the bytes. -/
theorem cmp_heads (l1 l2 : List Int) (h1 : Byt l1) (h2 : Byt l2) : (if cmpI (hdN 8 l1) (hdN 8 l2) = 0 then cmpL l1 l2 else cmpI (hdN 8 l1) (hdN 8 l2)) = cmpL l1 l2 := by
  unfold cmpI
  by_cases a : hdN 8 l1 < hdN 8 l2
  · rw [if_pos a, if_neg (by decide), hdN_lt 8 l1 l2 h1 h2 a]
  · by_cases b : hdN 8 l2 < hdN 8 l1
    · have := hdN_lt 8 l2 l1 h2 h1 b
      rw [if_neg a, if_pos b, if_neg (by decide)]
      have sw := cmpL_swap l2 l1
      omega
    · rw [if_neg a, if_neg b, if_pos rfl]

theorem swo_cmp (B : List Int) (sp : List Sp) : SWO (ltOf fun i j => cmpL (segAt B sp i) (segAt B sp j)) where
  irrefl x := by simp [ltOf, cmpL_self]
  trans x y z h1 h2 := by
    simp [ltOf] at *
    have t := cmpL_trans _ _ _ (show cmpL (segAt B sp x) (segAt B sp y) ≤ 0 by omega) (show cmpL (segAt B sp y) (segAt B sp z) ≤ 0 by omega)
    rcases Int.lt_or_eq_of_le t with a | a
    · exact a
    · have e := cmpL_eq _ _ a
      rw [e] at h1
      have := cmpL_swap (segAt B sp y) (segAt B sp z)
      omega
  ntrans x y z h1 h2 := by
    simp [ltOf] at *
    have s1 := cmpL_swap (segAt B sp x) (segAt B sp y)
    have s2 := cmpL_swap (segAt B sp y) (segAt B sp z)
    have s3 := cmpL_swap (segAt B sp x) (segAt B sp z)
    have t := cmpL_trans (segAt B sp z) (segAt B sp y) (segAt B sp x) (by omega) (by omega)
    omega

theorem fr_sortWorldK {α : Type} [Inhabited α] (enc : α → List Value) (k : Nat) (w : World) (blk off m : Nat) (dk : Array α) (os : Array Obj) : Fr (fun b => b = blk) w (sortWorldK enc k w blk off m dk os) := by
  refine ⟨rfl, rfl, rfl, ?_, fun b hb hne => ?_⟩
  · exact size_sortWorldK_c enc k w blk off m dk os
  · unfold sortWorldK
    rw [heap_grow_old _ _ (by rw [size_putRowK]; exact hb)]
    unfold putRowK putRow mapBlock
    simp only [Array.getElem?_modify]
    rw [if_neg (fun e => hne e.symm)]
    rfl

theorem holdsK_row {wr : World} {go : Nat} {B : List Int} {sp : List Sp} (h : HRow wr go B sp sp.length) : HoldsK (encI B sp) 4 wr go 0 (Array.range sp.length) := by
  intro j hj
  rw [size_flatK, Array.size_range] at hj
  refine ⟨?_, h.free _⟩
  have hi : j / 4 < sp.length := by omega
  obtain ⟨c0, c1, c2, c3⟩ := h.cells (j / 4) hi
  rw [if_pos hi] at c3
  rw [get_flatK _ _ _ _ (by rw [Array.size_range]; exact hj)]
  have e : (Array.range sp.length)[j / 4]! = j / 4 := by rw [getElem!_pos _ _ (by simpa using hi)]; simp
  rw [e]
  have hs : spAt sp (j / 4) = sp[j / 4] := spAt_lt sp _ hi
  rcases (show j % 4 = 0 ∨ j % 4 = 1 ∨ j % 4 = 2 ∨ j % 4 = 3 by omega) with r | r | r | r
  · rw [show 0 + j = j / 4 * 4 by omega, c0, r]; simp [encI, hs]
  · rw [show 0 + j = j / 4 * 4 + 1 by omega, c1, r]; simp [encI, hs]
  · rw [show 0 + j = j / 4 * 4 + 2 by omega, c2, r]; simp [encI]
  · rw [show 0 + j = j / 4 * 4 + 3 by omega, c3, r]; simp [encI, segAt, hs]

/-- Behind the sort: the entries in order. -/
structure Sorted (W : World) (go : Nat) (B : List Int) (sp A : List Sp) : Prop where
  perm : A.Perm sp
  asc : A.Pairwise (fun a b => leB B a b = true)
  cells : ∀ i, (hi : i < A.length) → W.cell? ⟨go, i * 4, none⟩ = some (.int .i64 (A[i].1 : Nat)) ∧ W.cell? ⟨go, i * 4 + 1, none⟩ = some (.int .i64 (A[i].2 : Nat)) ∧ W.cell? ⟨go, i * 4 + 2, none⟩ = some (.int .i64 1) ∧ ∃ h : Int, W.cell? ⟨go, i * 4 + 3, none⟩ = some (.int .u64 h)
  lt : go < W.heap.size

theorem sorted_of {w : World} {go m : Nat} {B : List Int} {sp : List Sp} {d' : Array Nat} {os : Array Obj} (h : HRow w go B sp sp.length) (hp : PermIn 0 (Array.range sp.length).size (Array.range sp.length) d') (hs : SortedIn (ltOf fun i j => cmpL (segAt B sp i) (segAt B sp j)) 0 (Array.range sp.length).size d') :
    ∃ A, Sorted (sortWorldK (encI B sp) 4 w go 0 m d' os) go B sp A := by
  obtain ⟨hz, _, hp⟩ := hp
  rw [Array.size_range] at hz hp hs
  have e1 : (d'.extract 0 sp.length).toList = d'.toList := by rw [← hz]; simp
  have e2 : ((Array.range sp.length).extract 0 sp.length).toList = List.range sp.length := by simp
  rw [e1, e2] at hp
  have hA : (d'.toList.map (spAt sp)).Perm sp := by
    refine (hp.map _).trans ?_
    have : (List.range sp.length).map (spAt sp) = sp := by
      apply List.ext_getElem
      · simp
      · intro i h1 h2
        simp [spAt_lt sp i h2]
    rw [this]
  have hH := holdsK_sortWorldK_c (encI B sp) 4 w go 0 (Array.range sp.length) d' m os (holdsK_row h) h.lt (by rw [hz]; simp)
  refine ⟨_, hA, ?_, ?_, Nat.lt_of_lt_of_le h.lt (size_sortWorldK_c _ _ _ _ _ _ _ _)⟩
  · rw [List.pairwise_map, List.pairwise_iff_getElem]
    intro i j hi hj hij
    have := hs i j (Nat.zero_le _) hij (by simp at hj; omega)
    rw [getElem!_pos d' j (by simpa using hj), getElem!_pos d' i (by simpa using hi)] at this
    simp [ltOf] at this
    unfold leB
    simp
    have sw := cmpL_swap (segAt B sp d'[j]) (segAt B sp d'[i])
    unfold segAt at *
    omega
  · intro i hi
    have hi' : i < d'.size := by simpa using hi
    have hc : ∀ t, t < 4 → (sortWorldK (encI B sp) 4 w go 0 m d' os).cell? ⟨go, i * 4 + t, none⟩ = some ((encI B sp d'[i])[t]!) := by
      intro t ht
      have := (hH (i * 4 + t) (by rw [size_flatK]; omega)).1
      rw [Nat.zero_add, get_flatK _ _ _ _ (by omega), show (i * 4 + t) / 4 = i by omega, show (i * 4 + t) % 4 = t by omega, getElem!_pos d' i hi'] at this
      exact this
    have g : (d'.toList.map (spAt sp))[i] = spAt sp d'[i] := by simp
    rw [g]
    exact ⟨hc 0 (by omega), hc 1 (by omega), hc 2 (by omega), _, hc 3 (by omega)⟩
end Go.Proofs.Qxb6608761a
