import Derived.Test.Qxb6608761aMoveA
namespace Go.Proofs.Qxb6608761a
open Go.RowKit Cmp

/-- The MapOrder's block. -/
def OBlk (W : World) (q : Nat) (vo vp : Value) (ip : Int) (sc : Value) : Prop := W.heap[q]? = some (.cells #[vo, vp, .slice none 0 0, .int .i64 ip, sc, .slice none 0 0, .slice none 0 0] 72 (0, 0))

namespace OBlk
variable {W W' : World} {q : Nat} {vo vp sc : Value} {ip : Int}
theorem lt (h : OBlk W q vo vp ip sc) : q < W.heap.size := lt_of_heap h
theorem eqn (h : OBlk W q vo vp ip sc) : W.heap[q]? = some (.cells #[vo, vp, .slice none 0 0, .int .i64 ip, sc, .slice none 0 0, .slice none 0 0] 72 (0, 0)) := h
theorem c0 (h : OBlk W q vo vp ip sc) : W.cell? ⟨q, 0, none⟩ = some vo := by simp [World.cell?, h.eqn]
theorem c1 (h : OBlk W q vo vp ip sc) : W.cell? ⟨q, 1, none⟩ = some vp := by simp [World.cell?, h.eqn]
theorem c2 (h : OBlk W q vo vp ip sc) : W.cell? ⟨q, 2, none⟩ = some (.slice none 0 0) := by simp [World.cell?, h.eqn]
theorem c3 (h : OBlk W q vo vp ip sc) : W.cell? ⟨q, 3, none⟩ = some (.int .i64 ip) := by simp [World.cell?, h.eqn]
theorem c4 (h : OBlk W q vo vp ip sc) : W.cell? ⟨q, 4, none⟩ = some sc := by simp [World.cell?, h.eqn]
theorem free (h : OBlk W q vo vp ip sc) (o : Nat) : W.frozen? ⟨q, o, none⟩ = false := by simp [World.frozen?, h.eqn]
theorem kept {S : Nat → Prop} (h : OBlk W q vo vp ip sc) (hf : Fr S W W') (hS : ¬ S q) : OBlk W' q vo vp ip sc := (hf.block q h.lt hS).trans h
theorem set0 (h : OBlk W q vo vp ip sc) (v : Value) : OBlk (W.setCell ⟨q, 0, none⟩ v) q v vp ip sc := (heap_setCell_same W q 0 _ _ _ h).trans rfl
theorem set1 (h : OBlk W q vo vp ip sc) (v : Value) : OBlk (W.setCell ⟨q, 1, none⟩ v) q vo v ip sc := (heap_setCell_same W q 1 _ _ _ h).trans rfl
theorem set3 (h : OBlk W q vo vp ip sc) (v : Int) : OBlk (W.setCell ⟨q, 3, none⟩ (.int .i64 v)) q vo vp v sc := (heap_setCell_same W q 3 _ _ _ h).trans rfl
theorem set4 (h : OBlk W q vo vp ip sc) (v : Value) : OBlk (W.setCell ⟨q, 4, none⟩ v) q vo vp ip v := (heap_setCell_same W q 4 _ _ _ h).trans rfl
end OBlk

/-- The entries' row, sorted: its cells alone. -/
def ARow (W : World) (go : Nat) (A : List Sp) : Prop := ∀ i, (hi : i < A.length) → W.cell? ⟨go, i * 4, none⟩ = some (.int .i64 (A[i].1 : Nat)) ∧ W.cell? ⟨go, i * 4 + 1, none⟩ = some (.int .i64 (A[i].2 : Nat)) ∧ W.cell? ⟨go, i * 4 + 2, none⟩ = some (.int .i64 1) ∧ ∃ h : Int, W.cell? ⟨go, i * 4 + 3, none⟩ = some (.int .u64 h)

theorem ARow.kept {S : Nat → Prop} {W W' : World} {go : Nat} {A : List Sp} (h : ARow W go A) (hf : Fr S W W') (hS : ¬ S go) : ARow W' go A := by
  intro i hi
  obtain ⟨c0, c1, c2, h3, c3⟩ := h i hi
  have l := World.block_lt_of_cell? _ _ c0
  exact ⟨by rw [hf.cell (p := ⟨go, i * 4, none⟩) l hS]; exact c0, by rw [hf.cell (p := ⟨go, i * 4 + 1, none⟩) l hS]; exact c1, by rw [hf.cell (p := ⟨go, i * 4 + 2, none⟩) l hS]; exact c2, h3, by rw [hf.cell (p := ⟨go, i * 4 + 3, none⟩) l hS]; exact c3⟩

/-- What the loop of moveInOrder keeps. -/
structure MV (W1 : World) (g n start : Nat) (B T : List Int) (wr : World) : Prop where
  body : ∃ C : List Int, wr.heap[g]? = some (.cells (vals C).toArray 5 (0, 0)) ∧ C.length = n ∧ C.take (start + T.length) = B.take start ++ T
  fr : Fr (fun b => b = g) W1 wr

theorem src_scratch {w : World} {gs n start sc s e x : Nat} {B : List Int} (h : BytesAt w (some ⟨gs, 0, none⟩) (seg B start n)) (hn : n = B.length) (hs : start ≤ s) (hse : s ≤ e) (he : e ≤ n) (hx : x = s - start) (hsc : n - start ≤ sc) (inst : Decidable (sc = x)) :
    BytesAt w (@ite _ (sc = x) inst (some ⟨gs, 0, none⟩) (some ⟨gs, x, none⟩)) (seg B s e) := by
  subst hn
  intro k hk
  rw [seg_length B s e hse he] at hk
  rw [if_neg (by omega)]
  refine ⟨gs, x, rfl, ?_⟩
  obtain ⟨b, off, e1, c⟩ := h (x + k) (by rw [seg_length B start _ (by omega) (Nat.le_refl _)]; omega)
  obtain ⟨rfl, rfl⟩ : gs = b ∧ 0 = off := by simpa using e1
  rw [Nat.zero_add] at c
  rw [c, seg_get B start B.length (x + k) (by omega) (Nat.le_refl _) (by omega), seg_get B s e k hse he hk]
  congr 2
  have : start + (x + k) = s + k := by omega
  simp [this]

theorem MV.frame {W1 wr w1 : World} {g n start : Nat} {B T : List Int} (h : MV W1 g n start B T wr) (hf : Fr (fun _ => False) wr w1) : MV W1 g n start B T w1 := by
  obtain ⟨C, hC, h1, h2⟩ := h.body
  exact ⟨⟨C, (hf.block g (lt_of_heap hC) (fun f => f)).trans hC, h1, h2⟩, h.fr.trans hf (fun _ _ f => f.elim)⟩

set_option maxRecDepth 100000 in
set_option maxHeartbeats 2000000 in
theorem move34_some (q g n start go cap : Nat) (B : List Int) (A : List Sp) (vo vp : Value) (ip : Int) (W : World) (hO : OBlk W q vo vp ip (.slice none 0 0)) (hB : W.heap[g]? = some (.cells (vals B).toArray 5 (0, 0))) (hl : n = B.length) (hA : ARow W go A)
    (hval : ∀ x ∈ A, start ≤ x.1 ∧ x.1 ≤ x.2 ∧ x.2 ≤ n) (hsum : ∀ k, start + (cat B (A.take k)).length ≤ n) (hst : start ≤ n) (hqg : q ≠ g) (hgog : go ≠ g) (hgoq : go ≠ q) (hn : n ≤ 100000000) (hAn : A.length ≤ 1000000) :
    Calls Try.prog 34 #[.pointer (some ⟨q, 0, none⟩), .slice (some ⟨g, 0, none⟩) n n, .int .i64 start, .slice (some ⟨go, 0, none⟩) A.length cap] W fun e W' => e = .returned (.tuple #[]) ∧
      ∃ (C : List Int) (sc : Value), W'.heap[g]? = some (.cells (vals C).toArray 5 (0, 0)) ∧ C.length = n ∧ C.take (start + (cat B A).length) = B.take start ++ cat B A ∧ OBlk W' q vo vp ip sc ∧ Fr (fun b => b = g ∨ b = q) W W' := by
  have hseg : BytesAt W (if n = start then some ⟨g, 0, none⟩ else some ⟨g, start, none⟩) (seg B start n) := seg_at hB hl start n hst (Nat.le_refl _) _
  obtain ⟨sa, sc, w1, happ, hby, hfr, hsc, hscm, hsh⟩ := scratch_run W _ (seg B start n) (n - start) (n - start) hseg (seg_length _ _ _ hst (by omega)) (by omega)
  have hO1 : OBlk w1 q vo vp ip (.slice none 0 0) := hO.kept hfr (fun f => f)
  have hcq := hO.c4
  have hcq1 := hO1.c4
  have hfq1 := hO1.free 4
  have HL := hid hl
  have HB := hid hB
  have HO := hid hO
  have HO1 := hid hO1
  have HA := hid hA
  have HV := hid hval
  have HU := hid hsum
  have HF := hid hfr
  have HY := hid hby
  have z1 : (0 : Int) ≤ (start : Int) := by omega
  have z2 : (start : Int) ≤ (n : Int) := by omega
  clear hseg hl hB hO hO1 hA hval hsum hfr hby
  go_enter Try.func34, Try.ntmps34
  go_wp2_with fail
  go_region_law (refine step_append_run rfl (.tmp 16) (.tmp 19) 38 rfl _ _ _ _ rfl rfl happ ?_)
  generalize (if n = start then some (⟨g, 0, none⟩ : Addr) else some ⟨g, start, none⟩) = A1
  have HW1 := hid (HO1.out.set4 (.slice sa (n - start) sc))
  have HF1 : Hid (Fr (fun b => b = q) W (w1.setCell ⟨q, 4, none⟩ (.slice sa (n - start) sc))) := (HF.out.mono (fun _ _ f => f.elim)).trans (Fr.setCell (S := fun b => b = q) _ _ _ rfl) (fun _ _ x => x)
  have HA1 := hid (HA.out.kept HF1.out hgoq)
  have HB1 := hid ((HF1.out.block g (lt_of_heap HB.out) (fun e => hqg e.symm)).trans HB.out)
  clear happ hcq hcq1 hfq1
  rcases hsh with ⟨hm0, rfl, rfl⟩ | ⟨hm0, gs, rfl, hgs⟩
  · obtain rfl : start = n := by omega
    rw [hm0] at HW1 HF1 HA1 HB1 ⊢
    have hcat : Hid (cat B A = []) := by
      have := HU.out A.length
      rw [List.take_length] at this
      exact List.eq_nil_of_length_eq_zero (by omega)
    generalize w1.setCell ⟨q, 4, none⟩ (.slice none 0 0) = W1 at *
    clear hm0
    go_wp2_with fail
    go_loopw [8, 10, 26] (fun t8 _ t26 wr => ∃ (k : Nat), t8 = .int .i64 start ∧ t26 = .int .i64 k ∧ k ≤ A.length ∧ Fr (fun _ => False) W1 wr) (fun _ _ t _ => A.length - (intOf t).toNat)
    case atStart => exact ⟨0, rfl, rfl, Nat.zero_le _, Fr.refl _ _⟩
    case round =>
      obtain ⟨k, rfl, rfl, hk, HM1⟩ := hrel
      have HM := hid HM1
      clear HM1
      by_cases hlt : k < A.length
      · obtain ⟨c0, c1, c2, h3, c3⟩ := (HA1.out.kept HM.out (fun f => f)) k hlt
        have V := HV.out _ (List.getElem_mem hlt)
        rw [show A[k].1 = start by omega] at c0
        rw [show A[k].2 = start by omega] at c1
        have hG : Fr (fun _ => False) wr (wr.alloc (.cells #[.int .i64 (start : Nat), .int .i64 (start : Nat), .int .i64 1, .int .u64 h3] 77)) := Fr.alloc _ _
        have HM4 := hid (HM.out.trans hG (fun _ _ x => x))
        have hOq := ((HW1.out.kept HM.out (fun f => f)).kept hG (fun f => f)).c4
        have hbx : (wr.alloc (.cells #[.int .i64 (start : Nat), .int .i64 (start : Nat), .int .i64 1, .int .u64 h3] 77)).cell? ⟨wr.heap.size, 0, none⟩ = some (.int .i64 (start : Nat)) := by simp
        have hby1 : (wr.alloc (.cells #[.int .i64 (start : Nat), .int .i64 (start : Nat), .int .i64 1, .int .u64 h3] 77)).cell? ⟨wr.heap.size, 1, none⟩ = some (.int .i64 (start : Nat)) := by simp
        clear V
        go_wp2_with fail
        generalize (wr.alloc (.cells #[.int .i64 (start : Nat), .int .i64 (start : Nat), .int .i64 1, .int .u64 h3] 77)) = W4 at *
        have w3' : (start : Int) - (start : Int) = 0 := by omega
        have w4' : IntKind.i64.wrap 0 = 0 := by decide
        have w5' : IntKind.i64.wrap (start : Int) = (start : Int) := by rw [IntKind.wrap_i64]; omega
        have hcp : (Builtin.copy_ #[38, 38] 3 #[.slice (some ⟨g, 0, none⟩) 0 0, .slice none 0 0]).run Try.prog W4.drew = .ok (.int .i64 0) W4.drew := run_copy_none W4.drew 38 38 3 5 _ _ 0 0 0 0 Try.underlying38 Try.size5 (by simp)
        clear c0 c1 c2 c3
        generalize wr.heap.size = bx at *
        go_region_held3 (fun z => z.cell? ⟨q, 4, none⟩ = some (.slice none 0 0) ∧ z.cell? ⟨bx, 0, none⟩ = some (.int .i64 (start : Nat)) ∧ z.cell? ⟨bx, 1, none⟩ = some (.int .i64 (start : Nat))) (go_keep) (refine step_copy_run rfl (.tmp 33) (.tmp 46) 38 rfl _ _ _ _ rfl rfl hcp ?_)
        go_wp2_with fail
        go_roundw
        case rel => exact ⟨k + 1, by go_num, by go_num, by omega, HM4.out.trans (Fr.drew _) (fun _ _ x => x)⟩
        case measure => simp [intOf]; omega
      · go_wp2_with fail
        go_end0
        exact ⟨rfl, B, _, (HM.out.block g (lt_of_heap HB1.out) (fun f => f)).trans HB1.out, HL.out.symm, by rw [hcat.out]; simp, HW1.out.kept HM.out (fun f => f), (HF1.out.mono (fun _ _ e => .inr e)).trans (HM.out.mono (fun _ _ f => f.elim)) (fun _ _ x => x)⟩
  · have HY1 : Hid (BytesAt (w1.setCell ⟨q, 4, none⟩ (.slice (some ⟨gs, 0, none⟩) (n - start) sc)) (some ⟨gs, 0, none⟩) (seg B start n)) := HY.out.kept (Fr.setCell (S := fun b => b = q) _ _ _ rfl) (fun a e => by have := HO.out.lt; have e2 : (⟨gs, 0, none⟩ : Addr) = a := Option.some.inj e; rw [← e2]; show gs ≠ q; omega)
    have hgq : gs ≠ q := by have := HO.out.lt; omega
    have hgg : gs ≠ g := by have := lt_of_heap HB.out; omega
    generalize w1.setCell ⟨q, 4, none⟩ (.slice (some ⟨gs, 0, none⟩) (n - start) sc) = W1 at *
    go_wp2_with fail
    go_loopw [8, 10, 26] (fun t8 _ t26 wr => ∃ (k a : Nat), t8 = .int .i64 a ∧ t26 = .int .i64 k ∧ k ≤ A.length ∧ Hid (a = start + (cat B (A.take k)).length) ∧ MV W1 g n start B (cat B (A.take k)) wr) (fun _ _ t _ => A.length - (intOf t).toNat)
    case atStart => exact ⟨0, start, rfl, rfl, Nat.zero_le _, rfl, ⟨B, HB1.out, HL.out.symm, by simp [cat]⟩, Fr.refl _ _⟩
    case round =>
      obtain ⟨k, a, rfl, rfl, hk, HAT, HM1⟩ := hrel
      have HM := hid HM1
      clear HM1
      by_cases hlt : k < A.length
      · obtain ⟨c0, c1, c2, h3, c3⟩ := (HA1.out.kept HM.out.fr hgog) k hlt
        have V := HV.out _ (List.getElem_mem hlt)
        have hU := HU.out (k + 1)
        rw [cat_take_succ B A k hlt, List.length_append, seg_length B _ _ V.2.1 (by rw [← HL.out]; exact V.2.2)] at hU
        have HX := hid hU
        have han : a ≤ n := by have := HAT.out; omega
        have hfits : a + (A[k].2 - A[k].1) ≤ n := by have := HAT.out; omega
        clear hU
        obtain ⟨x, hx⟩ : ∃ x : Nat, x = A[k].1 - start := ⟨_, rfl⟩
        obtain ⟨y, hy⟩ : ∃ y : Nat, y = A[k].2 - start := ⟨_, rfl⟩
        have hxi : ((A[k].1 : Nat) : Int) - (start : Int) = (x : Int) := by omega
        have hyi : ((A[k].2 : Nat) : Int) - (start : Int) = (y : Int) := by omega
        have w1' : (x : Int) ≤ (y : Int) := by omega
        have w2' : (y : Int) ≤ (sc : Int) := by omega
        have w3' : (a : Int) ≤ (n : Int) := by omega
        have w4' : IntKind.i64.wrap (x : Int) = (x : Int) := by rw [IntKind.wrap_i64]; omega
        have w5' : IntKind.i64.wrap (y : Int) = (y : Int) := by rw [IntKind.wrap_i64]; omega
        have w6' : (0 : Int) ≤ (x : Int) := by omega
        have w7' : IntKind.i64.wrap ((a : Int) + ((y - x : Nat) : Int)) = (a : Int) + ((y - x : Nat) : Int) := by rw [IntKind.wrap_i64]; omega
        have hG : Fr (fun _ => False) wr (wr.alloc (.cells #[.int .i64 (A[k].1 : Nat), .int .i64 (A[k].2 : Nat), .int .i64 1, .int .u64 h3] 77)) := Fr.alloc _ _
        have HM4 := hid (HM.out.frame hG)
        have hOq := ((HW1.out.kept HM.out.fr hqg).kept hG (fun f => f)).c4
        have hbx : (wr.alloc (.cells #[.int .i64 (A[k].1 : Nat), .int .i64 (A[k].2 : Nat), .int .i64 1, .int .u64 h3] 77)).cell? ⟨wr.heap.size, 0, none⟩ = some (.int .i64 (A[k].1 : Nat)) := by simp
        have hby1 : (wr.alloc (.cells #[.int .i64 (A[k].1 : Nat), .int .i64 (A[k].2 : Nat), .int .i64 1, .int .u64 h3] 77)).cell? ⟨wr.heap.size, 1, none⟩ = some (.int .i64 (A[k].2 : Nat)) := by simp
        have hqs : q ≠ wr.heap.size := by have := Nat.lt_of_lt_of_le HW1.out.lt HM.out.fr.size; omega
        have hgs2 : wr.heap.size ≠ g := by obtain ⟨C, hC, _⟩ := HM.out.body; have := lt_of_heap hC; omega
        have hsrc := src_scratch (sc := sc) (x := x) ((HY1.out.kept HM.out.fr (fun a e => by have e2 : (⟨gs, 0, none⟩ : Addr) = a := Option.some.inj e; rw [← e2]; exact hgg)).later hG) HL.out V.1 V.2.1 V.2.2 hx hsc inferInstance
        go_wp2_with fail
        generalize (wr.alloc (.cells #[.int .i64 (A[k].1 : Nat), .int .i64 (A[k].2 : Nat), .int .i64 1, .int .u64 h3] 77)) = W4 at *
        obtain ⟨C, hC, hCl, hCt⟩ := HM4.out.body
        obtain ⟨w5, C5, hcp, hC5, hC5l, hC5t, hF5⟩ := copy_step W4 g a C (seg B A[k].1 A[k].2) (if n = a then some ⟨g, 0, none⟩ else some ⟨g, a, none⟩) _ (n - a) (n - a) (y - x) (sc - x) hC (by rw [seg_length B _ _ V.2.1 (by rw [← HL.out]; exact V.2.2), hCl]; exact hfits) (fun h => by rw [seg_length B _ _ V.2.1 (by rw [← HL.out]; exact V.2.2)] at h; rw [if_neg (by omega)]) hsrc (by rw [seg_length B _ _ V.2.1 (by rw [← HL.out]; exact V.2.2)]; omega) (by rw [seg_length B _ _ V.2.1 (by rw [← HL.out]; exact V.2.2)]; omega)
        have HM5 : Hid (MV W1 g n start B (cat B (A.take (k + 1))) w5) := by
          refine ⟨⟨C5, hC5, by rw [hC5l, hCl], ?_⟩, HM4.out.fr.trans hF5 (fun _ _ x => x)⟩
          rw [cat_take_succ B A k hlt, List.length_append, ← Nat.add_assoc, ← HAT.out, hC5t, HAT.out, hCt, List.append_assoc]
        have HAT5 : Hid (a + (y - x) = start + (cat B (A.take (k + 1))).length) := by
          show _ = _
          rw [cat_take_succ B A k hlt, List.length_append, ← Nat.add_assoc, ← HAT.out, seg_length B _ _ V.2.1 (by rw [← HL.out]; exact V.2.2)]
          omega
        have o5 := hOq
        rw [← hF5.cell (World.block_lt_of_cell? _ _ hOq) hqg] at o5
        have p5 := hbx
        rw [← hF5.cell (World.block_lt_of_cell? _ _ hbx) hgs2] at p5
        have r5 := hby1
        rw [← hF5.cell (World.block_lt_of_cell? _ _ hby1) hgs2] at r5
        have hayn : a + (y - x) ≤ n := by omega
        clear hC hCl hCt hC5 hC5l hC5t hF5 hsrc hx hy V hfits c0 c1 c2 c3
        generalize A[k].1 = s1 at *
        generalize A[k].2 = e1 at *
        generalize wr.heap.size = bx at *
        go_region_held3 (fun z => z.cell? ⟨q, 4, none⟩ = some (.slice (some ⟨gs, 0, none⟩) (n - start) sc) ∧ z.cell? ⟨bx, 0, none⟩ = some (.int .i64 (s1 : Nat)) ∧ z.cell? ⟨bx, 1, none⟩ = some (.int .i64 (e1 : Nat))) (go_keep) (refine step_copy_run rfl (.tmp 33) (.tmp 46) 38 rfl _ _ _ _ rfl rfl hcp ?_)
        go_wp2_with fail
        go_roundw
        case rel => exact ⟨k + 1, a + (y - x), by go_num, by go_num, by omega, HAT5, HM5.out⟩
        case measure => simp [intOf]; omega
      · obtain rfl : k = A.length := by omega
        have e : A.take A.length = A := List.take_length
        have HM6 : Hid (MV W1 g n start B (cat B A) wr) := by have := HM.out; rw [e] at this; exact this
        clear e
        go_wp2_with fail
        go_end0
        obtain ⟨C, hC, h1, h2⟩ := HM6.out.body
        exact ⟨rfl, C, _, hC, h1, h2, HW1.out.kept HM6.out.fr hqg, (HF1.out.mono (fun _ _ e => .inr e)).trans (HM6.out.fr.mono (fun _ _ e => .inl e)) (fun _ _ x => x)⟩
end Go.Proofs.Qxb6608761a
