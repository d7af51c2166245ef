import Derived.Test.Qxb6608761aPairs
namespace Go.Proofs.Qxb6608761a
open Go.RowKit Cmp Go.BigFrame

/-- What the inner loop of mergeSortSpans keeps: the row that is read holds A, the row that is written holds C, whose first k elements are D. -/
structure MInner (W : World) (n ga gb g1 g2 : Nat) (A C D : List Sp) (k : Nat) (wr : World) : Prop where
  blkA : PairsBlk wr g1 A
  blkB : PairsBlk wr g2 C
  lenC : C.length = n
  pre : C.take k = D
  two : (g1 = ga ∧ g2 = gb) ∨ (g1 = gb ∧ g2 = ga)
  ne : ga ≠ gb
  ba : W.heap.size ≤ ga
  bb : W.heap.size ≤ gb
  below : Below W.heap.size W wr

namespace MInner
variable {W wr w1 : World} {n ga gb g1 g2 k : Nat} {A C D : List Sp}
theorem frame (h : MInner W n ga gb g1 g2 A C D k wr) (hf : Fr (fun _ => False) wr w1) : MInner W n ga gb g1 g2 A C D k w1 :=
  ⟨h.blkA.kept hf (fun f => f), h.blkB.kept hf (fun f => f), h.lenC, h.pre, h.two, h.ne, h.ba, h.bb, Fr.below h.below hf h.below.size (fun _ _ f => f.elim)⟩
theorem ne12 (h : MInner W n ga gb g1 g2 A C D k wr) : g1 ≠ g2 := by
  have := h.ne
  rcases h.two with ⟨a, b⟩ | ⟨a, b⟩ <;> omega
theorem b2 (h : MInner W n ga gb g1 g2 A C D k wr) : W.heap.size ≤ g2 := by
  have := h.ba
  have := h.bb
  rcases h.two with ⟨a, b⟩ | ⟨a, b⟩ <;> omega
theorem step {x : Sp} (_h : MInner W n ga gb g1 g2 A C D k wr) (h1 : MInner W n ga gb g1 g2 A C D k w1) (hk : k < n) :
    MInner W n ga gb g1 g2 A (C.set k x) (D ++ [x]) (k + 1) ((w1.setCell ⟨g2, k * 2, none⟩ (.int .i64 (x.1 : Nat))).setCell ⟨g2, k * 2 + 1, none⟩ (.int .i64 (x.2 : Nat))) := by
  have hF : Fr (fun b => b = g2) w1 ((w1.setCell ⟨g2, k * 2, none⟩ (.int .i64 (x.1 : Nat))).setCell ⟨g2, k * 2 + 1, none⟩ (.int .i64 (x.2 : Nat))) := (Fr.setCell (S := fun b => b = g2) w1 ⟨g2, k * 2, none⟩ _ rfl).trans (Fr.setCell (S := fun b => b = g2) _ ⟨g2, k * 2 + 1, none⟩ _ rfl) (fun _ _ x => x)
  refine ⟨h1.blkA.kept hF h1.ne12, h1.blkB.put k x (by rw [h1.lenC]; exact hk), by rw [List.length_set]; exact h1.lenC, ?_, h1.two, h1.ne, h1.ba, h1.bb, ?_⟩
  · rw [Merge.take_set C k x (by rw [h1.lenC]; exact hk), h1.pre]
  · exact Fr.below h1.below hF h1.below.size (fun b _ e => by rw [e]; exact h1.b2)
end MInner

/-- What the outer loop keeps. -/
structure MOuter (W : World) (B : List Int) (sp : List Sp) (ga gb g1 g2 wd : Nat) (A C : List Sp) (wr : World) : Prop where
  inn : MInner W sp.length ga gb g1 g2 A C [] 0 wr
  perm : A.Perm sp
  blocks : Merge.Blocks (leB B) wd A

theorem leB_trans (B : List Int) (a b c : Sp) (h1 : leB B a b = true) (h2 : leB B b c = true) : leB B a c = true := by
  unfold leB at *
  simp at *
  exact cmpL_trans _ _ _ h1 h2
theorem leB_total (B : List Int) (a b : Sp) : (leB B a b || leB B b a) = true := by
  unfold leB
  simp
  exact cmpL_total _ _

/-- The middle loop: the first j pairs of blocks are merged. -/
structure MMid (W : World) (B : List Int) (sp : List Sp) (ga gb g1 g2 wd j : Nat) (A C : List Sp) (wr : World) : Prop where
  inn : MInner W sp.length ga gb g1 g2 A C (Merge.upTo (leB B) wd A j) (min (2 * wd * j) sp.length) wr
  perm : A.Perm sp
  blocks : Merge.Blocks (leB B) wd A

theorem MOuter.mid {W wr : World} {B : List Int} {sp A C : List Sp} {ga gb g1 g2 wd : Nat} (h : MOuter W B sp ga gb g1 g2 wd A C wr) : MMid W B sp ga gb g1 g2 wd 0 A C wr :=
  ⟨by rw [Nat.mul_zero, Nat.zero_min]; exact h.inn, h.perm, h.blocks⟩

theorem msort_start {W W2 : World} {B : List Int} {sp : List Sp} (hblk : PairsBlk W2 W.heap.size sp) (hsz : W2.heap.size = W.heap.size + 1) (hbel : Below W.heap.size W W2) :
    MOuter W B sp W.heap.size (W.heap.size + 1) W.heap.size (W.heap.size + 1) 1 sp (List.replicate sp.length (0, 0)) (W2.alloc (.cells (flat2 (List.replicate sp.length (0, 0))).toArray 47)) := by
  refine ⟨⟨hblk.kept (S := fun _ => False) (Fr.alloc _ _) (fun f => f), ?_, by simp, rfl, .inl ⟨rfl, rfl⟩, by omega, Nat.le_refl _, by omega, hbel.alloc (by omega) _⟩, List.Perm.refl _, Merge.blocks_one _ _⟩
  have := heap_alloc_new W2 (.cells (flat2 (List.replicate sp.length (0, 0))).toArray 47)
  rw [hsz] at this
  exact this

theorem Bod.later {W W' : World} {v : Value} {B : List Int} (h : Bod W v B) (hb : Below W.heap.size W W') : Bod W' v B := by
  rcases h with ⟨rfl, rfl⟩ | ⟨g, rfl, hg⟩
  · exact .inl ⟨rfl, rfl⟩
  · exact .inr ⟨g, rfl, (hb.block g (lt_of_heap hg)).trans hg⟩

theorem MMid.lenA {W wr : World} {B : List Int} {sp A C : List Sp} {ga gb g1 g2 wd j : Nat} (h : MMid W B sp ga gb g1 g2 wd j A C wr) : A.length = sp.length := h.perm.length_eq

theorem MMid.done {W wr : World} {B : List Int} {sp A C : List Sp} {ga gb g1 g2 wd j : Nat} (h : MMid W B sp ga gb g1 g2 wd j A C wr) (hj : sp.length ≤ 2 * wd * j) : MOuter W B sp ga gb g2 g1 (wd * 2) C A wr := by
  have hl := h.lenA
  have e : C = Merge.upTo (leB B) wd A j := by
    have := h.inn.pre
    rwa [Nat.min_eq_right hj, List.take_of_length_le (by rw [h.inn.lenC]; exact Nat.le_refl _)] at this
  refine ⟨⟨h.inn.blkB, h.inn.blkA, hl, rfl, (by rcases h.inn.two with x | x; exact .inr ⟨x.2, x.1⟩; exact .inl ⟨x.2, x.1⟩), h.inn.ne, h.inn.ba, h.inn.bb, h.inn.below⟩, ?_, ?_⟩
  · rw [e]
    refine (Merge.upTo_perm (leB B) wd A j).trans ?_
    rw [List.take_of_length_le (by omega)]
    exact h.perm
  · rw [e, Nat.mul_comm]
    exact Merge.blocks_upTo (leB B) (leB_trans B) (leB_total B) wd A j (by omega) h.blocks

theorem MMid.next {W wr w1 : World} {B : List Int} {sp A C C' M : List Sp} {ga gb g1 g2 wd j k lo : Nat} (h : MMid W B sp ga gb g1 g2 wd j A C wr) (hlo : lo = 2 * wd * j) (hk : k = min (lo + 2 * wd) sp.length)
    (hi : MInner W sp.length ga gb g1 g2 A C' (Merge.upTo (leB B) wd A j ++ M) k w1) (hM : M = Merge.chunk (leB B) wd A j) : MMid W B sp ga gb g1 g2 wd (j + 1) A C' w1 := by
  refine ⟨?_, h.perm, h.blocks⟩
  rw [Merge.upTo_succ, ← hM]
  have e : min (2 * wd * (j + 1)) sp.length = k := by rw [hk, hlo, Nat.mul_add, Nat.mul_one]
  rw [e]
  exact hi

theorem inner_done {B : List Int} {A M c : List Sp} {p q mid hi : Nat} (hp : p = mid) (hq : q = hi) (h : M ++ (Merge.part A p mid).merge (Merge.part A q hi) (leB B) = c) : M = c := by
  rw [Merge.part_nil A p mid (by omega), Merge.part_nil A q hi (by omega), List.nil_merge, List.append_nil] at h
  exact h

set_option maxRecDepth 100000 in
set_option maxHeartbeats 20000000 in
theorem msort23 (v : Value) (B : List Int) (so : Option Addr) (cap : Nat) (sp : List Sp) (W : World) (hB : Bod W v B) (hs : SpansAt W so sp) (hval : ∀ x ∈ sp, x.1 ≤ x.2 ∧ x.2 ≤ B.length) (hBn : B.length ≤ 100000000) (hn : sp.length ≤ 1000000) :
    Calls Try.prog 23 #[v, .slice so sp.length cap, .bool true] W fun e W' => ∃ (g : Nat) (A : List Sp), e = .returned (.slice (some ⟨g, 0, none⟩) sp.length sp.length) ∧ PairsBlk W' g A ∧ A.Perm sp ∧ A.Pairwise (fun a b => leB B a b = true) ∧ Below W.heap.size W W' := by
  obtain ⟨W2, hcp, hblk, hsz, hbel⟩ := copy_spans W so cap sp hs
  have hmk := make_spans sp.length hn
  have HST : Hid (MOuter W B sp W.heap.size (W.heap.size + 1) W.heap.size (W.heap.size + 1) 1 sp (List.replicate sp.length (0, 0)) (W2.alloc (.cells (flat2 (List.replicate sp.length (0, 0))).toArray 47))) := msort_start hblk hsz hbel
  have HBod : Hid (Bod W v B) := hB
  have HV : Hid (∀ x ∈ sp, x.1 ≤ x.2 ∧ x.2 ≤ B.length) := hval
  clear hblk hbel hs hB hval
  go_enter Try.func23, Try.ntmps23
  go_wp2_with fail
  clear hcp hmk hsz
  go_loopw [7, 8, 9] (fun a b t wr => ∃ (g1 g2 wd : Nat) (A C : List Sp), a = .slice (some ⟨g1, 0, none⟩) sp.length sp.length ∧ b = .slice (some ⟨g2, 0, none⟩) sp.length sp.length ∧ t = .int .i64 wd ∧ 1 ≤ wd ∧ wd ≤ 2 * sp.length + 2 ∧ MOuter W B sp W.heap.size (W.heap.size + 1) g1 g2 wd A C wr) (fun _ _ t _ => 2 * sp.length + 2 - (intOf t).toNat)
  case atStart => exact ⟨_, _, 1, _, _, rfl, rfl, rfl, Nat.le_refl _, by omega, HST.out⟩
  case round =>
    obtain ⟨g1, g2, wd, A, C, rfl, rfl, rfl, hw1, hw2, HO⟩ := hrel
    have HO0 : Hid (MOuter W B sp W.heap.size (W.heap.size + 1) g1 g2 wd A C wr) := HO
    have HLA : Hid (A.length = sp.length) := HO.perm.length_eq
    have HVA : Hid (∀ x ∈ A, x.1 ≤ x.2 ∧ x.2 ≤ B.length) := fun x hx => HV.out x (HO.perm.mem_iff.1 hx)
    clear HO HST
    by_cases hw : wd < sp.length
    · go_wp2_with fail
      go_loopw [10] (fun t wr => ∃ (lo j : Nat) (C : List Sp), t = .int .i64 lo ∧ Hid (lo = 2 * wd * j) ∧ lo ≤ sp.length + 2 * wd ∧ MMid W B sp W.heap.size (W.heap.size + 1) g1 g2 wd j A C wr) (fun t _ => sp.length + 2 * wd - (intOf t).toNat)
      case atStart => exact ⟨0, 0, C, rfl, rfl, by omega, HO0.out.mid⟩
      case round =>
        obtain ⟨lo, j, C0, rfl, HLO, hlo, HM⟩ := hrel
        have HM0 : Hid (MMid W B sp W.heap.size (W.heap.size + 1) g1 g2 wd j A C0 wr) := HM
        clear HM HO0
        by_cases hl : lo < sp.length
        · have HMI : Hid (MInner W sp.length W.heap.size (W.heap.size + 1) g1 g2 A C0 (Merge.upTo (leB B) wd A j) lo wr) := by
            have := HM0.out.inn
            rw [← HLO.out, Nat.min_eq_left (by omega)] at this
            exact this
          by_cases h1 : sp.length < lo + wd
          · go_wp2_with fail
            have hmid : sp.length ≤ sp.length := by omega
            have hhi : sp.length ≤ sp.length := by omega
            have HCH : Hid (Merge.chunk (leB B) wd A j = (Merge.part A lo (sp.length)).merge (Merge.part A (sp.length) (sp.length)) (leB B)) := Merge.chunk_parts (leB B) wd A j lo (sp.length) (sp.length) HLO.out (by rw [HLA.out]; omega) (by rw [HLA.out]; omega) (by rw [HLA.out]; omega)
            go_loopw [13, 14, 15] (fun tp tq tk wr => ∃ (p q k : Nat) (C : List Sp) (M : List Sp), tp = .int .i64 p ∧ tq = .int .i64 q ∧ tk = .int .i64 k ∧ lo ≤ p ∧ p ≤ sp.length ∧ sp.length ≤ q ∧ q ≤ sp.length ∧ Hid (k + sp.length = p + q) ∧ MInner W sp.length W.heap.size (W.heap.size + 1) g1 g2 A C (Merge.upTo (leB B) wd A j ++ M) k wr ∧ Hid (M ++ (Merge.part A p (sp.length)).merge (Merge.part A q (sp.length)) (leB B) = Merge.chunk (leB B) wd A j)) (fun _ _ tk _ => sp.length - (intOf tk).toNat)
            case atStart => exact ⟨lo, sp.length, lo, C0, [], rfl, by go_num, rfl, Nat.le_refl _, by omega, Nat.le_refl _, by omega, show lo + (sp.length) = lo + (sp.length) from rfl, by rw [List.append_nil]; exact HMI.out, HCH.out.symm⟩
            case round =>
              obtain ⟨p, q, k, C, M, rfl, rfl, rfl, hp1, hp2, hq1, hq2, HKE, HI1, HMM⟩ := hrel
              have HI0 : Hid (MInner W sp.length W.heap.size (W.heap.size + 1) g1 g2 A C (Merge.upTo (leB B) wd A j ++ M) k wr) := HI1
              have hkb : k ≤ sp.length := by have := HKE.out; omega
              have hne := HI0.out.ne12
              clear HI1
              by_cases hkh : k < sp.length
              · have hkn : k < sp.length := by omega
                have hkC : k < C.length := by rw [HI0.out.lenC]; exact hkn
                by_cases hqh : sp.length ≤ q
                · have hpm : p < sp.length := by have := HKE.out; omega
                  have hpA : p < A.length := by rw [HLA.out]; omega
                  have HML : Hid ((Merge.part A p (sp.length)).merge (Merge.part A q (sp.length)) (leB B) = A[p]'hpA :: (Merge.part A (p + 1) (sp.length)).merge (Merge.part A q (sp.length)) (leB B)) := Merge.merge_left (leB B) A p q (sp.length) (sp.length) (by rw [HLA.out]; exact hmid) (by rw [HLA.out]; exact hhi) hpm (.inl hqh)
                  have hge : decide (((sp.length : Nat) : Int) ≤ (q : Int)) = true := by simp; omega
                  go_wp2
                  go_quiet (fail)
                  have HG : Fr (fun _ => False) wr (wr.drewN nq) := Fr.drewN _ _
                  have HI2 := HI0.out.frame HG
                  have c0 := HI2.blkA.c0 p hpA
                  have c1 := HI2.blkA.c1 p hpA
                  have d0 := HI2.blkB.c0 k hkC
                  have d1 := HI2.blkB.c1 k hkC
                  have f0 := HI2.blkB.free (k * 2)
                  have f1 := HI2.blkB.free (k * 2 + 1)
                  have HI3 : Hid (MInner W sp.length W.heap.size (W.heap.size + 1) g1 g2 A C (Merge.upTo (leB B) wd A j ++ M) k (wr.drewN nq)) := HI2
                  clear HI2 HG
                  go_wp2
                  go_roundw
                  case rel => exact ⟨p + 1, q, k + 1, _, M ++ [A[p]'hpA], by go_num, rfl, by go_num, by omega, by omega, hq1, hq2, (by have := HKE.out; show k + 1 + (sp.length) = p + 1 + q; omega), by rw [← List.append_assoc]; exact HI0.out.step HI3.out hkn, by have h1 := HMM.out; rw [HML.out] at h1; show _ = _; rw [List.append_assoc]; exact h1⟩
                  case measure => simp [intOf]; omega
                · exact absurd hqh (by omega)
              · go_wp2
                go_roundw
                case rel => exact ⟨lo + 2 * wd, j + 1, C, by go_num, by show _ = _; rw [HLO.out, Nat.mul_add, Nat.mul_one], by omega, HM0.out.next HLO.out (by omega) HI0.out (inner_done (by have := HKE.out; omega) (by have := HKE.out; omega) HMM.out)⟩
                case measure => simp [intOf]; omega
          · by_cases h2 : sp.length < lo + wd + wd
            · go_wp2_with fail
              have hmid : (lo + wd) ≤ sp.length := by omega
              have hhi : sp.length ≤ sp.length := by omega
              have HCH : Hid (Merge.chunk (leB B) wd A j = (Merge.part A lo ((lo + wd))).merge (Merge.part A ((lo + wd)) (sp.length)) (leB B)) := Merge.chunk_parts (leB B) wd A j lo ((lo + wd)) (sp.length) HLO.out (by rw [HLA.out]; omega) (by rw [HLA.out]; omega) (by rw [HLA.out]; omega)
              go_loopw [13, 14, 15] (fun tp tq tk wr => ∃ (p q k : Nat) (C : List Sp) (M : List Sp), tp = .int .i64 p ∧ tq = .int .i64 q ∧ tk = .int .i64 k ∧ lo ≤ p ∧ p ≤ (lo + wd) ∧ (lo + wd) ≤ q ∧ q ≤ sp.length ∧ Hid (k + (lo + wd) = p + q) ∧ MInner W sp.length W.heap.size (W.heap.size + 1) g1 g2 A C (Merge.upTo (leB B) wd A j ++ M) k wr ∧ Hid (M ++ (Merge.part A p ((lo + wd))).merge (Merge.part A q (sp.length)) (leB B) = Merge.chunk (leB B) wd A j)) (fun _ _ tk _ => sp.length - (intOf tk).toNat)
              case atStart => exact ⟨lo, (lo + wd), lo, C0, [], rfl, by go_num, rfl, Nat.le_refl _, by omega, Nat.le_refl _, by omega, show lo + ((lo + wd)) = lo + ((lo + wd)) from rfl, by rw [List.append_nil]; exact HMI.out, HCH.out.symm⟩
              case round =>
                obtain ⟨p, q, k, C, M, rfl, rfl, rfl, hp1, hp2, hq1, hq2, HKE, HI1, HMM⟩ := hrel
                have HI0 : Hid (MInner W sp.length W.heap.size (W.heap.size + 1) g1 g2 A C (Merge.upTo (leB B) wd A j ++ M) k wr) := HI1
                have hkb : k ≤ sp.length := by have := HKE.out; omega
                have hne := HI0.out.ne12
                clear HI1
                by_cases hkh : k < sp.length
                · have hkn : k < sp.length := by omega
                  have hkC : k < C.length := by rw [HI0.out.lenC]; exact hkn
                  by_cases hqh : sp.length ≤ q
                  · have hpm : p < (lo + wd) := by have := HKE.out; omega
                    have hpA : p < A.length := by rw [HLA.out]; omega
                    have HML : Hid ((Merge.part A p ((lo + wd))).merge (Merge.part A q (sp.length)) (leB B) = A[p]'hpA :: (Merge.part A (p + 1) ((lo + wd))).merge (Merge.part A q (sp.length)) (leB B)) := Merge.merge_left (leB B) A p q ((lo + wd)) (sp.length) (by rw [HLA.out]; exact hmid) (by rw [HLA.out]; exact hhi) hpm (.inl hqh)
                    have hge : decide (((sp.length : Nat) : Int) ≤ (q : Int)) = true := by simp; omega
                    go_wp2
                    go_quiet (fail)
                    have HG : Fr (fun _ => False) wr (wr.drewN nq) := Fr.drewN _ _
                    have HI2 := HI0.out.frame HG
                    have c0 := HI2.blkA.c0 p hpA
                    have c1 := HI2.blkA.c1 p hpA
                    have d0 := HI2.blkB.c0 k hkC
                    have d1 := HI2.blkB.c1 k hkC
                    have f0 := HI2.blkB.free (k * 2)
                    have f1 := HI2.blkB.free (k * 2 + 1)
                    have HI3 : Hid (MInner W sp.length W.heap.size (W.heap.size + 1) g1 g2 A C (Merge.upTo (leB B) wd A j ++ M) k (wr.drewN nq)) := HI2
                    clear HI2 HG
                    go_wp2
                    go_roundw
                    case rel => exact ⟨p + 1, q, k + 1, _, M ++ [A[p]'hpA], by go_num, rfl, by go_num, by omega, by omega, hq1, hq2, (by have := HKE.out; show k + 1 + ((lo + wd)) = p + 1 + q; omega), by rw [← List.append_assoc]; exact HI0.out.step HI3.out hkn, by have h1 := HMM.out; rw [HML.out] at h1; show _ = _; rw [List.append_assoc]; exact h1⟩
                    case measure => simp [intOf]; omega
                  · have hqA : q < A.length := by rw [HLA.out]; omega
                    have hge : decide (((sp.length : Nat) : Int) ≤ (q : Int)) = false := by simp; omega
                    by_cases hpm : p < (lo + wd)
                    · have hpA : p < A.length := by rw [HLA.out]; omega
                      have V1 := HVA.out _ (List.getElem_mem hpA)
                      have V2 := HVA.out _ (List.getElem_mem hqA)
                      have SL : Hid (∀ x, Gr wr x → Calls Try.prog 36 #[v, .agg #[.int .i64 (A[p].1 : Nat), .int .i64 (A[p].2 : Nat)], .agg #[.int .i64 (A[q].1 : Nat), .int .i64 (A[q].2 : Nat)], .bool true] x fun e W' => e = .returned (.bool (leB B A[p] A[q])) ∧ Gr x W') := fun x hx => span36 v B _ _ _ _ x (HBod.out.later (Fr.below HI0.out.below hx.fr HI0.out.below.size (fun _ _ f => f.elim))) V1.1 V1.2 V2.1 V2.2 hBn
                      have hlt : decide ((p : Int) < ((lo : Int) + (wd : Int))) = true := by simp; omega
                      have c0 := fun n os => cell_grown HI0.out.blkA.lt (HI0.out.blkA.c0 p hpA) n os
                      have c1 := fun n os => cell_grown HI0.out.blkA.lt (HI0.out.blkA.c1 p hpA) n os
                      have e0 := fun n os => cell_grown HI0.out.blkA.lt (HI0.out.blkA.c0 q hqA) n os
                      have e1 := fun n os => cell_grown HI0.out.blkA.lt (HI0.out.blkA.c1 q hqA) n os
                      clear V1 V2
                      have HLE : Hid (leB B A[p] A[q] = leB B A[p] A[q]) := rfl
                      generalize hle : leB B A[p] A[q] = le0 at HLE SL
                      have HLQ : Hid (leB B A[p] A[q] = le0) := hle
                      clear hle HLE
                      cases le0 with
                      | true =>
                        have HML : Hid ((Merge.part A p ((lo + wd))).merge (Merge.part A q (sp.length)) (leB B) = A[p]'hpA :: (Merge.part A (p + 1) ((lo + wd))).merge (Merge.part A q (sp.length)) (leB B)) := Merge.merge_left (leB B) A p q ((lo + wd)) (sp.length) (by rw [HLA.out]; exact hmid) (by rw [HLA.out]; exact hhi) hpm (.inr ⟨by omega, HLQ.out⟩)
                        go_wp2
                        refine wp_region_quiet_grown (by kernel_rfl) (by kernel_rfl) ?_
                        repeat (go_big_quiet_step ((go_at_call 36; exact Calls.grown_of (SL.out _ (Gr.gd _ _ _)))))
                        refine wpQuiet_nil ?_
                        rintro _ ⟨⟨nq, osq⟩, rfl⟩
                        clear c0 c1 e0 e1
                        have HG : Fr (fun _ => False) wr (Go.Sort.grow (wr.drewN nq) osq) := (Gr.gd _ _ _).fr
                        generalize Go.Sort.grow (wr.drewN nq) osq = wy at *
                        have HI2 := HI0.out.frame HG
                        have c0 := HI2.blkA.c0 p hpA
                        have c1 := HI2.blkA.c1 p hpA
                        have d0 := HI2.blkB.c0 k hkC
                        have d1 := HI2.blkB.c1 k hkC
                        have f0 := HI2.blkB.free (k * 2)
                        have f1 := HI2.blkB.free (k * 2 + 1)
                        have HI3 : Hid (MInner W sp.length W.heap.size (W.heap.size + 1) g1 g2 A C (Merge.upTo (leB B) wd A j ++ M) k wy) := HI2
                        clear HI2 HG
                        go_wp2
                        go_roundw
                        case rel => exact ⟨p + 1, q, k + 1, _, M ++ [A[p]'hpA], by go_num, rfl, by go_num, by omega, by omega, hq1, hq2, (by have := HKE.out; show k + 1 + ((lo + wd)) = p + 1 + q; omega), by rw [← List.append_assoc]; exact HI0.out.step HI3.out hkn, by have h1 := HMM.out; rw [HML.out] at h1; show _ = _; rw [List.append_assoc]; exact h1⟩
                        case measure => simp [intOf]; omega
                      | false =>
                        have HMR : Hid ((Merge.part A p ((lo + wd))).merge (Merge.part A q (sp.length)) (leB B) = A[q]'hqA :: (Merge.part A p ((lo + wd))).merge (Merge.part A (q + 1) (sp.length)) (leB B)) := Merge.merge_rightStep (leB B) A p q ((lo + wd)) (sp.length) (by rw [HLA.out]; exact hmid) (by rw [HLA.out]; exact hhi) (by omega) (.inr ⟨hpm, HLQ.out⟩)
                        go_wp2
                        refine wp_region_quiet_grown (by kernel_rfl) (by kernel_rfl) ?_
                        repeat (go_big_quiet_step ((go_at_call 36; exact Calls.grown_of (SL.out _ (Gr.gd _ _ _)))))
                        refine wpQuiet_nil ?_
                        rintro _ ⟨⟨nq, osq⟩, rfl⟩
                        clear c0 c1 e0 e1
                        have HG : Fr (fun _ => False) wr (Go.Sort.grow (wr.drewN nq) osq) := (Gr.gd _ _ _).fr
                        generalize Go.Sort.grow (wr.drewN nq) osq = wy at *
                        have HI2 := HI0.out.frame HG
                        have c0 := HI2.blkA.c0 q hqA
                        have c1 := HI2.blkA.c1 q hqA
                        have d0 := HI2.blkB.c0 k hkC
                        have d1 := HI2.blkB.c1 k hkC
                        have f0 := HI2.blkB.free (k * 2)
                        have f1 := HI2.blkB.free (k * 2 + 1)
                        have HI3 : Hid (MInner W sp.length W.heap.size (W.heap.size + 1) g1 g2 A C (Merge.upTo (leB B) wd A j ++ M) k wy) := HI2
                        clear HI2 HG
                        go_wp2
                        go_roundw
                        case rel => exact ⟨p, q + 1, k + 1, _, M ++ [A[q]'hqA], rfl, by go_num, by go_num, by omega, by omega, by omega, by omega, (by have := HKE.out; show k + 1 + ((lo + wd)) = p + (q + 1); omega), by rw [← List.append_assoc]; exact HI0.out.step HI3.out hkn, by have h1 := HMM.out; rw [HMR.out] at h1; show _ = _; rw [List.append_assoc]; exact h1⟩
                        case measure => simp [intOf]; omega
                    · have hlt : decide ((p : Int) < ((lo : Int) + (wd : Int))) = false := by simp; omega
                      have HMR : Hid ((Merge.part A p ((lo + wd))).merge (Merge.part A q (sp.length)) (leB B) = A[q]'hqA :: (Merge.part A p ((lo + wd))).merge (Merge.part A (q + 1) (sp.length)) (leB B)) := Merge.merge_rightStep (leB B) A p q ((lo + wd)) (sp.length) (by rw [HLA.out]; exact hmid) (by rw [HLA.out]; exact hhi) (by omega) (.inl (by omega))
                      go_wp2
                      go_quiet (fail)
                      have HG : Fr (fun _ => False) wr (wr.drewN nq) := Fr.drewN _ _
                      have HI2 := HI0.out.frame HG
                      have c0 := HI2.blkA.c0 q hqA
                      have c1 := HI2.blkA.c1 q hqA
                      have d0 := HI2.blkB.c0 k hkC
                      have d1 := HI2.blkB.c1 k hkC
                      have f0 := HI2.blkB.free (k * 2)
                      have f1 := HI2.blkB.free (k * 2 + 1)
                      have HI3 : Hid (MInner W sp.length W.heap.size (W.heap.size + 1) g1 g2 A C (Merge.upTo (leB B) wd A j ++ M) k (wr.drewN nq)) := HI2
                      clear HI2 HG
                      go_wp2
                      go_roundw
                      case rel => exact ⟨p, q + 1, k + 1, _, M ++ [A[q]'hqA], rfl, by go_num, by go_num, by omega, by omega, by omega, by omega, (by have := HKE.out; show k + 1 + ((lo + wd)) = p + (q + 1); omega), by rw [← List.append_assoc]; exact HI0.out.step HI3.out hkn, by have h1 := HMM.out; rw [HMR.out] at h1; show _ = _; rw [List.append_assoc]; exact h1⟩
                      case measure => simp [intOf]; omega
                · go_wp2
                  go_roundw
                  case rel => exact ⟨lo + 2 * wd, j + 1, C, by go_num, by show _ = _; rw [HLO.out, Nat.mul_add, Nat.mul_one], by omega, HM0.out.next HLO.out (by omega) HI0.out (inner_done (by have := HKE.out; omega) (by have := HKE.out; omega) HMM.out)⟩
                  case measure => simp [intOf]; omega
            · go_wp2_with fail
              have hmid : (lo + wd) ≤ sp.length := by omega
              have hhi : (lo + wd + wd) ≤ sp.length := by omega
              have HCH : Hid (Merge.chunk (leB B) wd A j = (Merge.part A lo ((lo + wd))).merge (Merge.part A ((lo + wd)) ((lo + wd + wd))) (leB B)) := Merge.chunk_parts (leB B) wd A j lo ((lo + wd)) ((lo + wd + wd)) HLO.out (by rw [HLA.out]; omega) (by rw [HLA.out]; omega) (by rw [HLA.out]; omega)
              go_loopw [13, 14, 15] (fun tp tq tk wr => ∃ (p q k : Nat) (C : List Sp) (M : List Sp), tp = .int .i64 p ∧ tq = .int .i64 q ∧ tk = .int .i64 k ∧ lo ≤ p ∧ p ≤ (lo + wd) ∧ (lo + wd) ≤ q ∧ q ≤ (lo + wd + wd) ∧ Hid (k + (lo + wd) = p + q) ∧ MInner W sp.length W.heap.size (W.heap.size + 1) g1 g2 A C (Merge.upTo (leB B) wd A j ++ M) k wr ∧ Hid (M ++ (Merge.part A p ((lo + wd))).merge (Merge.part A q ((lo + wd + wd))) (leB B) = Merge.chunk (leB B) wd A j)) (fun _ _ tk _ => (lo + wd + wd) - (intOf tk).toNat)
              case atStart => exact ⟨lo, (lo + wd), lo, C0, [], rfl, by go_num, rfl, Nat.le_refl _, by omega, Nat.le_refl _, by omega, show lo + ((lo + wd)) = lo + ((lo + wd)) from rfl, by rw [List.append_nil]; exact HMI.out, HCH.out.symm⟩
              case round =>
                obtain ⟨p, q, k, C, M, rfl, rfl, rfl, hp1, hp2, hq1, hq2, HKE, HI1, HMM⟩ := hrel
                have HI0 : Hid (MInner W sp.length W.heap.size (W.heap.size + 1) g1 g2 A C (Merge.upTo (leB B) wd A j ++ M) k wr) := HI1
                have hkb : k ≤ (lo + wd + wd) := by have := HKE.out; omega
                have hne := HI0.out.ne12
                clear HI1
                by_cases hkh : k < (lo + wd + wd)
                · have hkn : k < sp.length := by omega
                  have hkC : k < C.length := by rw [HI0.out.lenC]; exact hkn
                  by_cases hqh : (lo + wd + wd) ≤ q
                  · have hpm : p < (lo + wd) := by have := HKE.out; omega
                    have hpA : p < A.length := by rw [HLA.out]; omega
                    have HML : Hid ((Merge.part A p ((lo + wd))).merge (Merge.part A q ((lo + wd + wd))) (leB B) = A[p]'hpA :: (Merge.part A (p + 1) ((lo + wd))).merge (Merge.part A q ((lo + wd + wd))) (leB B)) := Merge.merge_left (leB B) A p q ((lo + wd)) ((lo + wd + wd)) (by rw [HLA.out]; exact hmid) (by rw [HLA.out]; exact hhi) hpm (.inl hqh)
                    have hge : decide (((lo : Int) + (wd : Int) + (wd : Int)) ≤ (q : Int)) = true := by simp; omega
                    go_wp2
                    go_quiet (fail)
                    have HG : Fr (fun _ => False) wr (wr.drewN nq) := Fr.drewN _ _
                    have HI2 := HI0.out.frame HG
                    have c0 := HI2.blkA.c0 p hpA
                    have c1 := HI2.blkA.c1 p hpA
                    have d0 := HI2.blkB.c0 k hkC
                    have d1 := HI2.blkB.c1 k hkC
                    have f0 := HI2.blkB.free (k * 2)
                    have f1 := HI2.blkB.free (k * 2 + 1)
                    have HI3 : Hid (MInner W sp.length W.heap.size (W.heap.size + 1) g1 g2 A C (Merge.upTo (leB B) wd A j ++ M) k (wr.drewN nq)) := HI2
                    clear HI2 HG
                    go_wp2
                    go_roundw
                    case rel => exact ⟨p + 1, q, k + 1, _, M ++ [A[p]'hpA], by go_num, rfl, by go_num, by omega, by omega, hq1, hq2, (by have := HKE.out; show k + 1 + ((lo + wd)) = p + 1 + q; omega), by rw [← List.append_assoc]; exact HI0.out.step HI3.out hkn, by have h1 := HMM.out; rw [HML.out] at h1; show _ = _; rw [List.append_assoc]; exact h1⟩
                    case measure => simp [intOf]; omega
                  · have hqA : q < A.length := by rw [HLA.out]; omega
                    have hge : decide (((lo : Int) + (wd : Int) + (wd : Int)) ≤ (q : Int)) = false := by simp; omega
                    by_cases hpm : p < (lo + wd)
                    · have hpA : p < A.length := by rw [HLA.out]; omega
                      have V1 := HVA.out _ (List.getElem_mem hpA)
                      have V2 := HVA.out _ (List.getElem_mem hqA)
                      have SL : Hid (∀ x, Gr wr x → Calls Try.prog 36 #[v, .agg #[.int .i64 (A[p].1 : Nat), .int .i64 (A[p].2 : Nat)], .agg #[.int .i64 (A[q].1 : Nat), .int .i64 (A[q].2 : Nat)], .bool true] x fun e W' => e = .returned (.bool (leB B A[p] A[q])) ∧ Gr x W') := fun x hx => span36 v B _ _ _ _ x (HBod.out.later (Fr.below HI0.out.below hx.fr HI0.out.below.size (fun _ _ f => f.elim))) V1.1 V1.2 V2.1 V2.2 hBn
                      have hlt : decide ((p : Int) < ((lo : Int) + (wd : Int))) = true := by simp; omega
                      have c0 := fun n os => cell_grown HI0.out.blkA.lt (HI0.out.blkA.c0 p hpA) n os
                      have c1 := fun n os => cell_grown HI0.out.blkA.lt (HI0.out.blkA.c1 p hpA) n os
                      have e0 := fun n os => cell_grown HI0.out.blkA.lt (HI0.out.blkA.c0 q hqA) n os
                      have e1 := fun n os => cell_grown HI0.out.blkA.lt (HI0.out.blkA.c1 q hqA) n os
                      clear V1 V2
                      have HLE : Hid (leB B A[p] A[q] = leB B A[p] A[q]) := rfl
                      generalize hle : leB B A[p] A[q] = le0 at HLE SL
                      have HLQ : Hid (leB B A[p] A[q] = le0) := hle
                      clear hle HLE
                      cases le0 with
                      | true =>
                        have HML : Hid ((Merge.part A p ((lo + wd))).merge (Merge.part A q ((lo + wd + wd))) (leB B) = A[p]'hpA :: (Merge.part A (p + 1) ((lo + wd))).merge (Merge.part A q ((lo + wd + wd))) (leB B)) := Merge.merge_left (leB B) A p q ((lo + wd)) ((lo + wd + wd)) (by rw [HLA.out]; exact hmid) (by rw [HLA.out]; exact hhi) hpm (.inr ⟨by omega, HLQ.out⟩)
                        go_wp2
                        refine wp_region_quiet_grown (by kernel_rfl) (by kernel_rfl) ?_
                        repeat (go_big_quiet_step ((go_at_call 36; exact Calls.grown_of (SL.out _ (Gr.gd _ _ _)))))
                        refine wpQuiet_nil ?_
                        rintro _ ⟨⟨nq, osq⟩, rfl⟩
                        clear c0 c1 e0 e1
                        have HG : Fr (fun _ => False) wr (Go.Sort.grow (wr.drewN nq) osq) := (Gr.gd _ _ _).fr
                        generalize Go.Sort.grow (wr.drewN nq) osq = wy at *
                        have HI2 := HI0.out.frame HG
                        have c0 := HI2.blkA.c0 p hpA
                        have c1 := HI2.blkA.c1 p hpA
                        have d0 := HI2.blkB.c0 k hkC
                        have d1 := HI2.blkB.c1 k hkC
                        have f0 := HI2.blkB.free (k * 2)
                        have f1 := HI2.blkB.free (k * 2 + 1)
                        have HI3 : Hid (MInner W sp.length W.heap.size (W.heap.size + 1) g1 g2 A C (Merge.upTo (leB B) wd A j ++ M) k wy) := HI2
                        clear HI2 HG
                        go_wp2
                        go_roundw
                        case rel => exact ⟨p + 1, q, k + 1, _, M ++ [A[p]'hpA], by go_num, rfl, by go_num, by omega, by omega, hq1, hq2, (by have := HKE.out; show k + 1 + ((lo + wd)) = p + 1 + q; omega), by rw [← List.append_assoc]; exact HI0.out.step HI3.out hkn, by have h1 := HMM.out; rw [HML.out] at h1; show _ = _; rw [List.append_assoc]; exact h1⟩
                        case measure => simp [intOf]; omega
                      | false =>
                        have HMR : Hid ((Merge.part A p ((lo + wd))).merge (Merge.part A q ((lo + wd + wd))) (leB B) = A[q]'hqA :: (Merge.part A p ((lo + wd))).merge (Merge.part A (q + 1) ((lo + wd + wd))) (leB B)) := Merge.merge_rightStep (leB B) A p q ((lo + wd)) ((lo + wd + wd)) (by rw [HLA.out]; exact hmid) (by rw [HLA.out]; exact hhi) (by omega) (.inr ⟨hpm, HLQ.out⟩)
                        go_wp2
                        refine wp_region_quiet_grown (by kernel_rfl) (by kernel_rfl) ?_
                        repeat (go_big_quiet_step ((go_at_call 36; exact Calls.grown_of (SL.out _ (Gr.gd _ _ _)))))
                        refine wpQuiet_nil ?_
                        rintro _ ⟨⟨nq, osq⟩, rfl⟩
                        clear c0 c1 e0 e1
                        have HG : Fr (fun _ => False) wr (Go.Sort.grow (wr.drewN nq) osq) := (Gr.gd _ _ _).fr
                        generalize Go.Sort.grow (wr.drewN nq) osq = wy at *
                        have HI2 := HI0.out.frame HG
                        have c0 := HI2.blkA.c0 q hqA
                        have c1 := HI2.blkA.c1 q hqA
                        have d0 := HI2.blkB.c0 k hkC
                        have d1 := HI2.blkB.c1 k hkC
                        have f0 := HI2.blkB.free (k * 2)
                        have f1 := HI2.blkB.free (k * 2 + 1)
                        have HI3 : Hid (MInner W sp.length W.heap.size (W.heap.size + 1) g1 g2 A C (Merge.upTo (leB B) wd A j ++ M) k wy) := HI2
                        clear HI2 HG
                        go_wp2
                        go_roundw
                        case rel => exact ⟨p, q + 1, k + 1, _, M ++ [A[q]'hqA], rfl, by go_num, by go_num, by omega, by omega, by omega, by omega, (by have := HKE.out; show k + 1 + ((lo + wd)) = p + (q + 1); omega), by rw [← List.append_assoc]; exact HI0.out.step HI3.out hkn, by have h1 := HMM.out; rw [HMR.out] at h1; show _ = _; rw [List.append_assoc]; exact h1⟩
                        case measure => simp [intOf]; omega
                    · have hlt : decide ((p : Int) < ((lo : Int) + (wd : Int))) = false := by simp; omega
                      have HMR : Hid ((Merge.part A p ((lo + wd))).merge (Merge.part A q ((lo + wd + wd))) (leB B) = A[q]'hqA :: (Merge.part A p ((lo + wd))).merge (Merge.part A (q + 1) ((lo + wd + wd))) (leB B)) := Merge.merge_rightStep (leB B) A p q ((lo + wd)) ((lo + wd + wd)) (by rw [HLA.out]; exact hmid) (by rw [HLA.out]; exact hhi) (by omega) (.inl (by omega))
                      go_wp2
                      go_quiet (fail)
                      have HG : Fr (fun _ => False) wr (wr.drewN nq) := Fr.drewN _ _
                      have HI2 := HI0.out.frame HG
                      have c0 := HI2.blkA.c0 q hqA
                      have c1 := HI2.blkA.c1 q hqA
                      have d0 := HI2.blkB.c0 k hkC
                      have d1 := HI2.blkB.c1 k hkC
                      have f0 := HI2.blkB.free (k * 2)
                      have f1 := HI2.blkB.free (k * 2 + 1)
                      have HI3 : Hid (MInner W sp.length W.heap.size (W.heap.size + 1) g1 g2 A C (Merge.upTo (leB B) wd A j ++ M) k (wr.drewN nq)) := HI2
                      clear HI2 HG
                      go_wp2
                      go_roundw
                      case rel => exact ⟨p, q + 1, k + 1, _, M ++ [A[q]'hqA], rfl, by go_num, by go_num, by omega, by omega, by omega, by omega, (by have := HKE.out; show k + 1 + ((lo + wd)) = p + (q + 1); omega), by rw [← List.append_assoc]; exact HI0.out.step HI3.out hkn, by have h1 := HMM.out; rw [HMR.out] at h1; show _ = _; rw [List.append_assoc]; exact h1⟩
                      case measure => simp [intOf]; omega
                · go_wp2
                  go_roundw
                  case rel => exact ⟨lo + 2 * wd, j + 1, C, by go_num, by show _ = _; rw [HLO.out, Nat.mul_add, Nat.mul_one], by omega, HM0.out.next HLO.out (by omega) HI0.out (inner_done (by have := HKE.out; omega) (by have := HKE.out; omega) HMM.out)⟩
                  case measure => simp [intOf]; omega
        · have HD := HM0.out.done (by rw [← HLO.out]; omega)
          have HD0 : Hid (MOuter W B sp W.heap.size (W.heap.size + 1) g2 g1 (wd * 2) C0 A wr) := HD
          clear HD
          go_wp2_with fail
          go_roundw
          case rel => exact ⟨g2, g1, wd * 2, C0, A, rfl, rfl, by go_num, by omega, by omega, HD0.out⟩
          case measure => simp [intOf]; omega
    · go_wp2_with fail
      go_ret
      exact ⟨g1, A, rfl, HO0.out.inn.blkA, HO0.out.perm, Merge.blocks_all (leB B) wd A HO0.out.blocks (by rw [HLA.out]; omega), HO0.out.inn.below⟩
end Go.Proofs.Qxb6608761a
