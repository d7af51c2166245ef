import Derived.Test.Qxb6608761aMoveB
namespace Go.Proofs.Qxb6608761a
open Go.RowKit Cmp

set_option maxRecDepth 100000 in
set_option maxHeartbeats 2000000 in
theorem move34_nil (q go cap : Nat) (A : List Sp) (vo vp : Value) (ip : Int) (W : World) (hO : OBlk W q vo vp ip (.slice none 0 0)) (hA : ARow W go A) (hval : ∀ x ∈ A, x.1 ≤ x.2 ∧ x.2 ≤ 0) (hgoq : go ≠ q) (hAn : A.length ≤ 1000000) :
    Calls Try.prog 34 #[.pointer (some ⟨q, 0, none⟩), .slice none 0 0, .int .i64 0, .slice (some ⟨go, 0, none⟩) A.length cap] W fun e W' => e = .returned (.tuple #[]) ∧ ∃ (sc : Value), OBlk W' q vo vp ip sc ∧ Fr (fun b => b = q) W W' := by
  have happ : (Builtin.append_ #[38, 38] 38 #[.slice none 0 0, .slice none 0 0]).run Try.prog W.drew = .ok (.slice none 0 0) W.drew := by
    obtain ⟨i0, hi, _⟩ := info_parts Try.info5
    simp [Builtin.append_, run_underlying Try.underlying38, sizeOf, typeInfo, hi, Builtin.lenOf, Builtin.firstCells]
  have hcq := hO.c4
  have hfq := hO.free 4
  have HO := hid hO
  have HA := hid hA
  have HV := hid hval
  clear hO hA hval
  go_enter Try.func34, Try.ntmps34
  go_wp2_with fail
  go_region_law (refine step_append_run rfl (.tmp 16) (.tmp 19) 38 rfl _ _ _ _ rfl rfl happ ?_)
  have HW1 : Hid (OBlk ((W.setCell ⟨q, 4, none⟩ (.slice none 0 0)).drew) q vo vp ip (.slice none 0 0)) := (HO.out.set4 _).kept (S := fun _ => False) (Fr.drew _) (fun f => f)
  have HF1 : Hid (Fr (fun b => b = q) W ((W.setCell ⟨q, 4, none⟩ (.slice none 0 0)).drew)) := (Fr.setCell (S := fun b => b = q) W _ _ rfl).trans (Fr.drew _) (fun _ _ x => x)
  have HA1 := hid (HA.out.kept HF1.out hgoq)
  clear happ hcq hfq
  generalize (W.setCell ⟨q, 4, none⟩ (.slice none 0 0)).drew = W1 at *
  go_wp2_with fail
  go_loopw [8, 10, 26] (fun t8 _ t26 wr => ∃ (k : Nat), t8 = .int .i64 0 ∧ t26 = .int .i64 k ∧ k ≤ A.length ∧ Fr (fun _ => False) W1 wr) (fun _ _ t _ => A.length - (intOf t).toNat)
  case atStart => exact ⟨0, rfl, rfl, Nat.zero_le _, Fr.refl _ _⟩
  case round =>
    obtain ⟨k, rfl, rfl, hk, HM1⟩ := hrel
    have HM := hid HM1
    clear HM1
    by_cases hlt : k < A.length
    · obtain ⟨c0, c1, c2, h3, c3⟩ := (HA1.out.kept HM.out (fun f => f)) k hlt
      have V := HV.out _ (List.getElem_mem hlt)
      have d0 : wr.cell? ⟨go, k * 4, none⟩ = some (.int .i64 0) := by rw [c0, show A[k].1 = 0 by omega]; rfl
      have d1 : wr.cell? ⟨go, k * 4 + 1, none⟩ = some (.int .i64 0) := by rw [c1, show A[k].2 = 0 by omega]; rfl
      have hG : Fr (fun _ => False) wr (wr.alloc (.cells #[.int .i64 0, .int .i64 0, .int .i64 1, .int .u64 h3] 77)) := Fr.alloc _ _
      have HM4 := hid (HM.out.trans hG (fun _ _ x => x))
      have hOq := ((HW1.out.kept HM.out (fun f => f)).kept hG (fun f => f)).c4
      have hbx : (wr.alloc (.cells #[.int .i64 0, .int .i64 0, .int .i64 1, .int .u64 h3] 77)).cell? ⟨wr.heap.size, 0, none⟩ = some (.int .i64 0) := by simp
      have hby1 : (wr.alloc (.cells #[.int .i64 0, .int .i64 0, .int .i64 1, .int .u64 h3] 77)).cell? ⟨wr.heap.size, 1, none⟩ = some (.int .i64 0) := by simp
      clear V c0 c1
      go_wp2_with fail
      generalize (wr.alloc (.cells #[.int .i64 0, .int .i64 0, .int .i64 1, .int .u64 h3] 77)) = W4 at *
      have w4' : IntKind.i64.wrap 0 = 0 := by decide
      have hcp : (Builtin.copy_ #[38, 38] 3 #[.slice none 0 0, .slice none 0 0]).run Try.prog W4.drew = .ok (.int .i64 0) W4.drew := run_copy_none W4.drew 38 38 3 5 _ _ 0 0 0 0 Try.underlying38 Try.size5 (by simp)
      clear d0 d1 c2 c3
      generalize wr.heap.size = bx at *
      go_region_held3 (fun z => z.cell? ⟨q, 4, none⟩ = some (.slice none 0 0) ∧ z.cell? ⟨bx, 0, none⟩ = some (.int .i64 0) ∧ z.cell? ⟨bx, 1, none⟩ = some (.int .i64 0)) (go_keep) (refine step_copy_run rfl (.tmp 33) (.tmp 46) 38 rfl _ _ _ _ rfl rfl hcp ?_)
      go_wp2_with fail
      go_roundw
      case rel => exact ⟨k + 1, by go_num, by go_num, by omega, HM4.out.trans (Fr.drew _) (fun _ _ x => x)⟩
      case measure => simp [intOf]; omega
    · go_wp2_with fail
      go_end0
      exact ⟨rfl, _, HW1.out.kept HM.out (fun f => f), HF1.out.trans (HM.out.mono (fun _ _ f => f.elim)) (fun _ _ x => x)⟩
end Go.Proofs.Qxb6608761a
