import Derived.Test.Qxb6608761aSortA
namespace Go.Proofs.Qxb6608761a
open Go.RowKit Cmp Go.Sort Go.BigFrame

/-- The boxes of o and of body, and what the closure reads. -/
structure SBox (W : World) (q bo bb : Nat) (v : Value) (B : List Int) (pa : Option Addr) (pc : Nat) (go : Nat) (w : World) : Prop where
  o : w.cell? ⟨bo, 0, none⟩ = some (.pointer (some ⟨q, 0, none⟩))
  b : w.cell? ⟨bb, 0, none⟩ = some v
  pend : w.cell? ⟨q, 1, none⟩ = some (.slice pa 1 pc)
  bod : Bod w v B
  nbo : bo ≠ go
  nbb : bb ≠ go
  nq : q ≠ go
  nbod : ∀ g n c, v = .slice (some ⟨g, 0, none⟩) n c → g ≠ go
  fr : Fr (fun b => b = go) W w

theorem Bod.kept {S : Nat → Prop} {W W' : World} {v : Value} {B : List Int} (h : Bod W v B) (hf : Fr S W W') (hS : ∀ g n c, v = .slice (some ⟨g, 0, none⟩) n c → ¬ S g) : Bod W' v B := by
  rcases h with ⟨rfl, rfl⟩ | ⟨g, rfl, hg⟩
  · exact .inl ⟨rfl, rfl⟩
  · exact .inr ⟨g, rfl, (hf.block g (lt_of_heap hg) (hS g _ _ rfl)).trans hg⟩

theorem SBox.kept {W w w1 : World} {q bo bb go pc : Nat} {v : Value} {B : List Int} {pa : Option Addr} (h : SBox W q bo bb v B pa pc go w) (hf : Fr (fun b => b = go) w w1) : SBox W q bo bb v B pa pc go w1 :=
  ⟨by rw [hf.cell (World.block_lt_of_cell? _ _ h.o) h.nbo]; exact h.o, by rw [hf.cell (World.block_lt_of_cell? _ _ h.b) h.nbb]; exact h.b, by rw [hf.cell (World.block_lt_of_cell? _ _ h.pend) h.nq]; exact h.pend, h.bod.kept hf (fun g n c e => h.nbod g n c e), h.nbo, h.nbb, h.nq, h.nbod, h.fr.trans hf (fun _ _ x => x)⟩

theorem cmpLays {W w : World} {q bo bb go pc : Nat} {v : Value} {B : List Int} {pa : Option Addr} {sp : List Sp} (h : SBox W q bo bb v B pa pc go w) (hby : Byt B) (hval : ∀ x ∈ sp, x.1 ≤ x.2 ∧ x.2 ≤ B.length) (size : Nat) :
    CmpLays Try.prog 39 #[.pointer (some ⟨bo, 0, none⟩), .pointer (some ⟨bb, 0, none⟩)] (encI B sp) 4 (fun i j => cmpL (segAt B sp i) (segAt B sp j)) go 0 size w := by
  intro m os dk _ x y
  have h1 := h.kept (fr_sortWorldK (encI B sp) 4 w go 0 m dk os)
  have vx := spAt_ok hval x
  have vy := spAt_ok hval y
  have c := closure39 q bo bb (spAt sp x).1 (spAt sp x).2 (spAt sp y).1 (spAt sp y).2 (hdN 8 (segAt B sp x)) (hdN 8 (segAt B sp y)) v B pa pc _ h1.pend h1.o h1.b h1.bod hby vx.1 vx.2 vy.1 vy.2
  have e := cmp_heads (segAt B sp x) (segAt B sp y) (hby.seg _ _) (hby.seg _ _)
  unfold segAt at e c
  rw [e] at c
  exact c.mono fun _ _ ⟨he, q, os', hw⟩ => ⟨he, q, os', hw⟩

set_option maxRecDepth 100000 in
set_option maxHeartbeats 4000000 in
theorem sort33 (q go cap : Nat) (va : Option Addr) (nv cv : Nat) (B : List Int) (sp : List Sp) (pa : Option Addr) (pc : Nat) (W : World) (hq : W.cell? ⟨q, 1, none⟩ = some (.slice pa 1 pc)) (hB : Bod W (.slice va nv cv) B) (hby : Byt B) (hval : ∀ x ∈ sp, x.1 ≤ x.2 ∧ x.2 ≤ B.length) (hrow : HRow W go B sp 0) (hne : q ≠ go) (hnb : ∀ g n c, Value.slice va nv cv = .slice (some ⟨g, 0, none⟩) n c → g ≠ go) (hn : sp.length ≤ 1000000) :
    Calls Try.prog 33 #[.pointer (some ⟨q, 0, none⟩), .slice va nv cv, .slice (some ⟨go, 0, none⟩) sp.length cap] W fun e W' => e = .returned (.tuple #[]) ∧ (∃ A, Sorted W' go B sp A) ∧ Fr (fun b => b = go) W W' := by
  have G2 : Gr W ((W.alloc (.cells #[.pointer (some ⟨q, 0, none⟩)] 43)).alloc (.cells #[.slice va nv cv] 38)) := (Gr.alloc _ _).trans (Gr.alloc _ _)
  have hlt := hrow.lt
  have SB : SBox W q W.heap.size (W.heap.size + 1) (.slice va nv cv) B pa pc go ((W.alloc (.cells #[.pointer (some ⟨q, 0, none⟩)] 43)).alloc (.cells #[.slice va nv cv] 38)) := ⟨by simp, by simp, G2.cell hq, hB.gr G2, by omega, by omega, hne, hnb, G2.fr.mono (fun _ _ f => f.elim)⟩
  have HR := hid (hrow.kept G2.fr (fun f => f))
  have HSB := hid SB
  have HY := hid hby
  have HV := hid hval
  have hgo : go ≠ W.heap.size := by omega
  have hgo1 : go ≠ W.heap.size + 1 := by omega
  clear G2 SB hq hB hby hval hrow hne hnb
  go_enter Try.func33, Try.ntmps33
  go_wp2_with fail
  go_loopw [6, 9] (fun _ t wr => ∃ (k : Nat), t = .int .i64 k ∧ k ≤ sp.length ∧ HRow wr go B sp k ∧ SBox W q W.heap.size (W.heap.size + 1) (.slice va nv cv) B pa pc go wr) (fun _ t _ => sp.length - (intOf t).toNat)
  case atStart => exact ⟨0, rfl, Nat.zero_le _, HR.out, HSB.out⟩
  case round =>
    obtain ⟨k, rfl, hk, HO1, HO2⟩ := hrel
    have HO := hid HO1
    have HS := hid HO2
    clear HO1 HO2 HR HSB
    by_cases hlt2 : k < sp.length
    · obtain ⟨c0, c1, c2, c3⟩ := HO.out.cells k hlt2
      rw [if_neg (by omega)] at c3
      have b0 := HS.out.o
      have b1 := HS.out.b
      have f0 := HO.out.free (k * 4 + 3)
      have V := HV.out _ (List.getElem_mem hlt2)
      have HD := hid (head37 q sp[k].1 sp[k].2 0 (.slice va nv cv) B pa pc wr.drew HS.out.pend HS.out.bod HY.out V.1 V.2)
      clear V
      go_wp2_with fail
      go_region_with (first | (go_at_call 37; refine HD.out.mono ?_; rintro e w1 ⟨rfl, hG⟩; have HW := hid hG; have d0 := (hG.cell (W := wr.drew) c3); have d1 := (HO.out.kept (S := fun _ => False) (w1 := w1) ((Fr.drew wr).trans hG.fr (fun _ _ x => x)) (fun f => f)).free (k * 4 + 3); clear hG))
      all_goals
        have HR1 := hid (HO.out.kept (S := fun _ => False) ((Fr.drew wr).trans HW.out.fr (fun _ _ x => x)) (fun f => f))
        have HS1 := hid (HS.out.kept (((Fr.drew wr).trans HW.out.fr (fun _ _ x => x)).mono (fun _ _ f => f.elim)))
        clear d0 d1
        go_wp2_with fail
        go_roundw
        case rel => exact ⟨k + 1, by go_num, by omega, HR1.out.step hlt2, HS1.out.kept (Fr.setCell (S := fun b => b = go) _ _ _ rfl)⟩
        case measure => simp [intOf]; omega
    · obtain rfl : k = sp.length := by omega
      have e39 : ∀ args w, (callFunc 39 args).run Try.prog w = .ok (.enter 39 args) w := enters_of Try.func39 (by kernel_rfl) rfl
      have hcon := AnyQ.slices_SortFunc Try.sortL 4 Try.isAgg77 Try.sizeOf77 (encI B sp) (fun _ => rfl) (fun x u hu => by simp [encI] at hu; rcases hu with rfl | rfl | rfl | rfl <;> rfl) (fun i j => cmpL (segAt B sp i) (segAt B sp j)) (swo_cmp B sp) 39 #[.pointer (some ⟨W.heap.size, 0, none⟩), .pointer (some ⟨W.heap.size + 1, 0, none⟩)] go 0 cap (Array.range sp.length) wr e39 (cmpLays HS.out HY.out HV.out _) (holdsK_row HO.out) HO.out.lt (by rw [Array.size_range]; omega)
      change Calls Try.prog 38 _ _ _ at hcon
      rw [Array.size_range] at hcon
      have HCON := hid hcon
      clear hcon
      go_wp2_with (go_at_call 38; refine HCON.out.mono ?_; rintro e w1 ⟨rfl, d', m', os', hp, hs, rfl⟩)
      go_end0
      exact ⟨rfl, sorted_of HO.out (by rw [Array.size_range]; exact hp) (by rw [Array.size_range]; exact hs), HS.out.fr.trans (fr_sortWorldK _ _ _ _ _ _ _ _) (fun _ _ x => x)⟩
end Go.Proofs.Qxb6608761a
