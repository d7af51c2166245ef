import Derived.Test.Qxb6608761aEndA
import Derived.Test.Qxb6608761aFlat
namespace Go.Proofs.Qxb6608761a
open Go.RowKit Cmp

theorem move34 (q start go cap : Nat) (v : Value) (B : List Int) (A : List Sp) (vo vp : Value) (ip : Int) (W : World) (hO : OBlk W q vo vp ip (.slice none 0 0)) (hB : Bod W v B) (hA : ARow W go A)
    (hval : ∀ x ∈ A, start ≤ x.1 ∧ x.1 ≤ x.2 ∧ x.2 ≤ B.length) (hsum : ∀ k, start + (cat B (A.take k)).length ≤ B.length) (hnb : ∀ g n c, v = .slice (some ⟨g, 0, none⟩) n c → g ≠ q ∧ g ≠ go) (hgoq : go ≠ q) (hn : B.length ≤ 100000000) (hAn : A.length ≤ 1000000) :
    Calls Try.prog 34 #[.pointer (some ⟨q, 0, none⟩), v, .int .i64 start, .slice (some ⟨go, 0, none⟩) A.length cap] W fun e W' => e = .returned (.tuple #[]) ∧
      ∃ (C : List Int) (sc : Value), Bod W' v C ∧ C.length = B.length ∧ C.take (start + (cat B A).length) = B.take start ++ cat B A ∧ OBlk W' q vo vp ip sc ∧ Fr (fun b => b = q ∨ v.ownBlock = some b) W W' := by
  have hst : start ≤ B.length := by have := hsum 0; omega
  rcases hB with ⟨rfl, rfl⟩ | ⟨g, rfl, hg⟩
  · obtain rfl : start = 0 := by simpa using hst
    refine (move34_nil q go cap A vo vp ip W hO hA (fun x hx => (hval x hx).2) hgoq hAn).mono ?_
    rintro e W' ⟨he, sc, hO', hF⟩
    refine ⟨he, [], sc, .inl ⟨rfl, rfl⟩, rfl, ?_, hO', hF.mono (fun _ _ e => .inl e)⟩
    rw [cat_nil]
    rfl
  · obtain ⟨n1, n2⟩ := hnb g _ _ rfl
    refine (move34_some q g B.length start go cap B A vo vp ip W hO hg rfl hA hval hsum hst (Ne.symm n1) (Ne.symm n2) hgoq hn hAn).mono ?_
    rintro e W' ⟨he, C, sc, hC, hl, ht, hO', hF⟩
    exact ⟨he, C, sc, .inr ⟨g, by rw [hl], hC⟩, hl, ht, hO', hF.mono (fun b _ e => by rcases e with e | e; exact .inr (by rw [e]; rfl); exact .inl e)⟩

/-- What stands between EndMap's statements. -/
structure EM (W : World) (q go gp bx start co pc : Nat) (ip : Int) (v : Value) (w : World) : Prop where
  bx0 : w.cell? ⟨bx, 0, none⟩ = some (.int .i64 0)
  bx1 : w.cell? ⟨bx, 1, none⟩ = some (.int .i64 0)
  bx2 : w.cell? ⟨bx, 2, none⟩ = some (.int .i64 ip)
  pend : w.cell? ⟨gp, 0, none⟩ = some (.int .i64 start)
  nbx : bx ≠ q ∧ bx ≠ go ∧ v.ownBlock ≠ some bx
  ngp : gp ≠ q ∧ gp ≠ go ∧ v.ownBlock ≠ some gp
  fr : Fr (fun b => b = q ∨ b = go ∨ v.ownBlock = some b) W w

theorem EM.kept {W w w1 : World} {q go gp bx start co pc : Nat} {ip : Int} {v : Value} (h : EM W q go gp bx start co pc ip v w) (hf : Fr (fun b => b = q ∨ b = go ∨ v.ownBlock = some b) w w1) : EM W q go gp bx start co pc ip v w1 :=
  have nb : ¬ (bx = q ∨ bx = go ∨ v.ownBlock = some bx) := fun e => by rcases e with e | e | e; exact h.nbx.1 e; exact h.nbx.2.1 e; exact h.nbx.2.2 e
  have np : ¬ (gp = q ∨ gp = go ∨ v.ownBlock = some gp) := fun e => by rcases e with e | e | e; exact h.ngp.1 e; exact h.ngp.2.1 e; exact h.ngp.2.2 e
  ⟨by rw [hf.cell (World.block_lt_of_cell? _ _ h.bx0) nb]; exact h.bx0, by rw [hf.cell (World.block_lt_of_cell? _ _ h.bx1) nb]; exact h.bx1, by rw [hf.cell (World.block_lt_of_cell? _ _ h.bx2) nb]; exact h.bx2, by rw [hf.cell (World.block_lt_of_cell? _ _ h.pend) np]; exact h.pend, h.nbx, h.ngp, h.fr.trans hf (fun _ _ x => x)⟩

set_option maxRecDepth 100000 in
set_option maxHeartbeats 4000000 in
/-- EndMap at a map of two entries or more. -/
theorem end20_two (q go gp co pc start : Nat) (va : Option Addr) (nv cv : Nat) (B : List Int) (sp : List Sp) (ip : Int) (W : World)
    (hO : OBlk W q (.slice (some ⟨go, 0, none⟩) sp.length co) (.slice (some ⟨gp, 0, none⟩) 1 pc) ip (.slice none 0 0)) (hB : Bod W (.slice va nv cv) B) (hby : Byt B) (hrow : HRow W go B sp 0) (hpend : W.cell? ⟨gp, 0, none⟩ = some (.int .i64 start))
    (hch : Chain start sp B.length) (hco : sp.length ≤ co) (hpc : 1 ≤ pc) (hgoq : go ≠ q) (hgpq : gp ≠ q) (hgpgo : gp ≠ go) (hnb : ∀ g, (Value.slice va nv cv).ownBlock = some g → g ≠ q ∧ g ≠ go ∧ g ≠ gp) (hn : B.length ≤ 100000000) (hAn : sp.length ≤ 1000000) :
    Calls Try.prog 20 #[.pointer (some ⟨q, 0, none⟩), .slice va nv cv, .agg #[.int .i64 0, .int .i64 0, .int .i64 ip]] W fun e W' => e = .returned (.tuple #[]) ∧
      ∃ (A : List Sp) (C : List Int) (sc : Value), A.Perm sp ∧ A.Pairwise (fun a b => leB B a b = true) ∧ Bod W' (.slice va nv cv) C ∧ C.length = B.length ∧ C.take (start + (cat B A).length) = B.take start ++ cat B A ∧
        OBlk W' q (.slice (some ⟨go, 0, none⟩) 0 co) (.slice (some ⟨gp, 0, none⟩) 0 pc) (wrap64 (ip + 1)) sc ∧ Fr (fun b => b = q ∨ b = go ∨ (Value.slice va nv cv).ownBlock = some b) W W' := by
  have G1 : Fr (fun _ => False) W (W.alloc (.cells #[.int .i64 0, .int .i64 0, .int .i64 ip] 51)) := Fr.alloc _ _
  have hlt := hO.lt
  have HO1 := hid (hO.kept G1 (fun f => f))
  have HR1 := hid (hrow.kept G1 (fun f => f))
  have HB1 := hid (hB.kept G1 (fun _ _ _ _ f => f))
  have hgl := hrow.lt
  have hpl : gp < W.heap.size := World.block_lt_of_cell? _ _ hpend
  have hvl : ∀ g, (Value.slice va nv cv).ownBlock = some g → g < W.heap.size := by
    intro g hg
    rcases hB with ⟨e, _⟩ | ⟨g', e, h⟩
    · rw [e] at hg; simp [Value.ownBlock] at hg
    · rw [e] at hg; simp [Value.ownBlock] at hg; subst hg; exact lt_of_heap h
  have HE1 : Hid (EM W q go gp W.heap.size start co pc ip (.slice va nv cv) (W.alloc (.cells #[.int .i64 0, .int .i64 0, .int .i64 ip] 51))) := by
    refine ⟨by simp, by simp, by simp, ?_, ⟨by omega, by omega, fun e => by have := hvl _ e; omega⟩, ⟨hgpq, hgpgo, fun e => (hnb _ e).2.2 rfl⟩, G1.mono (fun _ _ f => f.elim)⟩
    rw [G1.cell (p := ⟨gp, 0, none⟩) hpl (fun f => f)]; exact hpend
  have z1 : (sp.length : Int) ≤ (co : Int) := by omega
  have z2 : (1 : Int) ≤ (pc : Int) := by omega
  have c0 := HO1.out.c0
  have b0 := HE1.out.bx0
  have b1 := HE1.out.bx1
  have b2 := HE1.out.bx2
  have c3 := HO1.out.c3
  have HY := hid hby
  have HCH := hid hch
  have HNB := hid hnb
  clear hO hrow hB G1 hpend hby hch hnb hvl
  go_enter Try.func20, Try.ntmps20
  go_wp2_with fail
  generalize W.alloc (.cells #[.int .i64 0, .int .i64 0, .int .i64 ip] 51) = W1 at *
  generalize W.heap.size = bx at *
  have HSORT : Hid (∀ w, Fr (fun _ => False) W1 w → Calls Try.prog 33 #[.pointer (some ⟨q, 0, none⟩), .slice va nv cv, .slice (some ⟨go, 0, none⟩) sp.length co] w fun e W' => e = .returned (.tuple #[]) ∧ (∃ A, Sorted W' go B sp A) ∧ Fr (fun b => b = go) W1 W') := fun w hw =>
    (sort33 q go co va nv cv B sp (some ⟨gp, 0, none⟩) pc w (HO1.out.kept hw (fun f => f)).c1 (HB1.out.kept hw (fun _ _ _ _ f => f)) HY.out (fun x hx => (HCH.out.mem x hx).2) (HR1.out.kept hw (fun f => f)) (Ne.symm hgoq) (fun g n c e => (HNB.out g (by rw [e]; rfl)).2.1) hAn).mono fun _ _ ⟨h1, h2, h3⟩ => ⟨h1, h2, (hw.mono (fun _ _ f => f.elim)).trans h3 (fun _ _ x => x)⟩
  go_quiet (fail)
  go_wp2_with fail
  go_quiet (fail)
  go_wp2_with (go_at_call 33; refine (HSORT.out _ ?_).mono ?_; exact Fr.drewN _ _; rintro e w1 ⟨rfl, ⟨A, hS⟩, hF⟩)
  have HS := hid hS
  have HF := hid hF
  have HE2 := hid (HE1.out.kept (HF.out.mono (fun _ _ e => .inr (.inl e))))
  have HO2 := hid (HO1.out.kept HF.out (Ne.symm hgoq))
  have HB2 := hid (HB1.out.kept HF.out (fun g n c e => (HNB.out g (by rw [e]; rfl)).2.1))
  clear hS hF c0 b0 b1 b2 c3 HSORT
  have c1 := HO2.out.c1
  have b1 := HE2.out.bx1
  have p0 := HE2.out.pend
  have hAl : A.length = sp.length := HS.out.perm.length_eq
  have HMOVE : Hid (∀ w, Fr (fun _ => False) w1 w → Calls Try.prog 34 #[.pointer (some ⟨q, 0, none⟩), .slice va nv cv, .int .i64 start, .slice (some ⟨go, 0, none⟩) sp.length co] w fun e W' => e = .returned (.tuple #[]) ∧ ∃ (C : List Int) (sc : Value), Bod W' (.slice va nv cv) C ∧ C.length = B.length ∧ C.take (start + (cat B A).length) = B.take start ++ cat B A ∧ OBlk W' q (.slice (some ⟨go, 0, none⟩) sp.length co) (.slice (some ⟨gp, 0, none⟩) 1 pc) ip sc ∧ Fr (fun b => b = q ∨ (Value.slice va nv cv).ownBlock = some b) w1 W') := fun w hw => by
    have hm : ∀ x ∈ A, start ≤ x.1 ∧ x.1 ≤ x.2 ∧ x.2 ≤ B.length := fun x hx => HCH.out.mem x (HS.out.perm.mem_iff.1 hx)
    have := move34 q start go co (.slice va nv cv) B A _ _ ip w (HO2.out.kept hw (fun f => f)) (HB2.out.kept hw (fun _ _ _ _ f => f)) (ARow.kept (fun i hi => HS.out.cells i hi) hw (fun f => f)) hm (fun k => by have h1 := cat_take_le B A k; have h2 := cat_perm_length (B := B) HS.out.perm; have h3 := HCH.out.cat (Nat.le_refl _); have h4 := HCH.out.le; omega) (fun g n c e => ⟨(HNB.out g (by rw [e]; rfl)).1, (HNB.out g (by rw [e]; rfl)).2.1⟩) hgoq hn (by omega)
    rw [hAl] at this
    exact this.mono fun _ _ ⟨h1, C, sc, h2, h3, h4, h5, h6⟩ => ⟨h1, C, sc, h2, h3, h4, h5, (hw.mono (fun _ _ f => f.elim)).trans h6 (fun _ _ x => x)⟩
  clear hAl
  go_region_held3 (fun z => z.cell? ⟨q, 1, none⟩ = some (.slice (some ⟨gp, 0, none⟩) 1 pc) ∧ z.cell? ⟨bx, 1, none⟩ = some (.int .i64 0) ∧ z.cell? ⟨gp, 0, none⟩ = some (.int .i64 start)) (go_keep)
    (first | (go_at_call 34; refine (HMOVE.out _ ?_).mono ?_; exact Fr.drew _; rintro e w2 ⟨rfl, C, sc, hC, hCl, hCt, hO3, hF3⟩; have HC := hid hC; have HCL := hid hCl; have HCT := hid hCt; have HO3 := hid hO3; have HF3 := hid hF3; clear hC hCl hCt hO3 hF3; have HE3 := hid (HE2.out.kept (HF3.out.mono (fun _ _ e => by rcases e with e | e; exact .inl e; exact .inr (.inr e)))); have y1 := HO3.out.c1; have y2 := HE3.out.bx1; have y3 := HE3.out.pend))
  have f1 := HO3.out.free 1
  clear c1 b1 p0 y3 HMOVE
  go_wp2_with fail
  go_region
  all_goals
    have HF4 : Hid (Fr (fun b => b = q) w2 (w2.setCell ⟨q, 1, none⟩ (.slice (some ⟨gp, 0, none⟩) 0 pc)).drew) := (Fr.setCell (S := fun b => b = q) _ _ _ rfl).trans (Fr.drew _) (fun _ _ x => x)
    have HO4 : Hid (OBlk (w2.setCell ⟨q, 1, none⟩ (.slice (some ⟨gp, 0, none⟩) 0 pc)).drew q (.slice (some ⟨go, 0, none⟩) sp.length co) (.slice (some ⟨gp, 0, none⟩) 0 pc) ip sc) := (HO3.out.set1 _).kept (S := fun _ => False) (Fr.drew _) (fun f => f)
    have HE4 := hid (HE3.out.kept (HF4.out.mono (fun _ _ e => .inl e)))
    have HB4 := hid (HC.out.kept HF4.out (fun g n c e => (HNB.out g (by rw [e]; rfl)).1))
    generalize (w2.setCell ⟨q, 1, none⟩ (.slice (some ⟨gp, 0, none⟩) 0 pc)).drew = w3 at *
    have x3 := HO4.out.c3
    have g3 := HO4.out.free 3
    go_wp2_with fail
    have HF5 : Hid (Fr (fun b => b = q) w3 (w3.setCell ⟨q, 3, none⟩ (.int .i64 (wrap64 (ip + 1))))) := Fr.setCell (S := fun b => b = q) _ _ _ rfl
    have HO5 := hid (HO4.out.set3 (wrap64 (ip + 1)))
    have HE5 := hid (HE4.out.kept (HF5.out.mono (fun _ _ e => .inl e)))
    have HB5 := hid (HB4.out.kept HF5.out (fun g n c e => (HNB.out g (by rw [e]; rfl)).1))
    clear x3 g3 y1 y2 f1
    generalize w3.setCell ⟨q, 3, none⟩ (.int .i64 (wrap64 (ip + 1))) = w4 at *
    have x0 := HO5.out.c0
    have g0 := HO5.out.free 0
    have x1 := HE5.out.bx0
    go_region
    all_goals
      go_wp2_with fail
      go_end0
      have HF6 : Fr (fun b => b = q) w4 (w4.setCell ⟨q, 0, none⟩ (.slice (some ⟨go, 0, none⟩) 0 co)).drew := (Fr.setCell (S := fun b => b = q) _ _ _ rfl).trans (Fr.drew _) (fun _ _ x => x)
      exact ⟨rfl, A, C, sc, HS.out.perm, HS.out.asc, HB5.out.kept HF6 (fun g n c e => (HNB.out g (by rw [e]; rfl)).1), HCL.out, HCT.out, (HO5.out.set0 _).kept (S := fun _ => False) (Fr.drew _) (fun f => f), (HE5.out.kept (HF6.mono (fun _ _ e => .inl e))).fr⟩
end Go.Proofs.Qxb6608761a
