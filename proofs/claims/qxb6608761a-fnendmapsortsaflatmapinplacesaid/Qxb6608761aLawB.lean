import Derived.Test.Qxb6608761aPieces
namespace Go.Proofs.Qxb6608761a
open Go.RowKit Cmp

theorem lc_start {W w1 w2 w3 : World} {m : Nat} {va vb : Option Addr} {B : List Int} (h1 : BodN (W.drewN m).heap.size w1 (.slice va B.length B.length) B) (b1 : Below (W.drewN m).heap.size (W.drewN m) w1) (h2 : BodN w1.heap.size w2 (.slice vb B.length B.length) B) (b2 : Below w1.heap.size w1 w2) (f3 : Fr (fun _ => False) w2 w3) : LC W w2.heap.size va vb B w3 := by
  have b1' : Below W.heap.size W w1 := ⟨b1.os, b1.tape, b1.output, b1.size, fun k hk => b1.block k hk⟩
  have own : ∀ {N : Nat} {w : World} (va : Option Addr), BodN N w (.slice va B.length B.length) B → ∀ g, (Value.slice va B.length B.length).ownBlock = some g → N ≤ g ∧ g < w.heap.size := by
    intro N w va h g hg
    rcases h with ⟨e, _⟩ | ⟨g', hN, e, hb⟩
    · rw [e] at hg; simp [Value.ownBlock] at hg
    · rw [e] at hg; simp [Value.ownBlock] at hg; subst hg; exact ⟨hN, lt_of_heap hb⟩
  have f2 := fr_of_below b2
  have s1 : W.heap.size ≤ w1.heap.size := b1'.size
  have s2 := b2.size
  refine ⟨Fr.below (Fr.below b1' f2 s1 (fun _ _ f => f.elim)) f3 (Nat.le_trans s1 s2) (fun _ _ f => f.elim), (h1.bod.kept f2 (fun _ _ _ _ f => f)).kept f3 (fun _ _ _ _ f => f), h2.bod.kept f3 (fun _ _ _ _ f => f), fun g hg => ?_, fun g hg => ?_, Nat.le_trans s1 s2, f3.size⟩
  · have := own va h1 g hg
    exact ⟨this.1, by omega⟩
  · have a := own vb h2 g hg
    refine ⟨by omega, a.2, fun e => ?_⟩
    have := own va h1 g e
    omega

set_option maxRecDepth 100000 in
set_option maxHeartbeats 8000000 in
theorem law5 (ao so : Option Addr) (cb cs n : Nat) (B : List Int) (isp : List (Int × Int)) (ip : Int) (W : World) (hB : BytesAt W ao B) (hcap : ao = none → cb = 0) (hY : Byt B) (hS : ISpansAt W so isp) (hl : isp.length = n) (hn1 : B.length ≤ maxLen) (hn2 : n ≤ maxLen) :
    Calls Try.prog 5 #[.slice ao B.length cb, .slice so n cs, .int .i64 ip] W fun e W' => e = .returned (.bool true) ∧ Below W.heap.size W W' := by
  have B14 := hid (bytes14 ao so cb cs B.length n ip W hn1 hn2)
  have HB := hid hB
  have HCAP := hid hcap
  have HY := hid hY
  have HS := hid hS
  have HL := hid hl
  have HWW : Hid (W = W) := rfl
  unfold maxLen at hn1 hn2
  clear hB hcap hY hS hl
  go_enter Try.func5, Try.ntmps5
  go_wp2_with fail
  refine B14.out.mono ?_
  rintro e w' ⟨rfl, hw'⟩
  subst hw'
  clear B14
  by_cases hz : B.length ≤ 1048576 ∧ B.length + n ≤ 1048576
  · rw [decide_eq_true hz]
    obtain ⟨hz1, hz2⟩ := hz
    by_cases h1 : 65536 < n
    · go_wp2_with fail
      go_ret
      exact ⟨rfl, Below.refl _ _⟩
    · by_cases h2 : 1048576 < B.length + 16 * n
      · go_wp2_with fail
        go_ret
        exact ⟨rfl, Below.refl _ _⟩
      · by_cases h3 : ip < 0
        · go_wp2_with fail
          go_ret
          exact ⟨rfl, Below.refl _ _⟩
        · have B15 : Hid (Calls Try.prog 15 #[.slice so n cs, .int .i64 (B.length : Nat)] w' fun e W' => ∃ b : Bool, e = .returned (.bool b) ∧ (∃ m, W' = w'.drewN m) ∧ (b = true → Back isp (B.length : Nat))) := by
            have h := back15 so cs isp (B.length : Nat) w' HS.out (by rw [HL.out]; omega)
            rw [HL.out] at h
            exact h
          go_wp2_with fail
          refine B15.out.mono ?_
          rintro e w1 ⟨b, rfl, ⟨m0, rfl⟩, hbk⟩
          clear B15
          cases b with
          | false =>
            go_wp2_with fail
            go_ret
            exact ⟨rfl, below_drewN (Below.refl _ _) _⟩
          | true =>
            have HBK := hid (hbk rfl)
            clear hbk
            go_wp2_with fail
            refine (clone16 ao cb B _ (HB.out.later (Fr.drewN _ _)) HCAP.out (by omega)).mono ?_
            rintro e w1 ⟨v1, rfl, hv1, hbel1⟩
            obtain ⟨va, rfl, hb1, _⟩ := hv1.form
            have HV1 := hid hv1
            have HE1 := hid hbel1
            have HBB := hid hb1
            clear hv1 hbel1 hb1
            go_wp2_with fail
            refine (clone16 va B.length B w1 HBB.out.bytes.1 HBB.out.bytes.2 (by omega)).mono ?_
            rintro e w2 ⟨v2, rfl, hv2, hbel2⟩
            obtain ⟨vb, rfl, _, _⟩ := hv2.form
            have HV2 := hid hv2
            have HE2 := hid hbel2
            clear hv2 hbel2 HBB
            go_wp2_with fail
            refine (new17 ip w2).mono ?_
            rintro e w3 ⟨rfl, hO3, hF3⟩
            have HO3 := hid hO3
            have HLC := hid (lc_start HV1.out HE1.out HV2.out HE2.out hF3)
            have hq3 : w2.heap.size < w3.heap.size := hO3.lt
            clear HV1 HE1 HV2 HE2 hO3 hF3
            generalize w2.heap.size = N at *
            obtain ⟨sp, hsp⟩ : ∃ sp, sp = natSp isp := ⟨_, rfl⟩
            have HSL : Hid (sp.length = n) := by show _ = _; rw [hsp, natSp_length]; exact HL.out
            have HSP : Hid (SpansAt w' so sp) := by rw [hsp]; exact HS.out.spans HBK.out
            have HCH : Hid (∀ h : 0 < sp.length, Chain sp[0].1 sp B.length) := by subst hsp; intro h; exact HBK.out.chain (by rw [natSp_length] at h; exact h)
            clear hsp HBK HS HL HB HCAP
            have M23 : Hid (∀ w, Below w'.heap.size w' w → Bod w (.slice vb B.length B.length) B → Calls Try.prog 23 #[.slice vb B.length B.length, .slice so n cs, .bool true] w fun e W' => ∃ (g : Nat) (A : List Sp), e = .returned (.slice (some ⟨g, 0, none⟩) n n) ∧ PairsBlk W' g A ∧ A.Perm sp ∧ A.Pairwise (fun a b => leB B a b = true) ∧ Below w.heap.size w W') := by
              intro w hw hb
              have h := msort23 (.slice vb B.length B.length) B so cs sp w hb (HSP.out.later hw) (fun x hx => by have h0 : 0 < sp.length := List.length_pos_of_mem hx; exact ((HCH.out h0).mem x hx).2) (by omega) (by rw [HSL.out]; omega)
              rw [HSL.out] at h
              exact h
            by_cases hn : 2 ≤ n
            · have h0 : 0 < sp.length := by rw [HSL.out]; omega
              have HC0 := hid (HCH.out h0)
              obtain ⟨b, off, rfl, x0, x1⟩ := HSP.out 0 h0
              have hbw : b < w'.heap.size := World.block_lt_of_cell? _ _ x0
              rw [show off + 0 * 2 = off by omega] at x0
              have HX0 := hid x0
              have y0 : w3.cell? ⟨b, off, none⟩ = some (.int .i64 (sp[0].1 : Nat)) := by rw [HLC.out.below.cell hbw]; exact x0
              clear x0 x1
              generalize sp[0].1 = start at *
              go_wp2_with fail
              refine (begin18 N start (.slice none 0 0) ip w3 HO3.out).mono ?_
              rintro e w4 ⟨rfl, gp, pc, hO4, hpend, hgp, hpc, hF4, hcur⟩
              have hgpN : N ≤ gp ∧ gp ≠ N := by have := HLC.out.hN; omega
              have HOL : Hid (OL w' N N va vb B (.slice (some ⟨gp, 0, none⟩) 1 pc) ip 1 sp gp start 0 w4) := by
                refine ⟨⟨.slice none 0 0, ⟨hO4, World.ownsRow_nil _ _ _ _⟩, fun g hg => by simp [Value.ownBlock] at hg⟩, HLC.out.kept hF4 (fun k _ e => by rw [e]; exact Nat.le_refl _), fun _ => ⟨hpend, hgpN.2, hgpN.1, World.block_lt_of_cell? _ _ hpend⟩, Nat.le_refl _⟩
              clear y0 hO4 hpend hgp hF4 hcur HLC HO3
              go_wp2_with fail
              go_loopw [11] (fun t wr => ∃ k : Nat, k ≤ n ∧ t = .int .i64 k ∧ OL w' N N va vb B (.slice (some ⟨gp, 0, none⟩) 1 pc) ip 1 sp gp start k wr) (fun t _ => n - (intOf t).toNat)
              case atStart => exact ⟨0, Nat.zero_le _, rfl, HOL.out⟩
              case round =>
                obtain ⟨k, hk, rfl, R1⟩ := hrel
                have R := hid R1
                clear R1 HOL
                by_cases hkn : k < n
                · obtain ⟨vo, hE, hv⟩ := R.out.obj
                  have hks : k < sp.length := by rw [HSL.out]; exact hkn
                  obtain ⟨b2, off2, e2, x0, x1⟩ := HSP.out k hks
                  obtain ⟨rfl, rfl⟩ : b = b2 ∧ off = off2 := by simpa using e2
                  have c0 : wr.cell? ⟨b, off + k * 2, none⟩ = some (.int .i64 (sp[k].1 : Nat)) := by rw [R.out.lc.below.cell hbw]; exact x0
                  have c1 : wr.cell? ⟨b, off + k * 2 + 1, none⟩ = some (.int .i64 (sp[k].2 : Nat)) := by rw [R.out.lc.below.cell hbw]; exact x1
                  have HO19 := hid (open19 N sp[k].1 sp[k].2 vo (.slice (some ⟨gp, 0, none⟩) 1 pc) ip 1 (sp.take k) wr.drew (hE.kept (S := fun _ => False) (Fr.drew _) (fun f => f) (fun _ _ f => f)) (by simp; omega))
                  have HNX : Hid (∀ w5, Opened wr.drew N vo (.slice (some ⟨gp, 0, none⟩) 1 pc) ip 1 (sp.take k ++ [(sp[k].1, sp[k].2)]) w5 → OL w' N N va vb B (.slice (some ⟨gp, 0, none⟩) 1 pc) ip 1 sp gp start (k + 1) w5) := fun w5 ho => OL.next hks hE hv R.out.lc R.out.pend R.out.hq ho
                  have HXX : Hid (∀ w5, OL w' N N va vb B (.slice (some ⟨gp, 0, none⟩) 1 pc) ip 1 sp gp start (k + 1) w5 → w5.cell? ⟨b, off + k * 2, none⟩ = some (.int .i64 (sp[k].1 : Nat)) ∧ w5.cell? ⟨b, off + k * 2 + 1, none⟩ = some (.int .i64 (sp[k].2 : Nat))) := fun w5 ho => ⟨by rw [ho.lc.below.cell hbw]; exact x0, by rw [ho.lc.below.cell hbw]; exact x1⟩
                  clear x0 x1 e2 hE hv
                  go_wp2_with fail
                  go_region_held3 (fun z => z.cell? ⟨b, off + k * 2, none⟩ = some (.int .i64 (sp[k].1 : Nat)) ∧ z.cell? ⟨b, off + k * 2 + 1, none⟩ = some (.int .i64 (sp[k].2 : Nat))) (go_keep)
                    (first | (go_at_call 19; refine HO19.out.mono ?_; rintro e w5 ⟨rfl, hOp⟩; have HN5 := hid (HNX.out w5 hOp); obtain ⟨s0, s1⟩ := HXX.out w5 HN5.out; clear hOp))
                  go_wp2_with fail
                  go_roundw
                  case rel => exact ⟨k + 1, by omega, by go_num, HN5.out⟩
                  case measure => simp [intOf]; omega
                · obtain rfl : n = k := by omega
                  obtain ⟨vo, hE, hv⟩ := R.out.obj
                  rw [List.take_of_length_le (by rw [HSL.out]; exact Nat.le_refl _)] at hE
                  obtain ⟨go, co, hvo, _, _⟩ := World.ownsRow.form hE.row h0
                  rw [hvo] at hE hv
                  have HE := hid hE
                  have HVO := hid (hv go rfl)
                  clear hE hv hvo
                  go_wp2_with fail
                  refine (mark21 0 0 ip wr).mono ?_
                  rintro e w6 ⟨rfl, hF6⟩
                  have HE6 := hid (HE.out.kept hF6 (fun f => f) (fun _ _ f => f))
                  have HL6 := hid (R.out.lc.kept hF6 (fun _ _ f => f.elim))
                  obtain ⟨hp1, hp2, hp3, hp4⟩ := R.out.pend rfl
                  have HP6 : Hid (w6.cell? ⟨gp, 0, none⟩ = some (.int .i64 start)) := by show _ = _; rw [hF6.cell (p := ⟨gp, 0, none⟩) hp4 (fun f => f)]; exact hp1
                  clear hp1 hF6
                  obtain ⟨_, hco, hrow⟩ := HE6.out.hrow (B := B)
                  have E20 := hid (end20_two N go gp co pc start va B.length B.length B sp ip w6 HE6.out.blk HL6.out.bod HY.out hrow HP6.out HC0.out hco hpc (fun e => by have := HE6.out.apart; rw [e] at this; exact this rfl) hp2 (fun e => HVO.out.2 (by first | trivial | rfl) e.symm) (fun g hg => by have := HL6.out.na g hg; have := HVO.out.1; refine ⟨by omega, by omega, by omega⟩) (by omega) (by rw [HSL.out]; omega))
                  clear hco hrow
                  go_wp2_with fail
                  refine E20.out.mono ?_
                  rintro e w7 ⟨rfl, A, C, sc, hpA, haA, hC, hCl, hCt, hO7, hF7⟩
                  have HFIN := hid (fin_of HL6.out (Nat.le_refl _) HVO.out.1 hC hO7 hF7)
                  have HPC : Hid (∀ A2 : List Sp, A2.Perm sp → A2.Pairwise (fun a b => leB B a b = true) → Pieces B C (cat B A2) start) := fun A2 h1 h2 => pieces_two HC0.out hpA haA h1 h2 hCl hCt
                  have y7 : w7.cell? ⟨b, off, none⟩ = some (.int .i64 (start : Nat)) := by rw [HFIN.out.below.cell hbw]; exact HX0.out
                  clear E20 HE6 HL6 HP6 hpA haA hC hCl hCt hO7 hF7 HE R hp2 hp3 hp4
                  go_wp2_with fail
                  refine (M23.out w7 HFIN.out.below HFIN.out.orig).mono ?_
                  rintro e w8 ⟨g2, A2, rfl, hP2, hp2', ha2, hbel8⟩
                  have HF8 := hid (HFIN.out.later (fr_of_below hbel8))
                  have HPP := hid (HPC.out A2 hp2' ha2)
                  have hA2 : A2.length = n := by rw [hp2'.length_eq]; exact HSL.out
                  have C22 : Hid (Calls Try.prog 22 #[.slice vb B.length B.length, .slice (some ⟨g2, 0, none⟩) n n] w8 fun e W' => ∃ g' cap', e = .returned (.slice (some ⟨g', 0, none⟩) (cat B A2).length cap') ∧ BytesAt W' (some ⟨g', 0, none⟩) (cat B A2) ∧ Below w8.heap.size w8 W') := by
                    have h := concat22 (.slice vb B.length B.length) B (some ⟨g2, 0, none⟩) n A2 w8 HF8.out.orig hP2.spans (fun x hx => by have hx' := hp2'.mem_iff.1 hx; have h0 : 0 < sp.length := List.length_pos_of_mem hx'; exact ((HCH.out h0).mem x hx').2) (fun k => by have := cat_take_le B A2 k; have := HPP.out.tl; omega) (by omega) (by omega)
                    rw [hA2] at h
                    exact h
                  clear hP2 hp2' ha2 hbel8 hA2 HPC HFIN M23
                  go_wp2_with fail
                  refine C22.out.mono ?_
                  rintro e w9 ⟨g3, cap3, rfl, hT, hbel9⟩
                  have HF9 := hid (HF8.out.later (fr_of_below hbel9))
                  have HT := hid hT
                  clear hT hbel9 C22 HF8
                  go_wp2_with fail
                  have hst : start ≤ B.length := HPP.out.st
                  have z1 : (0 : Int) ≤ (start : Int) := by omega
                  have z2 : (start : Int) ≤ (B.length : Int) := by omega
                  have HTL := hid HPP.out.tl
                  have HPL : Hid ((B.take start).length = start) := by show _ = _; rw [List.length_take]; exact Nat.min_eq_left hst
                  generalize cat B A2 = TT at *
                  generalize hTTl : TT.length = tl at *
                  have HTTL := hid hTTl
                  clear hTTl
                  rcases HF9.out.body with ⟨e1, e2⟩ | ⟨gb, e1, hgb⟩
                  · obtain ⟨e3, e4, _⟩ : va = none ∧ B.length = 0 ∧ B.length = 0 := by simpa using e1
                    subst e3
                    have HB0 := hid (List.eq_nil_of_length_eq_zero e4)
                    clear e1 e4
                    have hB0 := HB0.out
                    subst hB0
                    obtain rfl : start = 0 := by simpa using hst
                    have ht0 : tl = 0 := by have := HTL.out; simpa using this
                    subst ht0
                    have hTT0 : TT = [] := List.eq_nil_of_length_eq_zero HTTL.out
                    subst hTT0
                    rcases HF9.out.orig with ⟨e5, _⟩ | ⟨gc, e5, hgc⟩
                    · obtain ⟨e6, _⟩ : vb = none ∧ True := by simpa using e5
                      subst e6
                      have E1 : Hid (∀ m c1 c2 a1 a2, Calls Try.prog 24 #[.slice a1 0 c1, .slice a2 0 c2] (w9.drewN m) fun e W' => e = .returned (.bool true) ∧ ∃ n, W' = (w9.drewN m).drewN n) := fun m c1 c2 a1 a2 => equal24' _ _ _ _ 0 0 [] _ rfl rfl (bytesAt_nil _ _) (bytesAt_nil _ _) (by omega)
                      go_quiet ((go_at_call 24; exact Calls.quiet_of (E1.out _ _ _ _ _)))
                      obtain ⟨sc9, ho9⟩ := HF9.out.obj
                      have HO9 := hid (ho9.kept (S := fun _ => False) (Fr.drewN _ nq) (fun f => f))
                      clear ho9
                      go_wp2_with (first
                        | (go_at_call 25; refine (openLen25 _ _ _ _ _ _ _ _ HO9.out).mono ?_; rintro e w ⟨rfl, rfl⟩)
                        | (go_at_call 26; refine (pendLen26 _ _ _ _ _ _ _ _ HO9.out).mono ?_; rintro e w ⟨rfl, rfl⟩)
                        | (go_at_call 27; refine (sortedLen27 _ _ _ _ _ _ HO9.out).mono ?_; rintro e w ⟨rfl, rfl⟩)
                        | (go_at_call 28; refine (inPlace28 _ _ _ _ _ _ HO9.out).mono ?_; rintro e w ⟨rfl, rfl⟩))
                      go_ret
                      exact ⟨rfl, below_drewN HF9.out.below _⟩
                    · obtain ⟨e6, _⟩ : vb = some ⟨gc, 0, none⟩ ∧ True := by simpa using e5
                      subst e6
                      have E1 : Hid (∀ m c1 c2 a1 a2, Calls Try.prog 24 #[.slice a1 0 c1, .slice a2 0 c2] (w9.drewN m) fun e W' => e = .returned (.bool true) ∧ ∃ n, W' = (w9.drewN m).drewN n) := fun m c1 c2 a1 a2 => equal24' _ _ _ _ 0 0 [] _ rfl rfl (bytesAt_nil _ _) (bytesAt_nil _ _) (by omega)
                      go_quiet ((go_at_call 24; exact Calls.quiet_of (E1.out _ _ _ _ _)))
                      obtain ⟨sc9, ho9⟩ := HF9.out.obj
                      have HO9 := hid (ho9.kept (S := fun _ => False) (Fr.drewN _ nq) (fun f => f))
                      clear ho9
                      go_wp2_with (first
                        | (go_at_call 25; refine (openLen25 _ _ _ _ _ _ _ _ HO9.out).mono ?_; rintro e w ⟨rfl, rfl⟩)
                        | (go_at_call 26; refine (pendLen26 _ _ _ _ _ _ _ _ HO9.out).mono ?_; rintro e w ⟨rfl, rfl⟩)
                        | (go_at_call 27; refine (sortedLen27 _ _ _ _ _ _ HO9.out).mono ?_; rintro e w ⟨rfl, rfl⟩)
                        | (go_at_call 28; refine (inPlace28 _ _ _ _ _ _ HO9.out).mono ?_; rintro e w ⟨rfl, rfl⟩))
                      go_ret
                      exact ⟨rfl, below_drewN HF9.out.below _⟩
                  · obtain ⟨e3, _⟩ : va = some ⟨gb, 0, none⟩ ∧ True := by first | (simp at e1; exact ⟨e1.1, trivial⟩) | (simp at e1; exact ⟨e1, trivial⟩)
                    subst e3
                    have HG := hid hgb
                    clear e1 hgb
                    rcases HF9.out.orig with ⟨e5, e6⟩ | ⟨gc, e5, hgc⟩
                    · obtain ⟨e7, e8, _⟩ : vb = none ∧ B.length = 0 ∧ B.length = 0 := by simpa using e5
                      subst e7
                      clear e5 e8
                      subst e6
                      obtain rfl : start = 0 := by simpa using hst
                      have ht0 : tl = 0 := by have := HTL.out; simpa using this
                      subst ht0
                      have hTT0 : TT = [] := List.eq_nil_of_length_eq_zero HTTL.out
                      subst hTT0
                      have E1 : Hid (∀ m c1 c2 a1 a2, Calls Try.prog 24 #[.slice a1 0 c1, .slice a2 0 c2] (w9.drewN m) fun e W' => e = .returned (.bool true) ∧ ∃ n, W' = (w9.drewN m).drewN n) := fun m c1 c2 a1 a2 => equal24' _ _ _ _ 0 0 [] _ rfl rfl (bytesAt_nil _ _) (bytesAt_nil _ _) (by omega)
                      go_quiet ((go_at_call 24; exact Calls.quiet_of (E1.out _ _ _ _ _)))
                      obtain ⟨sc9, ho9⟩ := HF9.out.obj
                      have HO9 := hid (ho9.kept (S := fun _ => False) (Fr.drewN _ nq) (fun f => f))
                      clear ho9
                      go_wp2_with (first
                        | (go_at_call 25; refine (openLen25 _ _ _ _ _ _ _ _ HO9.out).mono ?_; rintro e w ⟨rfl, rfl⟩)
                        | (go_at_call 26; refine (pendLen26 _ _ _ _ _ _ _ _ HO9.out).mono ?_; rintro e w ⟨rfl, rfl⟩)
                        | (go_at_call 27; refine (sortedLen27 _ _ _ _ _ _ HO9.out).mono ?_; rintro e w ⟨rfl, rfl⟩)
                        | (go_at_call 28; refine (inPlace28 _ _ _ _ _ _ HO9.out).mono ?_; rintro e w ⟨rfl, rfl⟩))
                      go_ret
                      exact ⟨rfl, below_drewN HF9.out.below _⟩
                    · obtain ⟨e7, _⟩ : vb = some ⟨gc, 0, none⟩ ∧ True := by first | (simp at e5; exact ⟨e5, trivial⟩) | (simp at e5; exact ⟨e5.1, trivial⟩)
                      subst e7
                      have HG2 := hid hgc
                      clear e5 hgc
                      have E1 : Hid (∀ m c1 c2, Calls Try.prog 24 #[.slice (some ⟨gb, 0, none⟩) start c1, .slice (some ⟨gc, 0, none⟩) start c2] (w9.drewN m) fun e W' => e = .returned (.bool true) ∧ ∃ n, W' = (w9.drewN m).drewN n) := fun m c1 c2 => equal24' _ _ _ _ start start (B.take start) _ HPL.out HPL.out ((HPP.out.pre ▸ pre_at (start := start) HG.out : BytesAt w9 (some ⟨gb, 0, none⟩) (B.take start)).later (Fr.drewN _ _)) ((pre_at HG2.out).later (Fr.drewN _ _)) (by omega)
                      have E2 : Hid (∀ m c1 c2, Calls Try.prog 24 #[.slice (if B.length = start then some ⟨gb, 0, none⟩ else some ⟨gb, start, none⟩) (B.length - start) c1, .slice (some ⟨g3, 0, none⟩) tl c2] (w9.drewN m) fun e W' => e = .returned (.bool true) ∧ ∃ n, W' = (w9.drewN m).drewN n) := fun m c1 c2 => equal24' _ _ _ _ (B.length - start) tl TT _ (by rw [HTTL.out]; exact HTL.out) HTTL.out ((HPP.out.suf rfl ▸ seg_at HG.out HPP.out.len.symm start B.length hst (Nat.le_refl _) _ : BytesAt w9 (if B.length = start then some ⟨gb, 0, none⟩ else some ⟨gb, start, none⟩) TT).later (Fr.drewN _ _)) (HT.out.later (Fr.drewN _ _)) (by omega)
                      have E3 : Hid (∀ m c1 c2 (a1 a2 : Option Addr) (n1 n2 : Nat), ((a1 = some ⟨gb, 0, none⟩ ∧ n1 = start) ∧ (a2 = some ⟨gc, 0, none⟩ ∧ n2 = start)) ∨ ((a1 = (if B.length = start then some ⟨gb, 0, none⟩ else some ⟨gb, start, none⟩) ∧ n1 = B.length - start) ∧ (a2 = some ⟨g3, 0, none⟩ ∧ n2 = tl)) → Calls Try.prog 24 #[.slice a1 n1 c1, .slice a2 n2 c2] (w9.drewN m) fun e W' => e = .returned (.bool true) ∧ ∃ n, W' = (w9.drewN m).drewN n) := by
                        intro m c1 c2 a1 a2 n1 n2 h
                        rcases h with ⟨⟨rfl, rfl⟩, rfl, rfl⟩ | ⟨⟨rfl, rfl⟩, rfl, rfl⟩
                        · exact E1.out m c1 c2
                        · exact E2.out m c1 c2
                      clear E1 E2
                      go_quiet ((go_at_call 24; refine Calls.quiet_of (E3.out _ _ _ _ _ _ _ ?_); first | exact .inl ⟨⟨rfl, rfl⟩, rfl, rfl⟩ | exact .inr ⟨⟨rfl, rfl⟩, rfl, rfl⟩))
                      generalize (if B.length = start then some (⟨gb, 0, none⟩ : Addr) else some ⟨gb, start, none⟩) = AX
                      obtain ⟨sc9, ho9⟩ := HF9.out.obj
                      have HO9 := hid (ho9.kept (S := fun _ => False) (Fr.drewN _ nq) (fun f => f))
                      clear ho9
                      go_wp2_with (first
                        | (go_at_call 25; refine (openLen25 _ _ _ _ _ _ _ _ HO9.out).mono ?_; rintro e w ⟨rfl, rfl⟩)
                        | (go_at_call 26; refine (pendLen26 _ _ _ _ _ _ _ _ HO9.out).mono ?_; rintro e w ⟨rfl, rfl⟩)
                        | (go_at_call 27; refine (sortedLen27 _ _ _ _ _ _ HO9.out).mono ?_; rintro e w ⟨rfl, rfl⟩)
                        | (go_at_call 28; refine (inPlace28 _ _ _ _ _ _ HO9.out).mono ?_; rintro e w ⟨rfl, rfl⟩))
                      go_ret
                      exact ⟨rfl, below_drewN HF9.out.below _⟩
            · by_cases h0n : 0 < n
              · have h0 : 0 < sp.length := by rw [HSL.out]; omega
                have HC0 := hid (HCH.out h0)
                obtain ⟨b, off, rfl, x0, x1⟩ := HSP.out 0 h0
                have hbw : b < w'.heap.size := World.block_lt_of_cell? _ _ x0
                rw [show off + 0 * 2 = off by omega] at x0
                have HX0 := hid x0
                clear x0 x1
                generalize sp[0].1 = start at *
                have HOL : Hid (OL w' N N va vb B (.slice none 0 0) ip 0 sp 0 0 0 w3) := ⟨⟨.slice none 0 0, ⟨HO3.out, World.ownsRow_nil _ _ _ _⟩, fun g hg => by simp [Value.ownBlock] at hg⟩, HLC.out, fun e => absurd e (by decide), Nat.le_refl _⟩
                clear HLC HO3
                go_wp2_with fail
                go_loopw [11] (fun t wr => ∃ k : Nat, k ≤ n ∧ t = .int .i64 k ∧ OL w' N N va vb B (.slice none 0 0) ip 0 sp 0 0 k wr) (fun t _ => n - (intOf t).toNat)
                case atStart => exact ⟨0, Nat.zero_le _, rfl, HOL.out⟩
                case round =>
                  obtain ⟨k, hk, rfl, R1⟩ := hrel
                  have R := hid R1
                  clear R1 HOL
                  by_cases hkn : k < n
                  · obtain ⟨vo, hE, hv⟩ := R.out.obj
                    have hks : k < sp.length := by rw [HSL.out]; exact hkn
                    obtain ⟨b2, off2, e2, x0, x1⟩ := HSP.out k hks
                    obtain ⟨rfl, rfl⟩ : b = b2 ∧ off = off2 := by simpa using e2
                    have c0 : wr.cell? ⟨b, off + k * 2, none⟩ = some (.int .i64 (sp[k].1 : Nat)) := by rw [R.out.lc.below.cell hbw]; exact x0
                    have c1 : wr.cell? ⟨b, off + k * 2 + 1, none⟩ = some (.int .i64 (sp[k].2 : Nat)) := by rw [R.out.lc.below.cell hbw]; exact x1
                    have HO19 := hid (open19 N sp[k].1 sp[k].2 vo (.slice none 0 0) ip 0 (sp.take k) wr.drew (hE.kept (S := fun _ => False) (Fr.drew _) (fun f => f) (fun _ _ f => f)) (by simp; omega))
                    have HNX : Hid (∀ w5, Opened wr.drew N vo (.slice none 0 0) ip 0 (sp.take k ++ [(sp[k].1, sp[k].2)]) w5 → OL w' N N va vb B (.slice none 0 0) ip 0 sp 0 0 (k + 1) w5) := fun w5 ho => OL.next hks hE hv R.out.lc R.out.pend R.out.hq ho
                    have HXX : Hid (∀ w5, OL w' N N va vb B (.slice none 0 0) ip 0 sp 0 0 (k + 1) w5 → w5.cell? ⟨b, off + k * 2, none⟩ = some (.int .i64 (sp[k].1 : Nat)) ∧ w5.cell? ⟨b, off + k * 2 + 1, none⟩ = some (.int .i64 (sp[k].2 : Nat))) := fun w5 ho => ⟨by rw [ho.lc.below.cell hbw]; exact x0, by rw [ho.lc.below.cell hbw]; exact x1⟩
                    clear x0 x1 e2 hE hv
                    go_wp2_with fail
                    go_region_held3 (fun z => z.cell? ⟨b, off + k * 2, none⟩ = some (.int .i64 (sp[k].1 : Nat)) ∧ z.cell? ⟨b, off + k * 2 + 1, none⟩ = some (.int .i64 (sp[k].2 : Nat))) (go_keep)
                      (first | (go_at_call 19; refine HO19.out.mono ?_; rintro e w5 ⟨rfl, hOp⟩; have HN5 := hid (HNX.out w5 hOp); obtain ⟨s0, s1⟩ := HXX.out w5 HN5.out; clear hOp))
                    go_wp2_with fail
                    go_roundw
                    case rel => exact ⟨k + 1, by omega, by go_num, HN5.out⟩
                    case measure => simp [intOf]; omega
                  · obtain rfl : n = k := by omega
                    obtain ⟨vo, hE, hv⟩ := R.out.obj
                    rw [List.take_of_length_le (by rw [HSL.out]; exact Nat.le_refl _)] at hE
                    obtain ⟨go, co, hvo, _, _⟩ := World.ownsRow.form hE.row h0
                    rw [hvo] at hE hv
                    have HE := hid hE
                    clear hE hv hvo
                    go_wp2_with fail
                    refine (mark21 0 (-1) ip wr).mono ?_
                    rintro e w6 ⟨rfl, hF6⟩
                    have HE6 := hid (HE.out.kept hF6 (fun f => f) (fun _ _ f => f))
                    have HL6 := hid (R.out.lc.kept hF6 (fun _ _ f => f.elim))
                    clear hF6
                    have hco := HE6.out.cap.2
                    have hs1 : sp.length = 1 := by rw [HSL.out]; omega
                    have hO6 := HE6.out.blk
                    rw [hs1] at hO6 hco
                    have E20 := hid (end20_one N go co va B.length B.length (.slice none 0 0) ip w6 hO6 hco)
                    have HS1 := hid hs1
                    clear hco hO6 hs1
                    go_wp2_with fail
                    refine E20.out.mono ?_
                    rintro e w7 ⟨rfl, hO7, hF7⟩
                    have HFIN := hid (fin_of_nil HL6.out (Nat.le_refl _) hO7 hF7)
                    have HPC : Hid (∀ A2 : List Sp, A2.Perm sp → A2.Pairwise (fun a b => leB B a b = true) → Pieces B B (cat B A2) start) := fun A2 h1 _ => pieces_one HC0.out h1 HS1.out
                    have y7 : w7.cell? ⟨b, off, none⟩ = some (.int .i64 (start : Nat)) := by rw [HFIN.out.below.cell hbw]; exact HX0.out
                    clear E20 HE6 HL6 hO7 hF7 HE R
                    go_wp2_with fail
                    refine (M23.out w7 HFIN.out.below HFIN.out.orig).mono ?_
                    rintro e w8 ⟨g2, A2, rfl, hP2, hp2', ha2, hbel8⟩
                    have HF8 := hid (HFIN.out.later (fr_of_below hbel8))
                    have HPP := hid (HPC.out A2 hp2' ha2)
                    have hA2 : A2.length = n := by rw [hp2'.length_eq]; exact HSL.out
                    have C22 : Hid (Calls Try.prog 22 #[.slice vb B.length B.length, .slice (some ⟨g2, 0, none⟩) n n] w8 fun e W' => ∃ g' cap', e = .returned (.slice (some ⟨g', 0, none⟩) (cat B A2).length cap') ∧ BytesAt W' (some ⟨g', 0, none⟩) (cat B A2) ∧ Below w8.heap.size w8 W') := by
                      have h := concat22 (.slice vb B.length B.length) B (some ⟨g2, 0, none⟩) n A2 w8 HF8.out.orig hP2.spans (fun x hx => by have hx' := hp2'.mem_iff.1 hx; have h0 : 0 < sp.length := List.length_pos_of_mem hx'; exact ((HCH.out h0).mem x hx').2) (fun k => by have := cat_take_le B A2 k; have := HPP.out.tl; omega) (by omega) (by omega)
                      rw [hA2] at h
                      exact h
                    clear hP2 hp2' ha2 hbel8 hA2 HPC HFIN M23
                    go_wp2_with fail
                    refine C22.out.mono ?_
                    rintro e w9 ⟨g3, cap3, rfl, hT, hbel9⟩
                    have HF9 := hid (HF8.out.later (fr_of_below hbel9))
                    have HT := hid hT
                    clear hT hbel9 C22 HF8
                    go_wp2_with fail
                    have hst : start ≤ B.length := HPP.out.st
                    have z1 : (0 : Int) ≤ (start : Int) := by omega
                    have z2 : (start : Int) ≤ (B.length : Int) := by omega
                    have HTL := hid HPP.out.tl
                    have HPL : Hid ((B.take start).length = start) := by show _ = _; rw [List.length_take]; exact Nat.min_eq_left hst
                    generalize cat B A2 = TT at *
                    generalize hTTl : TT.length = tl at *
                    have HTTL := hid hTTl
                    clear hTTl
                    rcases HF9.out.body with ⟨e1, e2⟩ | ⟨gb, e1, hgb⟩
                    · obtain ⟨e3, e4, _⟩ : va = none ∧ B.length = 0 ∧ B.length = 0 := by simpa using e1
                      subst e3
                      have HB0 := hid (List.eq_nil_of_length_eq_zero e4)
                      clear e1 e4
                      have hB0 := HB0.out
                      subst hB0
                      obtain rfl : start = 0 := by simpa using hst
                      have ht0 : tl = 0 := by have := HTL.out; simpa using this
                      subst ht0
                      have hTT0 : TT = [] := List.eq_nil_of_length_eq_zero HTTL.out
                      subst hTT0
                      rcases HF9.out.orig with ⟨e5, _⟩ | ⟨gc, e5, hgc⟩
                      · obtain ⟨e6, _⟩ : vb = none ∧ True := by simpa using e5
                        subst e6
                        have E1 : Hid (∀ m c1 c2 a1 a2, Calls Try.prog 24 #[.slice a1 0 c1, .slice a2 0 c2] (w9.drewN m) fun e W' => e = .returned (.bool true) ∧ ∃ n, W' = (w9.drewN m).drewN n) := fun m c1 c2 a1 a2 => equal24' _ _ _ _ 0 0 [] _ rfl rfl (bytesAt_nil _ _) (bytesAt_nil _ _) (by omega)
                        go_quiet ((go_at_call 24; exact Calls.quiet_of (E1.out _ _ _ _ _)))
                        obtain ⟨sc9, ho9⟩ := HF9.out.obj
                        have HO9 := hid (ho9.kept (S := fun _ => False) (Fr.drewN _ nq) (fun f => f))
                        clear ho9
                        go_wp2_with (first
                          | (go_at_call 25; refine (openLen25 _ _ _ _ _ _ _ _ HO9.out).mono ?_; rintro e w ⟨rfl, rfl⟩)
                          | (go_at_call 26; refine (pendLen26 _ _ _ _ _ _ _ _ HO9.out).mono ?_; rintro e w ⟨rfl, rfl⟩)
                          | (go_at_call 27; refine (sortedLen27 _ _ _ _ _ _ HO9.out).mono ?_; rintro e w ⟨rfl, rfl⟩)
                          | (go_at_call 28; refine (inPlace28 _ _ _ _ _ _ HO9.out).mono ?_; rintro e w ⟨rfl, rfl⟩))
                        go_ret
                        exact ⟨rfl, below_drewN HF9.out.below _⟩
                      · obtain ⟨e6, _⟩ : vb = some ⟨gc, 0, none⟩ ∧ True := by simpa using e5
                        subst e6
                        have E1 : Hid (∀ m c1 c2 a1 a2, Calls Try.prog 24 #[.slice a1 0 c1, .slice a2 0 c2] (w9.drewN m) fun e W' => e = .returned (.bool true) ∧ ∃ n, W' = (w9.drewN m).drewN n) := fun m c1 c2 a1 a2 => equal24' _ _ _ _ 0 0 [] _ rfl rfl (bytesAt_nil _ _) (bytesAt_nil _ _) (by omega)
                        go_quiet ((go_at_call 24; exact Calls.quiet_of (E1.out _ _ _ _ _)))
                        obtain ⟨sc9, ho9⟩ := HF9.out.obj
                        have HO9 := hid (ho9.kept (S := fun _ => False) (Fr.drewN _ nq) (fun f => f))
                        clear ho9
                        go_wp2_with (first
                          | (go_at_call 25; refine (openLen25 _ _ _ _ _ _ _ _ HO9.out).mono ?_; rintro e w ⟨rfl, rfl⟩)
                          | (go_at_call 26; refine (pendLen26 _ _ _ _ _ _ _ _ HO9.out).mono ?_; rintro e w ⟨rfl, rfl⟩)
                          | (go_at_call 27; refine (sortedLen27 _ _ _ _ _ _ HO9.out).mono ?_; rintro e w ⟨rfl, rfl⟩)
                          | (go_at_call 28; refine (inPlace28 _ _ _ _ _ _ HO9.out).mono ?_; rintro e w ⟨rfl, rfl⟩))
                        go_ret
                        exact ⟨rfl, below_drewN HF9.out.below _⟩
                    · obtain ⟨e3, _⟩ : va = some ⟨gb, 0, none⟩ ∧ True := by first | (simp at e1; exact ⟨e1.1, trivial⟩) | (simp at e1; exact ⟨e1, trivial⟩)
                      subst e3
                      have HG := hid hgb
                      clear e1 hgb
                      rcases HF9.out.orig with ⟨e5, e6⟩ | ⟨gc, e5, hgc⟩
                      · obtain ⟨e7, e8, _⟩ : vb = none ∧ B.length = 0 ∧ B.length = 0 := by simpa using e5
                        subst e7
                        clear e5 e8
                        subst e6
                        obtain rfl : start = 0 := by simpa using hst
                        have ht0 : tl = 0 := by have := HTL.out; simpa using this
                        subst ht0
                        have hTT0 : TT = [] := List.eq_nil_of_length_eq_zero HTTL.out
                        subst hTT0
                        have E1 : Hid (∀ m c1 c2 a1 a2, Calls Try.prog 24 #[.slice a1 0 c1, .slice a2 0 c2] (w9.drewN m) fun e W' => e = .returned (.bool true) ∧ ∃ n, W' = (w9.drewN m).drewN n) := fun m c1 c2 a1 a2 => equal24' _ _ _ _ 0 0 [] _ rfl rfl (bytesAt_nil _ _) (bytesAt_nil _ _) (by omega)
                        go_quiet ((go_at_call 24; exact Calls.quiet_of (E1.out _ _ _ _ _)))
                        obtain ⟨sc9, ho9⟩ := HF9.out.obj
                        have HO9 := hid (ho9.kept (S := fun _ => False) (Fr.drewN _ nq) (fun f => f))
                        clear ho9
                        go_wp2_with (first
                          | (go_at_call 25; refine (openLen25 _ _ _ _ _ _ _ _ HO9.out).mono ?_; rintro e w ⟨rfl, rfl⟩)
                          | (go_at_call 26; refine (pendLen26 _ _ _ _ _ _ _ _ HO9.out).mono ?_; rintro e w ⟨rfl, rfl⟩)
                          | (go_at_call 27; refine (sortedLen27 _ _ _ _ _ _ HO9.out).mono ?_; rintro e w ⟨rfl, rfl⟩)
                          | (go_at_call 28; refine (inPlace28 _ _ _ _ _ _ HO9.out).mono ?_; rintro e w ⟨rfl, rfl⟩))
                        go_ret
                        exact ⟨rfl, below_drewN HF9.out.below _⟩
                      · obtain ⟨e7, _⟩ : vb = some ⟨gc, 0, none⟩ ∧ True := by first | (simp at e5; exact ⟨e5, trivial⟩) | (simp at e5; exact ⟨e5.1, trivial⟩)
                        subst e7
                        have HG2 := hid hgc
                        clear e5 hgc
                        have E1 : Hid (∀ m c1 c2, Calls Try.prog 24 #[.slice (some ⟨gb, 0, none⟩) start c1, .slice (some ⟨gc, 0, none⟩) start c2] (w9.drewN m) fun e W' => e = .returned (.bool true) ∧ ∃ n, W' = (w9.drewN m).drewN n) := fun m c1 c2 => equal24' _ _ _ _ start start (B.take start) _ HPL.out HPL.out ((HPP.out.pre ▸ pre_at (start := start) HG.out : BytesAt w9 (some ⟨gb, 0, none⟩) (B.take start)).later (Fr.drewN _ _)) ((pre_at HG2.out).later (Fr.drewN _ _)) (by omega)
                        have E2 : Hid (∀ m c1 c2, Calls Try.prog 24 #[.slice (if B.length = start then some ⟨gb, 0, none⟩ else some ⟨gb, start, none⟩) (B.length - start) c1, .slice (some ⟨g3, 0, none⟩) tl c2] (w9.drewN m) fun e W' => e = .returned (.bool true) ∧ ∃ n, W' = (w9.drewN m).drewN n) := fun m c1 c2 => equal24' _ _ _ _ (B.length - start) tl TT _ (by rw [HTTL.out]; exact HTL.out) HTTL.out ((HPP.out.suf rfl ▸ seg_at HG.out HPP.out.len.symm start B.length hst (Nat.le_refl _) _ : BytesAt w9 (if B.length = start then some ⟨gb, 0, none⟩ else some ⟨gb, start, none⟩) TT).later (Fr.drewN _ _)) (HT.out.later (Fr.drewN _ _)) (by omega)
                        have E3 : Hid (∀ m c1 c2 (a1 a2 : Option Addr) (n1 n2 : Nat), ((a1 = some ⟨gb, 0, none⟩ ∧ n1 = start) ∧ (a2 = some ⟨gc, 0, none⟩ ∧ n2 = start)) ∨ ((a1 = (if B.length = start then some ⟨gb, 0, none⟩ else some ⟨gb, start, none⟩) ∧ n1 = B.length - start) ∧ (a2 = some ⟨g3, 0, none⟩ ∧ n2 = tl)) → Calls Try.prog 24 #[.slice a1 n1 c1, .slice a2 n2 c2] (w9.drewN m) fun e W' => e = .returned (.bool true) ∧ ∃ n, W' = (w9.drewN m).drewN n) := by
                          intro m c1 c2 a1 a2 n1 n2 h
                          rcases h with ⟨⟨rfl, rfl⟩, rfl, rfl⟩ | ⟨⟨rfl, rfl⟩, rfl, rfl⟩
                          · exact E1.out m c1 c2
                          · exact E2.out m c1 c2
                        clear E1 E2
                        go_quiet ((go_at_call 24; refine Calls.quiet_of (E3.out _ _ _ _ _ _ _ ?_); first | exact .inl ⟨⟨rfl, rfl⟩, rfl, rfl⟩ | exact .inr ⟨⟨rfl, rfl⟩, rfl, rfl⟩))
                        generalize (if B.length = start then some (⟨gb, 0, none⟩ : Addr) else some ⟨gb, start, none⟩) = AX
                        obtain ⟨sc9, ho9⟩ := HF9.out.obj
                        have HO9 := hid (ho9.kept (S := fun _ => False) (Fr.drewN _ nq) (fun f => f))
                        clear ho9
                        go_wp2_with (first
                          | (go_at_call 25; refine (openLen25 _ _ _ _ _ _ _ _ HO9.out).mono ?_; rintro e w ⟨rfl, rfl⟩)
                          | (go_at_call 26; refine (pendLen26 _ _ _ _ _ _ _ _ HO9.out).mono ?_; rintro e w ⟨rfl, rfl⟩)
                          | (go_at_call 27; refine (sortedLen27 _ _ _ _ _ _ HO9.out).mono ?_; rintro e w ⟨rfl, rfl⟩)
                          | (go_at_call 28; refine (inPlace28 _ _ _ _ _ _ HO9.out).mono ?_; rintro e w ⟨rfl, rfl⟩))
                        go_ret
                        exact ⟨rfl, below_drewN HF9.out.below _⟩
              · have HS0 : Hid (sp.length = 0) := by show _ = _; rw [HSL.out]; omega
                have hn0 : n = 0 := by omega
                subst hn0
                go_wp2_with fail
                go_loopw [11] (fun t wr => t = .int .i64 0 ∧ wr = w3) (fun _ _ => 0)
                case atStart => exact ⟨rfl, rfl⟩
                case round =>
                  obtain ⟨rfl, rfl⟩ := hrel
                  go_wp2_with fail
                  refine (mark21 0 (-1) ip _).mono ?_
                  rintro e w6 ⟨rfl, hF6⟩
                  have HL6 := hid (HLC.out.kept hF6 (fun _ _ f => f.elim))
                  have E20 := hid (end20_none N va B.length B.length (.slice none 0 0) ip w6 (HO3.out.kept hF6 (fun f => f)))
                  clear hF6
                  go_wp2_with fail
                  refine E20.out.mono ?_
                  rintro e w7 ⟨rfl, hO7, hF7⟩
                  have HFIN := hid (fin_of_nil HL6.out (Nat.le_refl _) hO7 hF7)
                  have HPC : Hid (∀ A2 : List Sp, A2.Perm sp → A2.Pairwise (fun a b => leB B a b = true) → Pieces B B (cat B A2) B.length) := fun A2 h1 _ => pieces_none h1 HS0.out
                  clear E20 HL6 hO7 hF7
                  go_wp2_with fail
                  refine (M23.out w7 HFIN.out.below HFIN.out.orig).mono ?_
                  rintro e w8 ⟨g2, A2, rfl, hP2, hp2', ha2, hbel8⟩
                  have HF8 := hid (HFIN.out.later (fr_of_below hbel8))
                  have HPP := hid (HPC.out A2 hp2' ha2)
                  have hA2 : A2.length = 0 := by rw [hp2'.length_eq]; exact HSL.out
                  have C22 : Hid (Calls Try.prog 22 #[.slice vb B.length B.length, .slice (some ⟨g2, 0, none⟩) 0 0] w8 fun e W' => ∃ g' cap', e = .returned (.slice (some ⟨g', 0, none⟩) (cat B A2).length cap') ∧ BytesAt W' (some ⟨g', 0, none⟩) (cat B A2) ∧ Below w8.heap.size w8 W') := by
                    have h := concat22 (.slice vb B.length B.length) B (some ⟨g2, 0, none⟩) 0 A2 w8 HF8.out.orig hP2.spans (fun x hx => by have hx' := hp2'.mem_iff.1 hx; have h0 : 0 < sp.length := List.length_pos_of_mem hx'; exact ((HCH.out h0).mem x hx').2) (fun k => by have := cat_take_le B A2 k; have := HPP.out.tl; omega) (by omega) (by omega)
                    rw [hA2] at h
                    exact h
                  clear hP2 hp2' ha2 hbel8 hA2 HPC HFIN M23
                  go_wp2_with fail
                  refine C22.out.mono ?_
                  rintro e w9 ⟨g3, cap3, rfl, hT, hbel9⟩
                  have HF9 := hid (HF8.out.later (fr_of_below hbel9))
                  have HT := hid hT
                  clear hT hbel9 C22 HF8
                  go_wp2_with fail
                  have HTL := hid HPP.out.tl
                  generalize cat B A2 = TT at *
                  generalize hTTl : TT.length = tl at *
                  have HTTL := hid hTTl
                  clear hTTl
                  have ht0 : tl = 0 := by have := HTL.out; omega
                  subst ht0
                  have hTT0 : TT = [] := List.eq_nil_of_length_eq_zero HTTL.out
                  subst hTT0
                  rcases HF9.out.body with ⟨e1, e2⟩ | ⟨gb, e1, hgb⟩
                  · obtain ⟨e3, e4, _⟩ : va = none ∧ B.length = 0 ∧ B.length = 0 := by simpa using e1
                    subst e3
                    have HB0 := hid (List.eq_nil_of_length_eq_zero e4)
                    clear e1 e4
                    have hB0 := HB0.out
                    subst hB0
                    rcases HF9.out.orig with ⟨e5, _⟩ | ⟨gc, e5, hgc⟩
                    · obtain ⟨e6, _⟩ : vb = none ∧ True := by simpa using e5
                      subst e6
                      have E1 : Hid (∀ m c1 c2 a1 a2, Calls Try.prog 24 #[.slice a1 0 c1, .slice a2 0 c2] (w9.drewN m) fun e W' => e = .returned (.bool true) ∧ ∃ n, W' = (w9.drewN m).drewN n) := fun m c1 c2 a1 a2 => equal24' _ _ _ _ 0 0 [] _ rfl rfl (bytesAt_nil _ _) (bytesAt_nil _ _) (by omega)
                      go_quiet ((go_at_call 24; exact Calls.quiet_of (E1.out _ _ _ _ _)))
                      obtain ⟨sc9, ho9⟩ := HF9.out.obj
                      have HO9 := hid (ho9.kept (S := fun _ => False) (Fr.drewN _ nq) (fun f => f))
                      clear ho9
                      go_wp2_with (first
                        | (go_at_call 25; refine (openLen25 _ _ _ _ _ _ _ _ HO9.out).mono ?_; rintro e w ⟨rfl, rfl⟩)
                        | (go_at_call 26; refine (pendLen26 _ _ _ _ _ _ _ _ HO9.out).mono ?_; rintro e w ⟨rfl, rfl⟩)
                        | (go_at_call 27; refine (sortedLen27 _ _ _ _ _ _ HO9.out).mono ?_; rintro e w ⟨rfl, rfl⟩)
                        | (go_at_call 28; refine (inPlace28 _ _ _ _ _ _ HO9.out).mono ?_; rintro e w ⟨rfl, rfl⟩))
                      go_ret
                      exact ⟨rfl, below_drewN HF9.out.below _⟩
                    · obtain ⟨e6, _⟩ : vb = some ⟨gc, 0, none⟩ ∧ True := by simpa using e5
                      subst e6
                      have E1 : Hid (∀ m c1 c2 a1 a2, Calls Try.prog 24 #[.slice a1 0 c1, .slice a2 0 c2] (w9.drewN m) fun e W' => e = .returned (.bool true) ∧ ∃ n, W' = (w9.drewN m).drewN n) := fun m c1 c2 a1 a2 => equal24' _ _ _ _ 0 0 [] _ rfl rfl (bytesAt_nil _ _) (bytesAt_nil _ _) (by omega)
                      go_quiet ((go_at_call 24; exact Calls.quiet_of (E1.out _ _ _ _ _)))
                      obtain ⟨sc9, ho9⟩ := HF9.out.obj
                      have HO9 := hid (ho9.kept (S := fun _ => False) (Fr.drewN _ nq) (fun f => f))
                      clear ho9
                      go_wp2_with (first
                        | (go_at_call 25; refine (openLen25 _ _ _ _ _ _ _ _ HO9.out).mono ?_; rintro e w ⟨rfl, rfl⟩)
                        | (go_at_call 26; refine (pendLen26 _ _ _ _ _ _ _ _ HO9.out).mono ?_; rintro e w ⟨rfl, rfl⟩)
                        | (go_at_call 27; refine (sortedLen27 _ _ _ _ _ _ HO9.out).mono ?_; rintro e w ⟨rfl, rfl⟩)
                        | (go_at_call 28; refine (inPlace28 _ _ _ _ _ _ HO9.out).mono ?_; rintro e w ⟨rfl, rfl⟩))
                      go_ret
                      exact ⟨rfl, below_drewN HF9.out.below _⟩
                  · obtain ⟨e3, _⟩ : va = some ⟨gb, 0, none⟩ ∧ True := by first | (simp at e1; exact ⟨e1.1, trivial⟩) | (simp at e1; exact ⟨e1, trivial⟩)
                    subst e3
                    have HG := hid hgb
                    clear e1 hgb
                    rcases HF9.out.orig with ⟨e5, e6⟩ | ⟨gc, e5, hgc⟩
                    · obtain ⟨e7, e8, _⟩ : vb = none ∧ B.length = 0 ∧ B.length = 0 := by simpa using e5
                      subst e7
                      clear e5 e8
                      subst e6
                      have E1 : Hid (∀ m c1 c2 a1 a2, Calls Try.prog 24 #[.slice a1 0 c1, .slice a2 0 c2] (w9.drewN m) fun e W' => e = .returned (.bool true) ∧ ∃ n, W' = (w9.drewN m).drewN n) := fun m c1 c2 a1 a2 => equal24' _ _ _ _ 0 0 [] _ rfl rfl (bytesAt_nil _ _) (bytesAt_nil _ _) (by omega)
                      go_quiet ((go_at_call 24; exact Calls.quiet_of (E1.out _ _ _ _ _)))
                      obtain ⟨sc9, ho9⟩ := HF9.out.obj
                      have HO9 := hid (ho9.kept (S := fun _ => False) (Fr.drewN _ nq) (fun f => f))
                      clear ho9
                      go_wp2_with (first
                        | (go_at_call 25; refine (openLen25 _ _ _ _ _ _ _ _ HO9.out).mono ?_; rintro e w ⟨rfl, rfl⟩)
                        | (go_at_call 26; refine (pendLen26 _ _ _ _ _ _ _ _ HO9.out).mono ?_; rintro e w ⟨rfl, rfl⟩)
                        | (go_at_call 27; refine (sortedLen27 _ _ _ _ _ _ HO9.out).mono ?_; rintro e w ⟨rfl, rfl⟩)
                        | (go_at_call 28; refine (inPlace28 _ _ _ _ _ _ HO9.out).mono ?_; rintro e w ⟨rfl, rfl⟩))
                      go_ret
                      exact ⟨rfl, below_drewN HF9.out.below _⟩
                    · obtain ⟨e7, _⟩ : vb = some ⟨gc, 0, none⟩ ∧ True := by first | (simp at e5; exact ⟨e5, trivial⟩) | (simp at e5; exact ⟨e5.1, trivial⟩)
                      subst e7
                      have HG2 := hid hgc
                      clear e5 hgc
                      have E3 : Hid (∀ m c1 c2 (a1 a2 : Option Addr) (n1 n2 : Nat), ((a1 = some ⟨gb, 0, none⟩ ∧ n1 = B.length) ∧ (a2 = some ⟨gc, 0, none⟩ ∧ n2 = B.length)) ∨ (n1 = 0 ∧ n2 = 0) → Calls Try.prog 24 #[.slice a1 n1 c1, .slice a2 n2 c2] (w9.drewN m) fun e W' => e = .returned (.bool true) ∧ ∃ n, W' = (w9.drewN m).drewN n) := by
                        intro m c1 c2 a1 a2 n1 n2 h
                        rcases h with ⟨⟨rfl, rfl⟩, rfl, rfl⟩ | ⟨rfl, rfl⟩
                        · have hp := HPP.out.pre
                          have hg := pre_at (start := B.length) HG.out
                          rw [hp, List.take_length] at hg
                          have hg2 := pre_at (start := B.length) HG2.out
                          rw [List.take_length] at hg2
                          exact equal24' _ _ _ _ B.length B.length B _ rfl rfl (hg.later (Fr.drewN _ _)) (hg2.later (Fr.drewN _ _)) (by omega)
                        · exact equal24' _ _ _ _ 0 0 [] _ rfl rfl (bytesAt_nil _ _) (bytesAt_nil _ _) (by omega)
                      go_quiet ((go_at_call 24; refine Calls.quiet_of (E3.out _ _ _ _ _ _ _ ?_); first | exact .inl ⟨⟨rfl, rfl⟩, rfl, rfl⟩ | exact .inr ⟨rfl, rfl⟩))
                      obtain ⟨sc9, ho9⟩ := HF9.out.obj
                      have HO9 := hid (ho9.kept (S := fun _ => False) (Fr.drewN _ nq) (fun f => f))
                      clear ho9
                      go_wp2_with (first
                        | (go_at_call 25; refine (openLen25 _ _ _ _ _ _ _ _ HO9.out).mono ?_; rintro e w ⟨rfl, rfl⟩)
                        | (go_at_call 26; refine (pendLen26 _ _ _ _ _ _ _ _ HO9.out).mono ?_; rintro e w ⟨rfl, rfl⟩)
                        | (go_at_call 27; refine (sortedLen27 _ _ _ _ _ _ HO9.out).mono ?_; rintro e w ⟨rfl, rfl⟩)
                        | (go_at_call 28; refine (inPlace28 _ _ _ _ _ _ HO9.out).mono ?_; rintro e w ⟨rfl, rfl⟩))
                      go_ret
                      exact ⟨rfl, below_drewN HF9.out.below _⟩
  · rw [decide_eq_false hz]
    go_wp2_with fail
    go_ret
    exact ⟨rfl, Below.refl _ _⟩
end Go.Proofs.Qxb6608761a
