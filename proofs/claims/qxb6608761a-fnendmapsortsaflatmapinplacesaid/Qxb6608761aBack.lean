import Derived.Test.Qxb6608761aGrow
namespace Go.Proofs.Qxb6608761a
open Go.RowKit Cmp

/-- The spans as they came in: any ints. -/
def ISpansAt (W : World) (so : Option Addr) (sp : List (Int × Int)) : Prop :=
  ∀ k, (hk : k < sp.length) → ∃ b off, so = some ⟨b, off, none⟩ ∧ W.cell? ⟨b, off + k * 2, none⟩ = some (.int .i64 sp[k].1) ∧ W.cell? ⟨b, off + k * 2 + 1, none⟩ = some (.int .i64 sp[k].2)

/-- The first m spans lie back to back. -/
def BackTo (sp : List (Int × Int)) (m : Nat) : Prop := ∀ k, k < m → (hk : k < sp.length) → 0 ≤ sp[k].1 ∧ sp[k].1 ≤ sp[k].2 ∧ (0 < k → ∃ h : k - 1 < sp.length, sp[k].1 = sp[k - 1].2)

def Back (sp : List (Int × Int)) (N : Int) : Prop := BackTo sp sp.length ∧ (0 < sp.length → ∃ h : sp.length - 1 < sp.length, sp[sp.length - 1].2 = N)

theorem BackTo.next {sp : List (Int × Int)} {k : Nat} (h : BackTo sp k) (hk : k < sp.length) (h0 : 0 ≤ sp[k].1) (h1 : sp[k].1 ≤ sp[k].2) (h2 : 0 < k → ∃ h : k - 1 < sp.length, sp[k].1 = sp[k - 1].2) : BackTo sp (k + 1) := by
  intro j hj hjl
  rcases Nat.lt_or_ge j k with a | a
  · exact h j a hjl
  · obtain rfl : j = k := by omega
    exact ⟨h0, h1, h2⟩

set_option maxHeartbeats 4000000 in
theorem back15 (so : Option Addr) (cap : Nat) (sp : List (Int × Int)) (N : Int) (W : World) (hs : ISpansAt W so sp) (hn : sp.length ≤ 1000000) :
    Calls Try.prog 15 #[.slice so sp.length cap, .int .i64 N] W fun e W' => ∃ b : Bool, e = .returned (.bool b) ∧ (∃ m, W' = W.drewN m) ∧ (b = true → Back sp N) := by
  have H1 : Hid (ISpansAt W so sp) := hs
  clear hs
  go_enter Try.func15, Try.ntmps15
  go_wp2
  go_loopw [5] (fun t wr => ∃ k : Nat, k ≤ sp.length ∧ t = .int .i64 k ∧ (∃ n, wr = W.drewN n) ∧ Hid (BackTo sp k)) (fun t _ => sp.length - (intOf t).toNat)
  case atStart => exact ⟨0, Nat.zero_le _, rfl, ⟨0, rfl⟩, fun j hj => by omega⟩
  case round =>
    obtain ⟨k, hk, rfl, ⟨n, rfl⟩, HE⟩ := hrel
    by_cases hlt : k < sp.length
    · obtain ⟨b, off, rfl, x0, x1⟩ := H1.out k hlt
      by_cases c0 : sp[k].1 < 0
      · go_wp2
        go_quiet (fail)
        go_wp2
        go_ret
        exact ⟨_, rfl, drawn2 W _ _, fun h => by cases h⟩
      · have d0 : decide (sp[k].1 < 0) = false := decide_eq_false c0
        by_cases c1 : sp[k].2 < sp[k].1
        · go_wp2
          go_quiet (fail)
          go_wp2
          go_ret
          exact ⟨_, rfl, drawn2 W _ _, fun h => by cases h⟩
        · have d1 : decide (sp[k].2 < sp[k].1) = false := decide_eq_false c1
          by_cases ck : 0 < k
          · have hk1 : k - 1 < sp.length := by omega
            obtain ⟨b', off', e', y0, y1⟩ := H1.out (k - 1) hk1
            obtain ⟨rfl, rfl⟩ : b = b' ∧ off = off' := by simpa using e'
            have ek : ((k : Int) - 1).toNat = k - 1 := by omega
            clear e' y0
            by_cases c2 : sp[k].1 = sp[k - 1].2
            · have HN : Hid (BackTo sp (k + 1)) := HE.out.next hlt (by omega) (by omega) (fun _ => ⟨hk1, c2⟩)
              have d2 : (sp[k].1 == sp[k - 1].2) = true := by simp [c2]
              clear c2
              go_wp2
              go_quiet (fail)
              go_wp2
              go_quiet (fail)
              go_wp2
              go_roundw
              case rel => exact ⟨k + 1, by omega, by go_num, ⟨_, rfl⟩, HN⟩
              case measure => simp [intOf]; omega
            · have d2 : (sp[k].1 == sp[k - 1].2) = false := by simp [c2]
              go_wp2
              go_quiet (fail)
              go_wp2
              go_quiet (fail)
              go_wp2
              go_ret
              exact ⟨_, rfl, drawn3 W _ _ _, fun h => by cases h⟩
          · have d2 : decide ((0 : Int) < (k : Int)) = false := decide_eq_false (by omega)
            have HN : Hid (BackTo sp (k + 1)) := HE.out.next hlt (by omega) (by omega) (fun h => absurd h ck)
            go_wp2
            go_quiet (fail)
            go_wp2
            go_quiet (fail)
            go_wp2
            go_roundw
            case rel => exact ⟨k + 1, by omega, by go_num, ⟨_, rfl⟩, HN⟩
            case measure => simp [intOf]; omega
    · obtain rfl : k = sp.length := by omega
      by_cases h0 : sp.length = 0
      · go_wp2
        go_ret
        exact ⟨_, rfl, ⟨_, rfl⟩, fun _ => ⟨HE.out, fun h => by omega⟩⟩
      · have hk1 : sp.length - 1 < sp.length := by omega
        obtain ⟨b, off, rfl, y0, y1⟩ := H1.out (sp.length - 1) hk1
        have ek : ((sp.length : Int) - 1).toNat = sp.length - 1 := by omega
        by_cases c2 : sp[sp.length - 1].2 = N
        · have d2 : (sp[sp.length - 1].2 == N) = true := by simp [c2]
          have HN : Hid (Back sp N) := ⟨HE.out, fun _ => ⟨hk1, c2⟩⟩
          go_wp2
          go_ret
          exact ⟨_, rfl, ⟨_, rfl⟩, fun _ => HN.out⟩
        · have d2 : (sp[sp.length - 1].2 == N) = false := by simp [c2]
          go_wp2
          go_ret
          exact ⟨_, rfl, ⟨_, rfl⟩, fun h => absurd (of_decide_eq_true h) (by omega)⟩
end Go.Proofs.Qxb6608761a
