import Derived.Test.Qxb6605987aC1
namespace Go.Proofs.Qxb6605987a
open Go.RowKit
set_option linter.unusedVariables false
set_option linter.unusedSimpArgs false

theorem bytes17 (a0 : Option Addr) (l0 c0 : Nat) (a1 : Option Addr) (l1 c1 : Nat) (a2 : Option Addr) (l2 c2 : Nat) (a3 : Option Addr) (l3 c3 : Nat) (a4 : Option Addr) (l4 c4 : Nat) (w : World)
    (h0 : l0 ≤ maxLen) (h1 : l1 ≤ maxLen) (h2 : l2 ≤ maxLen) (h3 : l3 ≤ maxLen) (h4 : l4 ≤ maxLen) :
    Calls Try.prog 17 #[.slice a0 l0 c0, .slice a1 l1 c1, .slice a2 l2 c2, .slice a3 l3 c3, .slice a4 l4 c4] w fun e w' => (∃ b : Bool, e = .returned (.bool b)) ∧ w' = w := by
  unfold maxLen at h0 h1 h2 h3 h4
  go_enter Try.func17, Try.ntmps17
  go_wp2
  all_goals (go_ret; exact ⟨⟨_, rfl⟩, rfl⟩)

theorem bytes21 (a0 : Option Addr) (l0 c0 : Nat) (a1 : Option Addr) (l1 c1 : Nat) (a2 : Option Addr) (l2 c2 : Nat) (a3 : Option Addr) (l3 c3 : Nat) (a4 : Option Addr) (l4 c4 : Nat) (w : World)
    (h0 : l0 ≤ maxLen) (h1 : l1 ≤ maxLen) (h2 : l2 ≤ maxLen) (h3 : l3 ≤ maxLen) (h4 : l4 ≤ maxLen) :
    Calls Try.prog 21 #[.slice a0 l0 c0, .slice a1 l1 c1, .slice a2 l2 c2, .slice a3 l3 c3, .slice a4 l4 c4] w fun e w' => (∃ b : Bool, e = .returned (.bool b)) ∧ w' = w := by
  unfold maxLen at h0 h1 h2 h3 h4
  go_enter Try.func21, Try.ntmps21
  go_wp2
  all_goals (go_ret; exact ⟨⟨_, rfl⟩, rfl⟩)

/-- zzKeyAt: a cut of the text. -/
theorem keyAt14_in (x y l c : Nat) (a : Option Addr) (w : World) (hl : l ≤ c) (hc : c ≤ 1048576) (hxy : x + y ≤ l) (hlt : x < c) :
    Calls Try.prog 14 #[.slice a l c, .int .u32 x, .int .u32 y] w fun e w' => e = .returned (.slice (a.map (·.add x)) (x + y - x) (c - x)) ∧ w' = w := by
  go_enter Try.func14, Try.ntmps14
  go_wp2
  go_ret
  exact ⟨rfl, rfl⟩

theorem keyAt14_end (l : Nat) (a : Option Addr) (w : World) (hc : l ≤ 1048576) :
    Calls Try.prog 14 #[.slice a l l, .int .u32 l, .int .u32 0] w fun e w' => e = .returned (.slice a 0 0) ∧ w' = w := by
  go_enter Try.func14, Try.ntmps14
  go_wp2
  go_ret
  exact ⟨by simp, rfl⟩

theorem keyAt14 (x y l c : Nat) (a : Option Addr) (bs : List UInt8) (w : World) (hl : l ≤ c) (hc : c ≤ 1048576) (hxy : x + y ≤ l) (hbl : bs.length = l) (hs : SB w a bs) :
    Calls Try.prog 14 #[.slice a l c, .int .u32 x, .int .u32 y] w fun e w' => ∃ a' c', (e = .returned (.slice a' y c') ∧ w' = w) ∧ SB w a' ((bs.drop x).take y) ∧ (a' = none → y = 0) := by
  by_cases h : x < c
  · refine (keyAt14_in x y l c a w hl hc hxy h).mono ?_
    rintro e w' ⟨rfl, hw⟩
    obtain rfl := hw.symm
    refine ⟨_, _, ⟨by rw [show x + y - x = y by omega], rfl⟩, hs.cut x y (by omega), fun hn => ?_⟩
    have hnn := map_none hn
    subst hnn
    rcases hs with hs | ⟨_, _, e, _⟩
    · simp at hs; subst hs; simp at hbl; omega
    · cases e
  · obtain rfl : l = c := by omega
    obtain rfl : x = l := by omega
    obtain rfl : y = 0 := by omega
    refine (keyAt14_end x a w hc).mono ?_
    rintro e w' ⟨rfl, hw⟩
    obtain rfl := hw.symm
    exact ⟨_, _, ⟨rfl, rfl⟩, by simp; exact SB.nil _ _, fun _ => rfl⟩
end Go.Proofs.Qxb6605987a
