import Derived.Test.Qxb6605987aRows
import Derived.WalkKit
import Derived.WalkSpells
import Derived.WalkLawsBesides
import Derived.Laws.CopyOwn
namespace Go.Proofs.Qxb6605987a
open Go.RowKit
set_option linter.unusedVariables false

/-- zzBytes of the first law: some bool, nothing turns. -/
theorem bytes15 (a0 : Option Addr) (l0 c0 : Nat) (a1 : Option Addr) (l1 c1 : Nat) (x y : Int) (a4 : Option Addr) (l4 c4 : Nat) (z : Int) (w : World)
    (h0 : l0 ≤ maxLen) (h1 : l1 ≤ maxLen) (h4 : l4 ≤ maxLen) :
    Calls Try.prog 15 #[.slice a0 l0 c0, .slice a1 l1 c1, .int .u32 x, .int .u32 y, .slice a4 l4 c4, .int .u8 z] w fun e w' => (∃ b : Bool, e = .returned (.bool b)) ∧ w' = w := by
  unfold maxLen at h0 h1 h4
  go_enter Try.func15, Try.ntmps15
  go_wp2
  all_goals (go_ret; exact ⟨⟨_, rfl⟩, rfl⟩)

def spanOk (lf lu at' n : Int) : Bool := decide (at' + n ≤ lf) || (decide (lf ≤ at') && decide (at' + n ≤ lf + lu))

theorem span8 (lf lu : Nat) (x y : Int) (w : World) (h0 : lf ≤ 1048576) (h1 : lu ≤ 1048576) (hx0 : 0 ≤ x) (hx1 : x < 4294967296) (hy0 : 0 ≤ y) (hy1 : y < 4294967296) :
    Calls Try.prog 8 #[.int .i64 lf, .int .i64 lu, .int .u32 x, .int .u32 y] w fun e w' => e = .returned (.bool (spanOk lf lu x y)) ∧ w' = w := by
  by_cases c1 : x + y ≤ lf
  · have e : spanOk lf lu x y = true := by simp [spanOk, c1]
    rw [e]
    go_enter Try.func8, Try.ntmps8
    go_wp2
    all_goals (go_ret; exact ⟨rfl, rfl⟩)
  by_cases c2 : (lf : Int) ≤ x
  · have e : spanOk lf lu x y = decide (x + y ≤ lf + lu) := by simp [spanOk, c1, c2]
    rw [e]
    go_enter Try.func8, Try.ntmps8
    go_wp2
    all_goals (go_ret; exact ⟨rfl, rfl⟩)
  · have e : spanOk lf lu x y = false := by simp [spanOk, c1, c2]
    rw [e]
    go_enter Try.func8, Try.ntmps8
    go_wp2
    all_goals (go_ret; exact ⟨rfl, rfl⟩)
end Go.Proofs.Qxb6605987a
