import Derived.Test.Qxb6605987aC3
namespace Go.Proofs.Qxb6605987a
open Go.RowKit
set_option linter.unusedVariables false
set_option linter.unusedSimpArgs false

set_option maxRecDepth 100000 in
theorem spans18_ne1 (lf lu : Nat) (a2 a3 a4 : Option Addr) (l2 c2 l3 c3 l4 c4 : Nat) (w : World) (h2 : l2 ≤ 4096) (h3 : l3 ≤ 4096) (h4 : l4 ≤ 4096) (h : l3 ≠ l2) :
    Calls Try.prog 18 #[.int .i64 lf, .int .i64 lu, .slice a2 l2 c2, .slice a3 l3 c3, .slice a4 l4 c4] w fun e w' => e = .returned (.bool false) ∧ w' = w := by
  have hn1 : ((l3 : Int) != (l2 : Int)) = true := by simp; omega
  go_enter Try.func18, Try.ntmps18
  go_wp2
  go_ret
  exact ⟨rfl, rfl⟩

set_option maxRecDepth 100000 in
theorem spans18_ne2 (lf lu : Nat) (a2 a3 a4 : Option Addr) (l2 c2 c3 l4 c4 : Nat) (w : World) (h2 : l2 ≤ 4096) (h4 : l4 ≤ 4096) (h : l4 ≠ l2) :
    Calls Try.prog 18 #[.int .i64 lf, .int .i64 lu, .slice a2 l2 c2, .slice a3 l2 c3, .slice a4 l4 c4] w fun e w' => e = .returned (.bool false) ∧ w' = w := by
  have hn1 : ((l2 : Int) != (l2 : Int)) = false := by simp
  have hn2 : ((l4 : Int) != (l2 : Int)) = true := by simp; omega
  go_enter Try.func18, Try.ntmps18
  go_wp2
  go_ret
  exact ⟨rfl, rfl⟩

set_option maxRecDepth 100000 in
theorem spans18_zero (lf lu : Nat) (a2 a3 a4 : Option Addr) (c2 c3 c4 : Nat) (w : World) :
    Calls Try.prog 18 #[.int .i64 lf, .int .i64 lu, .slice a2 0 c2, .slice a3 0 c3, .slice a4 0 c4] w fun e w' => e = .returned (.bool true) ∧ w' = w := by
  go_enter Try.func18, Try.ntmps18
  go_wp2
  refine wp_loop_rounds 1 ?_
  rw [rounds_succ]
  go_wp2
  go_ret
  exact ⟨rfl, rfl⟩

theorem drewN_more {w wr : World} (h : ∃ n, wr = w.drewN n) (m : Nat) : ∃ n, wr.drewN m = w.drewN n := by
  obtain ⟨n, rfl⟩ := h
  exact ⟨n + m, World.drewN_drewN _ _ _⟩

theorem calls_bool_same {f : FuncId} {args : Array Value} {w : World} {v b : Bool} (h : Calls Try.prog f args w fun e w' => e = .returned (.bool v) ∧ w' = w) (hv : v = b) : Calls Try.prog f args w fun e w' => e = .returned (.bool b) ∧ w' = w := hv ▸ h

set_option maxRecDepth 100000 in
set_option maxHeartbeats 1000000 in
theorem spans18_pos (lf lu : Nat) (b2 o2 c2 b3 o3 c3 : Nat) (a4 : Option Addr) (c4 K : Nat) (fs : Nat → Nat × Nat × Bool) (w : World) (hlf : lf ≤ 1048576) (hlu : lu ≤ 1048576) (hK : K ≤ 4096) (hK0 : 0 < K)
    (hL2 : SC w (some ⟨b2, o2, none⟩) ((List.range K).map fun i => .int .u32 (fs i).1)) (hL3 : SC w (some ⟨b3, o3, none⟩) ((List.range K).map fun i => .int .u32 (fs i).2.1)) (hbd : ∀ i, i < K → (fs i).1 < 4294967296 ∧ (fs i).2.1 < 4294967296) :
    Calls Try.prog 18 #[.int .i64 lf, .int .i64 lu, .slice (some ⟨b2, o2, none⟩) K c2, .slice (some ⟨b3, o3, none⟩) K c3, .slice a4 K c4] w fun e w' => ∃ b : Bool, e = .returned (.bool b) ∧ (∃ n, w' = w.drewN n) ∧ (b = true → ∀ i, i < K → spanOk lf lu (fs i).1 (fs i).2.1 = true) := by
  have hn1 : ((K : Int) != (K : Int)) = false := by simp
  have H2 := hide hL2
  have H3 := hide hL3
  have HBD := hide hbd
  clear hL2 hL3 hbd
  go_enter Try.func18, Try.ntmps18
  go_wp2
  go_loopw [11, 12] (fun s i wr => ∃ k t : Nat, k ≤ K ∧ t ≤ k * 4294967295 ∧ i = .int .i64 k ∧ s = .int .u64 t ∧ Hid (∃ n, wr = w.drewN n) ∧ Hid (∀ i, i < k → spanOk lf lu (fs i).1 (fs i).2.1 = true)) (fun _ i _ => K - (intOf i).toNat)
  case atStart => exact ⟨0, 0, Nat.zero_le _, Nat.zero_le _, rfl, rfl, ⟨0, rfl⟩, fun i hi => absurd hi (Nat.not_lt_zero i)⟩
  case round =>
    obtain ⟨k, t, hk, ht, rfl, rfl, hwr, hall⟩ := hrel
    by_cases hlt : k < K
    · have g2 : wr.cell? ⟨b2, o2 + k, none⟩ = some (.int .u32 (fs k).1) := by obtain ⟨n, rfl⟩ := hwr.out; have := H2.out.cell k (by simpa using hlt); simpa using this
      have g3 : wr.cell? ⟨b3, o3 + k, none⟩ = some (.int .u32 (fs k).2.1) := by obtain ⟨n, rfl⟩ := hwr.out; have := H3.out.cell k (by simpa using hlt); simpa using this
      obtain ⟨hx, hy⟩ := HBD.out k hlt
      obtain ⟨x, hxe⟩ : ∃ x, (fs k).1 = x := ⟨_, rfl⟩
      obtain ⟨y, hye⟩ : ∃ y, (fs k).2.1 = y := ⟨_, rfl⟩
      rw [hxe] at g2 hx
      rw [hye] at g3 hy
      have HX := hide hxe
      have HY := hide hye
      clear hxe hye
      cases hsp : spanOk lf lu x y
      · have HSP := hide hsp
        clear hsp
        go_wp2
        go_quiet ((go_at_call 8; exact Calls.quiet_of_same (calls_bool_same (span8 lf lu x y _ hlf hlu (by omega) (by omega) (by omega) (by omega)) HSP.out)))
        go_wp2
        go_ret
        exact ⟨false, rfl, drewN_more hwr.out _, fun h => by cases h⟩
      · have HSP := hide hsp
        clear hsp
        go_wp2
        go_quiet ((go_at_call 8; exact Calls.quiet_of_same (calls_bool_same (span8 lf lu x y _ hlf hlu (by omega) (by omega) (by omega) (by omega)) HSP.out)))
        go_wp2
        go_roundw
        case rel =>
          refine ⟨k + 1, t + y, by omega, by omega, by go_num, by go_num, drewN_more hwr.out _, fun i hi => ?_⟩
          by_cases hik : i < k
          · exact hall.out i hik
          · obtain rfl : i = k := by omega
            rw [HX.out, HY.out]; exact HSP.out
        case measure => simp [intOf]; omega
    · obtain rfl : k = K := by omega
      go_wp2
      go_ret
      exact ⟨_, rfl, hwr.out, fun _ => hall.out⟩
end Go.Proofs.Qxb6605987a
