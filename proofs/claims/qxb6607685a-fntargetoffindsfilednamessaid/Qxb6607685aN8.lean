import Derived.Test.Qxb6607685aN7
namespace Go.Proofs.Qxb6607685a
open Go.RowKit Go.Maps Go.WideMaps
set_option linter.unusedVariables false
set_option linter.unusedSimpArgs false

set_option maxRecDepth 100000 in
theorem newService24 (ma mr : Nat) (w : World) :
    Calls Try.prog 24 #[.map (some ma), .map (some mr)] w fun e w' => ∃ sb, e = .returned (.pointer (some ⟨sb, 0, none⟩)) ∧ sb < w'.heap.size ∧ w'.cell? ⟨sb, 3, none⟩ = some (.map (some mr)) ∧ w'.cell? ⟨sb, 4, none⟩ = some (.map (some ma)) ∧ Below w.heap.size w w' := by
  go_enter Try.func24, Try.ntmps24
  go_wp2
  go_ret
  exact ⟨w.heap.size, rfl, by simp, by simp, by simp, (Below.refl _ _).alloc (Nat.le_refl _) _⟩

/-- What the look-up of a name gives. -/
def numOf (L : List (List UInt8)) (k : List UInt8) : Nat := if L.contains k then L.idxOf k else 0

theorem MapN.look2 {w : World} {b n : Nat} {L : List (List UInt8)} (h : MapN w b n L) (k : List UInt8) (hk : k.length ≤ maxLen) :
    (Instr.lookup 63 (.map (some b)) (.string ⟨k.toArray⟩) true).run Try.prog w = .ok (.tuple #[.int .u32 (numOf L k : Nat), .bool (L.contains k)]) w := by
  obtain ⟨c, h1, h2, h3⟩ := h.look k hk
  rw [h1]
  unfold numOf
  by_cases hm : k ∈ L
  · rw [h2 hm, if_pos (by simpa using hm)]
  · rw [h3 hm, if_neg (by simpa using hm)]
    rfl

set_option maxRecDepth 100000 in
set_option maxHeartbeats 1000000 in
theorem targetOf35 (sb ma mr na nr : Nat) (LA LR : List (List UInt8)) (x y : List UInt8) (w : World) (hs : sb < w.heap.size) (h3 : w.cell? ⟨sb, 3, none⟩ = some (.map (some mr))) (h4 : w.cell? ⟨sb, 4, none⟩ = some (.map (some ma)))
    (hA : MapN w ma na LA) (hR : MapN w mr nr LR) (hx : x.length ≤ maxLen) (hy : y.length ≤ maxLen) :
    Calls Try.prog 35 #[.pointer (some ⟨sb, 0, none⟩), .string ⟨x.toArray⟩, .string ⟨y.toArray⟩] w fun e w' =>
      e = .returned (.tuple #[.agg #[.int .u32 (numOf LA x : Nat), .int .u32 ((if LA.contains x then numOf LR y else 0 : Nat) : Int)], .bool (LA.contains x && LR.contains y)]) ∧ Below w.heap.size w w' := by
  have hlA : ∀ o, (Instr.lookup 63 (.map (some ma)) (.string ⟨x.toArray⟩) true).run Try.prog (w.alloc o) = .ok (.tuple #[.int .u32 (numOf LA x : Nat), .bool (LA.contains x)]) (w.alloc o) := fun o => (hA.below ((Below.refl _ _).alloc (Nat.le_refl _) o)).look2 x hx
  have hlR : ∀ o, (Instr.lookup 63 (.map (some mr)) (.string ⟨y.toArray⟩) true).run Try.prog (w.alloc o) = .ok (.tuple #[.int .u32 (numOf LR y : Nat), .bool (LR.contains y)]) (w.alloc o) := fun o => (hR.below ((Below.refl _ _).alloc (Nat.le_refl _) o)).look2 y hy
  obtain ⟨q, hq⟩ : ∃ q, numOf LA x = q := ⟨_, rfl⟩
  obtain ⟨r, hr⟩ : ∃ r, numOf LR y = r := ⟨_, rfl⟩
  obtain ⟨b2, hb2⟩ : ∃ b, LR.contains y = b := ⟨_, rfl⟩
  rw [hq] at hlA ⊢
  rw [hr, hb2] at hlR ⊢
  clear hA hR hq hr hb2
  cases hc : LA.contains x
  · rw [hc] at hlA
    clear hc
    go_enter Try.func35, Try.ntmps35
    go_wp2
    exact bodyPost_ret (v := .tuple #[.agg #[.int .u32 (q : Nat), .int .u32 0], .bool false]) (by simp [results, Try.results35, go_sem]) rfl ⟨rfl, (Below.refl _ _).alloc (Nat.le_refl _) _⟩
  · rw [hc] at hlA
    clear hc
    go_enter Try.func35, Try.ntmps35
    go_wp2
    exact bodyPost_ret (v := .tuple #[.agg #[.int .u32 (q : Nat), .int .u32 (r : Nat)], .bool b2]) (by simp [results, Try.results35, go_sem]) rfl ⟨rfl, (Below.refl _ _).alloc (Nat.le_refl _) _⟩

set_option maxRecDepth 100000 in
set_option maxHeartbeats 1000000 in
theorem ZZtargetOf25 (sb ma mr na nr : Nat) (LA LR : List (List UInt8)) (x y : List UInt8) (w : World) (hs : sb < w.heap.size) (h3 : w.cell? ⟨sb, 3, none⟩ = some (.map (some mr))) (h4 : w.cell? ⟨sb, 4, none⟩ = some (.map (some ma)))
    (hA : MapN w ma na LA) (hR : MapN w mr nr LR) (hx : x.length ≤ maxLen) (hy : y.length ≤ maxLen) :
    Calls Try.prog 25 #[.pointer (some ⟨sb, 0, none⟩), .string ⟨x.toArray⟩, .string ⟨y.toArray⟩] w fun e w' =>
      e = .returned (.tuple #[.int .u32 (numOf LA x : Nat), .int .u32 ((if LA.contains x then numOf LR y else 0 : Nat) : Int), .bool (LA.contains x && LR.contains y)]) ∧ Below w.heap.size w w' := by
  have HC := hide (targetOf35 sb ma mr na nr LA LR x y w hs h3 h4 hA hR hx hy)
  obtain ⟨q, hq⟩ : ∃ q, numOf LA x = q := ⟨_, rfl⟩
  obtain ⟨r, hr⟩ : ∃ r, (if LA.contains x then numOf LR y else 0) = r := ⟨_, rfl⟩
  obtain ⟨b2, hb2⟩ : ∃ b, (LA.contains x && LR.contains y) = b := ⟨_, rfl⟩
  rw [hq, hr, hb2] at HC
  rw [hq, hr, hb2]
  clear hq hr hb2 hA hR hs h3 h4 hx hy
  go_enter Try.func25, Try.ntmps25
  go_wp2_with fail
  refine HC.out.mono ?_
  rintro e w1 ⟨rfl, hb1⟩
  have HB1 := hide hb1
  clear hb1 HC
  go_wp2
  go_quiet (fail)
  go_wp2
  go_ret3
  exact ⟨rfl, below_drewN (HB1.out.alloc HB1.out.size _) _⟩

/-- What the law's own look-up gives. -/
theorem numOf_filed (names : List (List UInt8)) (i : Nat) (hi : i < names.length) : numOf (filed names names.length) names[i] = rk names names[i] := by
  unfold numOf rk
  rw [if_pos (by simpa using filed_mem names names.length i hi hi)]

set_option maxRecDepth 100000 in
set_option maxHeartbeats 1000000 in
theorem model27 (a : Option Addr) (l c : Nat) (names : List (List UInt8)) (gb : Nat) (x : List UInt8) (w : World) (hl : names.length = l) (hm : l ≤ 65536) (hs : SN w a names) (hn : SC w (some ⟨gb, 0, none⟩) (numsV names)) :
    Calls Try.prog 27 #[.slice a l c, .slice (some ⟨gb, 0, none⟩) l l, .string ⟨x.toArray⟩] w fun e w' => e = .returned (.tuple #[.int .u32 (numOf (filed names l) x : Nat), .bool ((filed names l).contains x)]) ∧ w' = w := by
  have HL := hide hl
  have HS := hide hs
  have HN := hide hn
  clear hl hs hn
  obtain ⟨q, hq⟩ : ∃ q, numOf (filed names l) x = q := ⟨_, rfl⟩
  obtain ⟨b2, hb2⟩ : ∃ b, (filed names l).contains x = b := ⟨_, rfl⟩
  rw [hq, hb2]
  have HQ := hide hq
  have HB := hide hb2
  clear hq hb2
  go_enter Try.func27, Try.ntmps27
  go_wp2
  go_loop [11] (fun i => ∃ k : Nat, k ≤ l ∧ i = .int .i64 k ∧ Hid (∀ j (h : j < names.length), j < k → names[j] ≠ x)) (fun i => l - (intOf i).toNat)
  case atStart => exact ⟨0, Nat.zero_le _, rfl, fun j _ h => absurd h (Nat.not_lt_zero j)⟩
  case round =>
    obtain ⟨k, hk, rfl, hne⟩ := hrel
    by_cases hlt : k < l
    · have hkn : k < names.length := by have := HL.out; omega
      obtain ⟨b, off, rfl, _⟩ := HS.out.some (by omega)
      have g := HS.out.cell k hkn
      have g2 := HN.out.nums k hkn
      by_cases e : names[k] = x
      · have h1 := numOf_filed names k hkn
        have h2 := filed_mem names names.length k hkn hkn
        rw [e] at g g2 h1 h2
        rw [HL.out] at h1 h2
        rw [← h1, HQ.out] at g2
        have h3 : b2 = true := by rw [← HB.out]; simpa using h2
        subst h3
        clear h1 h2 e
        go_wp2
        go_ret2
        exact ⟨rfl, rfl⟩
      · have HNE : Hid (∀ j (h : j < names.length), j < k + 1 → names[j] ≠ x) := by
          intro j h hjk
          by_cases ej : j = k
          · subst ej; exact e
          · exact hne.out j h (by omega)
        obtain ⟨y, hy⟩ : ∃ y, names[k] = y := ⟨_, rfl⟩
        rw [hy] at g e
        have hbe : (y == x) = false := by simpa using e
        clear hy e g2
        go_wp2
        go_round
        case rel => exact ⟨k + 1, by omega, by go_num, HNE⟩
        case measure => simp [intOf]; omega
    · obtain rfl : k = l := by omega
      have hno : x ∉ filed names k := by
        intro h
        obtain ⟨i, h1, h2, h3⟩ := filed_from names x k h
        exact hne.out i h1 h2 h3
      have hq0 : q = 0 := by rw [← HQ.out]; unfold numOf; rw [if_neg (by simpa using hno)]
      have hb0 : b2 = false := by rw [← HB.out]; simpa using hno
      subst hq0 hb0
      go_wp2
      go_ret2
      exact ⟨rfl, rfl⟩
end Go.Proofs.Qxb6607685a
