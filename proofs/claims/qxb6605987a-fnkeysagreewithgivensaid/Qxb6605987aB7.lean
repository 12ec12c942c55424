import Derived.Test.Qxb6605987aB6
namespace Go.Proofs.Qxb6605987a
open Go.RowKit
set_option linter.unusedVariables false
set_option linter.unusedSimpArgs false

theorem take_succ_getElem {α : Type} (l : List α) (k : Nat) (h : k < l.length) : l.take (k + 1) = l.take k ++ [l[k]] := by
  rw [List.take_succ_eq_append_getElem h]

set_option maxRecDepth 100000 in
set_option maxHeartbeats 400000 in
theorem sameBytes13_pos (w : World) (b1 o1 l c1 : Nat) (x : List UInt8) (b2 o2 c2 : Nat) (y : List UInt8) (hm : l ≤ 1048576)
    (hl1 : x.length = l) (hl2 : y.length = l) (hs1 : SB w (some ⟨b1, o1, none⟩) x) (hs2 : SB w (some ⟨b2, o2, none⟩) y) :
    Calls Try.prog 13 #[.slice (some ⟨b1, o1, none⟩) l c1, .slice (some ⟨b2, o2, none⟩) l c2] w fun e w' => e = .returned (.bool (x == y)) ∧ Below w.heap.size w w' := by
  have HL1 : Hid (x.length = l) := hl1
  have HL2 : Hid (y.length = l) := hl2
  have H1 : Hid (SB w (some ⟨b1, o1, none⟩) x) := hs1
  have H2 : Hid (SB w (some ⟨b2, o2, none⟩) y) := hs2
  clear hl1 hl2 hs1 hs2
  have hne : ((l : Int) != (l : Int)) = false := by simp
  go_enter Try.func13, Try.ntmps13
  go_wp2
  go_loopw [5] (fun i wr => ∃ k : Nat, k ≤ l ∧ i = .int .i64 k ∧ (∃ n, wr = w.drewN n) ∧ Hid (x.take k = y.take k)) (fun i _ => l - (intOf i).toNat)
  case atStart => exact ⟨0, Nat.zero_le _, rfl, ⟨0, rfl⟩, rfl⟩
  case round =>
    obtain ⟨k, hk, rfl, ⟨n, rfl⟩, hxy⟩ := hrel
    by_cases hlt : k < l
    · have hk1 : k < x.length := by have := HL1.out; omega
      have hk2 : k < y.length := by have := HL2.out; omega
      have g1 : w.cell? ⟨b1, o1 + k, none⟩ = some (cB x[k]) := H1.out.cell k hk1
      have g2 : w.cell? ⟨b2, o2 + k, none⟩ = some (cB y[k]) := H2.out.cell k hk2
      unfold cB at g1 g2
      obtain ⟨p, hp⟩ : ∃ p : Nat, x[k].toNat = p := ⟨_, rfl⟩
      obtain ⟨q, hq⟩ : ∃ q : Nat, y[k].toNat = q := ⟨_, rfl⟩
      rw [hp] at g1
      rw [hq] at g2
      have HP : Hid (x[k].toNat = p) := hp
      have HQ' : Hid (y[k].toNat = q) := hq
      clear hp hq
      by_cases heq : p = q
      · have hd : ((p : Int) != (q : Int)) = false := by simp [heq]
        have HQ : Hid (x.take (k + 1) = y.take (k + 1)) := by
          have e1 : x[k] = y[k] := UInt8.toNat_inj.1 (by rw [HP.out, HQ'.out, heq])
          show x.take (k + 1) = y.take (k + 1)
          rw [take_succ_getElem x k hk1, take_succ_getElem y k hk2, hxy.out, e1]
        clear heq
        go_wp2
        go_quiet (fail)
        go_wp2
        go_roundw
        case rel => exact ⟨k + 1, by omega, by go_num, ⟨_, rfl⟩, HQ⟩
        case measure => simp [intOf]; omega
      · have hd : ((p : Int) != (q : Int)) = true := by simp; omega
        have HQ : Hid ((x == y) = false) := by
          show (x == y) = false
          rw [beq_eq_false_iff_ne]
          intro e
          subst e
          exact heq (HP.out.symm.trans HQ'.out)
        clear heq
        go_wp2
        go_quiet (fail)
        go_wp2
        go_ret
        exact ⟨by rw [HQ.out]; rfl, below_drewN (below_drewN (Below.refl _ _) _) _⟩
    · go_wp2
      go_ret
      have hx : x = y := by
        have := hxy.out
        rwa [List.take_of_length_le (by have := HL1.out; omega), List.take_of_length_le (by have := HL2.out; omega)] at this
      exact ⟨by simp [hx], below_drewN (Below.refl _ _) _⟩

set_option maxRecDepth 100000 in
theorem sameBytes13_ne (w : World) (a1 a2 : Option Addr) (l1 c1 l2 c2 : Nat) (h : l1 ≠ l2) (h1 : l1 ≤ 1048576) (h2 : l2 ≤ 4294967296) :
    Calls Try.prog 13 #[.slice a1 l1 c1, .slice a2 l2 c2] w fun e w' => e = .returned (.bool false) ∧ Below w.heap.size w w' := by
  have hne : ((l1 : Int) != (l2 : Int)) = true := by simp; omega
  go_enter Try.func13, Try.ntmps13
  go_wp2
  go_ret
  exact ⟨rfl, Below.refl _ _⟩

set_option maxRecDepth 100000 in
theorem sameBytes13_zero (w : World) (a1 a2 : Option Addr) (c1 c2 : Nat) :
    Calls Try.prog 13 #[.slice a1 0 c1, .slice a2 0 c2] w fun e w' => e = .returned (.bool true) ∧ Below w.heap.size w w' := by
  go_enter Try.func13, Try.ntmps13
  go_wp2
  refine wp_loop_rounds 1 ?_
  rw [rounds_succ]
  go_wp2
  go_ret
  exact ⟨rfl, Below.refl _ _⟩

theorem sameBytes13 (w : World) (a1 a2 : Option Addr) (l1 c1 l2 c2 : Nat) (x y : List UInt8) (h1 : l1 ≤ 1048576) (h2 : l2 ≤ 4294967296)
    (hl1 : x.length = l1) (hl2 : y.length = l2) (hs1 : SB w a1 x) (hs2 : SB w a2 y) :
    Calls Try.prog 13 #[.slice a1 l1 c1, .slice a2 l2 c2] w fun e w' => e = .returned (.bool (x == y)) ∧ Below w.heap.size w w' := by
  by_cases h : l1 = l2
  · subst h
    by_cases h0 : l1 = 0
    · subst h0
      obtain rfl : x = [] := List.eq_nil_of_length_eq_zero hl1
      obtain rfl : y = [] := List.eq_nil_of_length_eq_zero hl2
      exact sameBytes13_zero w a1 a2 c1 c2
    · rcases id hs1 with e | ⟨b1, o1, rfl, _, _⟩
      · simp at e; subst e; simp at hl1; omega
      rcases id hs2 with e | ⟨b2, o2, rfl, _, _⟩
      · simp at e; subst e; simp at hl2; omega
      exact sameBytes13_pos w b1 o1 l1 c1 x b2 o2 c2 y h1 hl1 hl2 hs1 hs2
  · have e : (x == y) = false := by
      rw [beq_eq_false_iff_ne]; intro e; subst e; omega
    rw [e]
    exact sameBytes13_ne w a1 a2 l1 c1 l2 c2 h h1 h2
end Go.Proofs.Qxb6605987a
