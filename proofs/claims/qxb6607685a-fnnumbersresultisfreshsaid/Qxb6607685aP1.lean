import Derived.Test.Qxb6607685aN4
import Derived.Laws.FloatArith
namespace Go.Proofs.Qxb6607685a
open Go.RowKit
set_option linter.unusedVariables false
set_option linter.unusedSimpArgs false

/-- The value that a vs[i] builds, as it lies. -/
def valC (k : Int) (f : Nat) (s : ByteArray) (b t : Bool) : Array Value := #[.int .i64 k, .float .f64 f, .string s, .bool b, .int .u64 0, .int .i64 0, .pointer none, .slice none 0 0, .bool t]

set_option maxRecDepth 100000 in
theorem numValue33 (k : Int) (f : Nat) (s : ByteArray) (b t : Bool) (w : World) :
    Calls Try.prog 33 #[.int .i64 k, .float .f64 f, .string s, .bool b, .bool t] w fun e w' => e = .returned (.agg (valC k f s b t)) ∧ Below w.heap.size w w' := by
  have hsf := fun (w : World) (a : Addr) (m : Mode) (f : Nat) => run_store Try.prog w a (.float .f64 f) m rfl
  go_enter Try.func33, Try.ntmps33
  go_wp2
  refine bodyPost_ret (v := .agg (valC k f s b t)) (by simp [results, Try.results33, go_sem, valC]) rfl ⟨rfl, (Below.refl _ _).alloc (Nat.le_refl _) _⟩

set_option maxRecDepth 100000 in
theorem valueNum20 (k : Int) (f : Nat) (s : ByteArray) (b t : Bool) (w : World) :
    Calls Try.prog 20 #[.agg (valC k f s b t)] w fun e w' => e = .returned (.float .f64 f) ∧ Below w.heap.size w w' := by
  unfold valC
  go_enter Try.func20, Try.ntmps20
  go_wp2
  go_ret
  exact ⟨rfl, (Below.refl _ _).alloc (Nat.le_refl _) _⟩

theorem signed_zero {neg : Bool} {m k : Nat} (h : Ieee.signed neg m k = 0) : m = 0 := by
  unfold Ieee.signed at h
  rw [Nat.shiftLeft_eq] at h
  have hp : 0 < 2 ^ k := Nat.two_pow_pos k
  split at h
  · have h2 : m * 2 ^ k = 0 := by omega
    rcases Nat.mul_eq_zero.1 h2 with h3 | h3
    · exact h3
    · omega
  · have h2 : m * 2 ^ k = 0 := by omega
    rcases Nat.mul_eq_zero.1 h2 with h3 | h3
    · exact h3
    · omega

theorem icmp {a b : Int} (h : compare a b = .eq) : a = b := by
  simp only [compare, compareOfLessAndEq] at h
  split at h
  · cases h
  · split at h
    · assumption
    · cases h

theorem zero_of_order (f : Nat) (hf : f < 18446744073709551616) (h : FloatKind.f64.format.order f 0 = some .eq) : f = 0 ∨ f = 9223372036854775808 := by
  have r0 : FloatKind.f64.format.read 0 = .number false 0 (-1074) := by decide +kernel
  have hs : FloatKind.f64.format.signWeight = 9223372036854775808 := by decide +kernel
  have hb : FloatKind.f64.format.binade = 4503599627370496 := by decide +kernel
  have sz : ∀ k, Ieee.signed false 0 k = 0 := fun k => by simp [Ieee.signed]
  unfold Ieee.Format.order at h
  rw [r0] at h
  unfold Ieee.Format.read at h
  simp only [] at h
  split at h
  · simp only [Ieee.Datum.order, Option.some.injEq, sz] at h
    have := signed_zero (icmp h)
    rw [hs] at this
    omega
  · split at h
    · simp only [Ieee.Datum.order, Option.some.injEq, sz] at h
      have := signed_zero (icmp h)
      rw [hb] at this
      omega
    · split at h
      · simp only [Ieee.Datum.order, Option.some.injEq] at h
        split at h <;> cases h
      · simp [Ieee.Datum.order] at h

theorem quo_zero : floatBits .quo .f64 4607182418800017408 0 = some 9218868437227405312 := by decide +kernel
theorem quo_negzero : floatBits .quo .f64 4607182418800017408 9223372036854775808 = some 18442240474082181120 := by decide +kernel
theorem ord_inf : FloatKind.f64.format.order 9218868437227405312 9218868437227405312 = some .eq := by decide +kernel
theorem ord_ninf : FloatKind.f64.format.order 18442240474082181120 18442240474082181120 = some .eq := by decide +kernel
theorem ord_half : FloatKind.f64.format.order 4602678819172646912 4602678819172646912 = some .eq := by decide +kernel

set_option maxRecDepth 100000 in
theorem same19 (f : Nat) (w : World) (hf : f < 18446744073709551616) :
    Calls Try.prog 19 #[.float .f64 f, .float .f64 f] w fun e w' => e = .returned (.bool true) ∧ w' = w := by
  by_cases h1 : FloatKind.f64.format.order f f = some .eq
  · have g1 : (FloatKind.f64.format.order f f != some .eq) = false := by simp [h1]
    by_cases h0 : FloatKind.f64.format.order f 0 = some .eq
    · rcases zero_of_order f hf h0 with rfl | rfl
      · have hop : ∀ t w, (binOp .quo t (.float .f64 4607182418800017408) (.float .f64 0)).run Try.prog w = .ok (.float .f64 9218868437227405312) w := fun t w => run_float_arith w .quo t .f64 _ _ _ quo_zero
        have g0 : (FloatKind.f64.format.order 0 0 == some .eq) = true := by simp [h0]
        have g2 : (FloatKind.f64.format.order 9218868437227405312 9218868437227405312 == some .eq) = true := by simp [ord_inf]
        clear h1 h0 hf
        go_enter Try.func19, Try.ntmps19
        go_wp2
        go_ret
        exact ⟨by simp [ord_inf], rfl⟩
      · have hop : ∀ t w, (binOp .quo t (.float .f64 4607182418800017408) (.float .f64 9223372036854775808)).run Try.prog w = .ok (.float .f64 18442240474082181120) w := fun t w => run_float_arith w .quo t .f64 _ _ _ quo_negzero
        have g0 : (FloatKind.f64.format.order 9223372036854775808 0 == some .eq) = true := by simp [h0]
        have g2 : (FloatKind.f64.format.order 18442240474082181120 18442240474082181120 == some .eq) = true := by simp [ord_ninf]
        clear h1 h0 hf
        go_enter Try.func19, Try.ntmps19
        go_wp2
        go_ret
        exact ⟨by simp [ord_ninf], rfl⟩
    · have g0 : (FloatKind.f64.format.order f 0 == some .eq) = false := by simp [h0]
      clear h1 h0
      go_enter Try.func19, Try.ntmps19
      go_wp2
      go_ret
      exact ⟨rfl, rfl⟩
  · have g1 : (FloatKind.f64.format.order f f != some .eq) = true := by simp [h1]
    clear h1
    go_enter Try.func19, Try.ntmps19
    go_wp2
    go_ret
    exact ⟨by simp [g1], rfl⟩
end Go.Proofs.Qxb6607685a
