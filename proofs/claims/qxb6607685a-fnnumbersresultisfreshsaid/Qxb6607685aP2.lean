import Derived.Test.Qxb6607685aP1
namespace Go.Proofs.Qxb6607685a
open Go.RowKit
set_option linter.unusedVariables false
set_option linter.unusedSimpArgs false

/-- The fields of one value that came in. -/
structure NV where
  k : Int
  f : Nat
  s : ByteArray
  b : Bool
  t : Bool

/-- The slice at 'a' reads these fields. -/
def VS (w : World) (a : Option Addr) (vs : List NV) : Prop :=
  vs = [] ∨ ∃ b off, a = some ⟨b, off, none⟩ ∧ b < w.heap.size ∧ ∀ i (h : i < vs.length),
    w.cell? ⟨b, off + i * 5, none⟩ = some (.int .i64 vs[i].k) ∧ w.cell? ⟨b, off + i * 5 + 1, none⟩ = some (.float .f64 vs[i].f) ∧ w.cell? ⟨b, off + i * 5 + 2, none⟩ = some (.string vs[i].s) ∧
    w.cell? ⟨b, off + i * 5 + 3, none⟩ = some (.bool vs[i].b) ∧ w.cell? ⟨b, off + i * 5 + 4, none⟩ = some (.bool vs[i].t)

theorem VS.below {w w' : World} {a : Option Addr} {vs : List NV} (h : VS w a vs) (hb : Below w.heap.size w w') : VS w' a vs := by
  rcases h with h | ⟨b, off, rfl, hlt, hc⟩
  · exact .inl h
  · refine .inr ⟨b, off, rfl, Nat.lt_of_lt_of_le hlt hb.size, fun i hi => ?_⟩
    obtain ⟨h1, h2, h3, h4, h5⟩ := hc i hi
    exact ⟨by rw [hb.cell (by exact hlt)]; exact h1, by rw [hb.cell (by exact hlt)]; exact h2, by rw [hb.cell (by exact hlt)]; exact h3, by rw [hb.cell (by exact hlt)]; exact h4, by rw [hb.cell (by exact hlt)]; exact h5⟩

theorem VS.there {w : World} {a : Option Addr} {vs : List NV} (h : VS w a vs) (hi : 0 < vs.length) : ∃ b off, a = some ⟨b, off, none⟩ ∧ b < w.heap.size := by
  rcases h with h | ⟨b, off, rfl, hlt, hc⟩
  · subst h; simp at hi
  · exact ⟨b, off, rfl, hlt⟩

theorem VS.cells {w : World} {b off : Nat} {vs : List NV} (h : VS w (some ⟨b, off, none⟩) vs) (i : Nat) (hi : i < vs.length) :
    w.cell? ⟨b, off + i * 5, none⟩ = some (.int .i64 vs[i].k) ∧ w.cell? ⟨b, off + i * 5 + 1, none⟩ = some (.float .f64 vs[i].f) ∧ w.cell? ⟨b, off + i * 5 + 2, none⟩ = some (.string vs[i].s) ∧
    w.cell? ⟨b, off + i * 5 + 3, none⟩ = some (.bool vs[i].b) ∧ w.cell? ⟨b, off + i * 5 + 4, none⟩ = some (.bool vs[i].t) := by
  rcases h with h | ⟨b', off', e, hlt, hc⟩
  · subst h; simp at hi
  · cases e; exact hc i hi

set_option maxRecDepth 100000 in
set_option maxHeartbeats 400000 in
theorem numBytes16 (a : Option Addr) (l c : Nat) (vs : List NV) (w : World) (hl : vs.length = l) (hm : l ≤ 1048576) (hs : VS w a vs) (hk : ∀ x ∈ vs, x.s.size ≤ maxLen) :
    Calls Try.prog 16 #[.slice a l c] w fun e w' => (∃ t : Nat, t ≤ 4194304 ∧ e = .returned (.int .i64 t)) ∧ w' = w := by
  have HL := hide hl
  have HS := hide hs
  have HK := hide hk
  clear hl hs hk
  go_enter Try.func16, Try.ntmps16
  go_wp2
  go_loop [3, 7] (fun t i => ∃ k s : Nat, k ≤ l ∧ s ≤ 1048576 ∧ i = .int .i64 k ∧ t = .int .i64 s) (fun _ i => l - (intOf i).toNat)
  case atStart => exact ⟨0, 0, Nat.zero_le _, Nat.zero_le _, rfl, rfl⟩
  case round =>
    obtain ⟨k, s, hk, hs, rfl, rfl⟩ := hrel
    by_cases hlt : k < l
    · have hkn : k < vs.length := by have := HL.out; omega
      obtain ⟨b, off, rfl, _⟩ := HS.out.there (by omega)
      have g := (HS.out.cells k hkn).2.2.1
      have hxl := HK.out _ (List.getElem_mem hkn)
      obtain ⟨x, hx⟩ : ∃ x, vs[k].s = x := ⟨_, rfl⟩
      rw [hx] at g hxl
      clear hx
      unfold maxLen at hxl
      go_wp2
      · go_ret
        exact ⟨⟨1048577, by omega, rfl⟩, rfl⟩
      · go_ret
        exact ⟨⟨s + (48 + x.size), by omega, by simp⟩, rfl⟩
      · go_round
        case rel => exact ⟨k + 1, s + (48 + x.size), by omega, by omega, by simp, by simp⟩
        case measure => simp [intOf]; omega
    · go_wp2
      go_ret
      exact ⟨⟨s, by omega, rfl⟩, rfl⟩

set_option maxRecDepth 100000 in
set_option maxHeartbeats 400000 in
theorem bytes15 (a : Option Addr) (l c : Nat) (vs : List NV) (w : World) (hl : vs.length = l) (hm : l ≤ maxLen) (hs : VS w a vs) (hk : ∀ x ∈ vs, x.s.size ≤ maxLen) :
    Calls Try.prog 15 #[.slice a l c] w fun e w' => Answers e ∧ w' = w := by
  have HL := hide hl
  have HS := hide hs
  have HK := hide hk
  unfold maxLen at hm
  clear hl hs hk
  by_cases hbig : 1048576 < l
  · have hd : decide ((1048576 : Int) < (l : Int)) = true := by simp; omega
    go_enter Try.func15, Try.ntmps15
    go_wp2
    go_ret
    exact ⟨⟨_, rfl⟩, rfl⟩
  have hd : decide ((1048576 : Int) < (l : Int)) = false := by simp; omega
  go_enter Try.func15, Try.ntmps15
  go_wp2
  go_loop [3, 4] (fun t i => ∃ k s : Nat, k ≤ l ∧ s ≤ 1048576 ∧ i = .int .i64 k ∧ t = .int .i64 s) (fun _ i => l - (intOf i).toNat)
  case atStart => exact ⟨0, l, Nat.zero_le _, by omega, rfl, rfl⟩
  case round =>
    obtain ⟨k, s, hk, hs, rfl, rfl⟩ := hrel
    by_cases hlt : k < l
    · have hkn : k < vs.length := by have := HL.out; omega
      obtain ⟨b, off, rfl, _⟩ := HS.out.there (by omega)
      have g := (HS.out.cells k hkn).2.2.1
      have hxl := HK.out _ (List.getElem_mem hkn)
      obtain ⟨x, hx⟩ : ∃ x, vs[k].s = x := ⟨_, rfl⟩
      rw [hx] at g hxl
      clear hx
      unfold maxLen at hxl
      go_wp2
      · go_ret
        exact ⟨⟨_, rfl⟩, rfl⟩
      · go_ret
        exact ⟨⟨_, rfl⟩, rfl⟩
      · go_round
        case rel => exact ⟨k + 1, s + x.size, by omega, by omega, by simp, by simp⟩
        case measure => simp [intOf]; omega
    · go_wp2
      go_ret
      exact ⟨⟨_, rfl⟩, rfl⟩
end Go.Proofs.Qxb6607685a
