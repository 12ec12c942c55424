import Derived.Test.Qxb6607685aN2
namespace Go.Proofs.Qxb6607685a
open Go.RowKit Go.Maps Go.WideMaps
set_option linter.unusedVariables false
set_option linter.unusedSimpArgs false

/-- The slice at 'a' reads the cells 'cs' (one cell an element). -/
def SC (w : World) (a : Option Addr) (cs : List Value) : Prop :=
  cs = [] ∨ ∃ b off, a = some ⟨b, off, none⟩ ∧ b < w.heap.size ∧ ∀ i (h : i < cs.length), w.cell? ⟨b, off + i, none⟩ = some cs[i]

theorem SC.below {w w' : World} {a : Option Addr} {cs : List Value} (h : SC w a cs) (hb : Below w.heap.size w w') : SC w' a cs := by
  rcases h with h | ⟨b, off, rfl, hlt, hc⟩
  · exact .inl h
  · exact .inr ⟨b, off, rfl, Nat.lt_of_lt_of_le hlt hb.size, fun i hi => by rw [hb.cell (by exact hlt)]; exact hc i hi⟩

theorem addr_add0 (b off j : Nat) : (⟨b, off, none⟩ : Addr).add j = ⟨b, off + j, none⟩ := by unfold Addr.add; split <;> simp_all

/-- How a name lies in a cell. -/
def sV (l : List UInt8) : Value := .string ⟨l.toArray⟩

/-- The slice at 'a' reads the names. -/
def SN (w : World) (a : Option Addr) (names : List (List UInt8)) : Prop := SC w a (names.map sV)

theorem SN.below {w w' : World} {a : Option Addr} {names : List (List UInt8)} (h : SN w a names) (hb : Below w.heap.size w w') : SN w' a names := SC.below h hb

theorem SN.cell {w : World} {b off : Nat} {names : List (List UInt8)} (h : SN w (some ⟨b, off, none⟩) names) (i : Nat) (hi : i < names.length) : w.cell? ⟨b, off + i, none⟩ = some (.string ⟨names[i].toArray⟩) := by
  rcases h with h | ⟨b', off', e, _, hc⟩
  · simp at h; subst h; simp at hi
  · cases e
    have := hc i (by simpa using hi)
    simpa [sV] using this

theorem SN.some {w : World} {a : Option Addr} {names : List (List UInt8)} (h : SN w a names) (hi : 0 < names.length) : ∃ b off, a = some ⟨b, off, none⟩ ∧ b < w.heap.size := by
  rcases h with h | ⟨b', off', e, hb, _⟩
  · simp at h; subst h; simp at hi
  · exact ⟨b', off', e, hb⟩

def Answers (e : Ending) : Prop := ∃ b : Bool, e = .returned (.bool b)

set_option maxRecDepth 100000 in
set_option maxHeartbeats 400000 in
theorem names22 (a : Option Addr) (l c : Nat) (names : List (List UInt8)) (w : World) (hl : names.length = l) (hm : l ≤ 1048576) (hs : SN w a names) (hk : ∀ x ∈ names, x.length ≤ maxLen) :
    Calls Try.prog 22 #[.slice a l c] w fun e w' => (∃ t : Nat, t ≤ 4194304 ∧ e = .returned (.int .i64 t)) ∧ w' = w := by
  have HL := hide hl
  have HS := hide hs
  have HK := hide hk
  clear hl hs hk
  go_enter Try.func22, Try.ntmps22
  go_wp2
  go_loop [3, 7] (fun t i => ∃ k s : Nat, k ≤ l ∧ s ≤ 1048576 ∧ i = .int .i64 k ∧ t = .int .i64 s) (fun _ i => l - (intOf i).toNat)
  case atStart => exact ⟨0, 0, Nat.zero_le _, Nat.zero_le _, rfl, rfl⟩
  case round =>
    obtain ⟨k, s, hk, hs, rfl, rfl⟩ := hrel
    by_cases hlt : k < l
    · have hkn : k < names.length := by have := HL.out; omega
      obtain ⟨b, off, rfl, _⟩ := HS.out.some (by omega)
      have g := HS.out.cell k hkn
      have hxl := HK.out _ (List.getElem_mem hkn)
      obtain ⟨x, hx⟩ : ∃ x, names[k] = x := ⟨_, rfl⟩
      rw [hx] at g hxl
      clear hx
      unfold maxLen at hxl
      go_wp2
      · go_ret
        exact ⟨⟨1048577, by omega, rfl⟩, rfl⟩
      · go_ret
        exact ⟨⟨s + (16 + x.length), by omega, by simp⟩, rfl⟩
      · go_round
        case rel => exact ⟨k + 1, s + (16 + x.length), by omega, by omega, by simp, by simp⟩
        case measure => simp [intOf]; omega
    · go_wp2
      go_ret
      exact ⟨⟨s, by omega, rfl⟩, rfl⟩

set_option maxRecDepth 100000 in
set_option maxHeartbeats 400000 in
theorem bytes30 (a : Option Addr) (l c : Nat) (names : List (List UInt8)) (w : World) (hl : names.length = l) (hm : l ≤ maxLen) (hs : SN w a names) (hk : ∀ x ∈ names, x.length ≤ maxLen) :
    Calls Try.prog 30 #[.slice a l c] w fun e w' => Answers e ∧ w' = w := by
  have HL := hide hl
  have HS := hide hs
  have HK := hide hk
  unfold maxLen at hm
  clear hl hs hk
  by_cases hbig : 1048576 < l
  · have hd : decide ((1048576 : Int) < (l : Int)) = true := by simp; omega
    go_enter Try.func30, Try.ntmps30
    go_wp2
    go_ret
    exact ⟨⟨_, rfl⟩, rfl⟩
  have hd : decide ((1048576 : Int) < (l : Int)) = false := by simp; omega
  have hd0 : decide ((1048576 : Int) < 0 + (l : Int)) = false := by simp; omega
  go_enter Try.func30, Try.ntmps30
  go_wp2
  go_loop [3, 4] (fun t i => ∃ k s : Nat, k ≤ l ∧ s ≤ 1048576 ∧ i = .int .i64 k ∧ t = .int .i64 s) (fun _ i => l - (intOf i).toNat)
  case atStart => exact ⟨0, l, Nat.zero_le _, by omega, rfl, rfl⟩
  case round =>
    obtain ⟨k, s, hk, hs, rfl, rfl⟩ := hrel
    by_cases hlt : k < l
    · have hkn : k < names.length := by have := HL.out; omega
      obtain ⟨b, off, rfl, _⟩ := HS.out.some (by omega)
      have g := HS.out.cell k hkn
      have hxl := HK.out _ (List.getElem_mem hkn)
      obtain ⟨x, hx⟩ : ∃ x, names[k] = x := ⟨_, rfl⟩
      rw [hx] at g hxl
      clear hx
      unfold maxLen at hxl
      go_wp2
      · go_ret
        exact ⟨⟨_, rfl⟩, rfl⟩
      · go_ret
        exact ⟨⟨_, rfl⟩, rfl⟩
      · go_round
        case rel => exact ⟨k + 1, s + x.length, by omega, by omega, by simp, by simp⟩
        case measure => simp [intOf]; omega
    · go_wp2
      go_ret
      exact ⟨⟨_, rfl⟩, rfl⟩

set_option maxRecDepth 100000 in
set_option maxHeartbeats 400000 in
theorem bytes29 (a : Option Addr) (l c : Nat) (names : List (List UInt8)) (w : World) (hl : names.length = l) (hm : l ≤ maxLen) (hs : SN w a names) (hk : ∀ x ∈ names, x.length ≤ maxLen) :
    Calls Try.prog 29 #[.slice a l c] w fun e w' => Answers e ∧ w' = w := by
  have HL := hide hl
  have HS := hide hs
  have HK := hide hk
  unfold maxLen at hm
  clear hl hs hk
  by_cases hbig : 1048576 < l
  · have hd : decide ((1048576 : Int) < (l : Int)) = true := by simp; omega
    go_enter Try.func29, Try.ntmps29
    go_wp2
    go_ret
    exact ⟨⟨_, rfl⟩, rfl⟩
  have hd : decide ((1048576 : Int) < (l : Int)) = false := by simp; omega
  have hd0 : decide ((1048576 : Int) < 0 + (l : Int)) = false := by simp; omega
  go_enter Try.func29, Try.ntmps29
  go_wp2
  go_loop [3, 4] (fun t i => ∃ k s : Nat, k ≤ l ∧ s ≤ 1048576 ∧ i = .int .i64 k ∧ t = .int .i64 s) (fun _ i => l - (intOf i).toNat)
  case atStart => exact ⟨0, l, Nat.zero_le _, by omega, rfl, rfl⟩
  case round =>
    obtain ⟨k, s, hk, hs, rfl, rfl⟩ := hrel
    by_cases hlt : k < l
    · have hkn : k < names.length := by have := HL.out; omega
      obtain ⟨b, off, rfl, _⟩ := HS.out.some (by omega)
      have g := HS.out.cell k hkn
      have hxl := HK.out _ (List.getElem_mem hkn)
      obtain ⟨x, hx⟩ : ∃ x, names[k] = x := ⟨_, rfl⟩
      rw [hx] at g hxl
      clear hx
      unfold maxLen at hxl
      go_wp2
      · go_ret
        exact ⟨⟨_, rfl⟩, rfl⟩
      · go_ret
        exact ⟨⟨_, rfl⟩, rfl⟩
      · go_round
        case rel => exact ⟨k + 1, s + x.length, by omega, by omega, by simp, by simp⟩
        case measure => simp [intOf]; omega
    · go_wp2
      go_ret
      exact ⟨⟨_, rfl⟩, rfl⟩

set_option maxRecDepth 100000 in
set_option maxHeartbeats 800000 in
theorem bytes28 (a : Option Addr) (l c : Nat) (names : List (List UInt8)) (a2 : Option Addr) (l2 c2 : Nat) (names2 : List (List UInt8)) (w : World) (hl : names.length = l) (hm : l ≤ maxLen) (hs : SN w a names) (hk : ∀ x ∈ names, x.length ≤ maxLen)
    (hl2 : names2.length = l2) (hm2 : l2 ≤ maxLen) (hs2 : SN w a2 names2) (hk2 : ∀ x ∈ names2, x.length ≤ maxLen) :
    Calls Try.prog 28 #[.slice a l c, .slice a2 l2 c2] w fun e w' => Answers e ∧ w' = w := by
  have HL := hide hl
  have HS := hide hs
  have HK := hide hk
  have HL2 := hide hl2
  have HS2 := hide hs2
  have HK2 := hide hk2
  unfold maxLen at *
  clear hl hs hk hl2 hs2 hk2
  by_cases hbig : 1048576 < l
  · have hd : decide ((1048576 : Int) < (l : Int)) = true := by simp; omega
    go_enter Try.func28, Try.ntmps28
    go_wp2
    go_ret
    exact ⟨⟨_, rfl⟩, rfl⟩
  have hd : decide ((1048576 : Int) < (l : Int)) = false := by simp; omega
  go_enter Try.func28, Try.ntmps28
  go_wp2
  go_loop [5, 6] (fun t i => ∃ k s : Nat, k ≤ l ∧ s ≤ 1048576 ∧ i = .int .i64 k ∧ t = .int .i64 s) (fun _ i => l - (intOf i).toNat)
  case atStart => exact ⟨0, l, Nat.zero_le _, by omega, rfl, rfl⟩
  case round =>
    obtain ⟨k, s, hk, hs, rfl, rfl⟩ := hrel
    by_cases hlt : k < l
    · have hkn : k < names.length := by have := HL.out; omega
      obtain ⟨b, off, rfl, _⟩ := HS.out.some (by omega)
      have g := HS.out.cell k hkn
      have hxl := HK.out _ (List.getElem_mem hkn)
      obtain ⟨x, hx⟩ : ∃ x, names[k] = x := ⟨_, rfl⟩
      rw [hx] at g hxl
      clear hx
      go_wp2
      · go_ret
        exact ⟨⟨_, rfl⟩, rfl⟩
      · go_ret
        exact ⟨⟨_, rfl⟩, rfl⟩
      · go_round
        case rel => exact ⟨k + 1, s + x.length, by omega, by omega, by simp, by simp⟩
        case measure => simp [intOf]; omega
    · by_cases hbig2 : 1048576 < l2
      · have hd2 : decide ((1048576 : Int) < (l2 : Int)) = true := by simp; omega
        go_wp2
        go_ret
        exact ⟨⟨_, rfl⟩, rfl⟩
      have hd2 : decide ((1048576 : Int) < (l2 : Int)) = false := by simp; omega
      by_cases hbig3 : 1048576 < s + l2
      · have hd3 : decide ((1048576 : Int) < (s : Int) + (l2 : Int)) = true := by simp; omega
        go_wp2
        go_ret
        exact ⟨⟨_, rfl⟩, rfl⟩
      have hd3 : decide ((1048576 : Int) < (s : Int) + (l2 : Int)) = false := by simp; omega
      go_wp2
      go_loop [5, 7] (fun t i => ∃ k s : Nat, k ≤ l2 ∧ s ≤ 1048576 ∧ i = .int .i64 k ∧ t = .int .i64 s) (fun _ i => l2 - (intOf i).toNat)
      case atStart => exact ⟨0, s + l2, Nat.zero_le _, by omega, rfl, by simp⟩
      case round =>
        obtain ⟨k2, s2, hk2, hs2, rfl, rfl⟩ := hrel
        by_cases hlt2 : k2 < l2
        · have hkn : k2 < names2.length := by have := HL2.out; omega
          obtain ⟨b, off, rfl, _⟩ := HS2.out.some (by omega)
          have g := HS2.out.cell k2 hkn
          have hxl := HK2.out _ (List.getElem_mem hkn)
          obtain ⟨x, hx⟩ : ∃ x, names2[k2] = x := ⟨_, rfl⟩
          rw [hx] at g hxl
          clear hx
          go_wp2
          · go_ret
            exact ⟨⟨_, rfl⟩, rfl⟩
          · go_ret
            exact ⟨⟨_, rfl⟩, rfl⟩
          · go_round
            case rel => exact ⟨k2 + 1, s2 + x.length, by omega, by omega, by simp, by simp⟩
            case measure => simp [intOf]; omega
        · go_wp2
          all_goals
            go_ret
            exact ⟨⟨_, rfl⟩, rfl⟩

set_option maxRecDepth 100000 in
set_option maxHeartbeats 800000 in
theorem bytes21 (a : Option Addr) (l c : Nat) (names : List (List UInt8)) (a2 : Option Addr) (l2 c2 : Nat) (names2 : List (List UInt8)) (x1 x2 : List UInt8) (w : World) (hl : names.length = l) (hm : l ≤ maxLen) (hs : SN w a names) (hk : ∀ x ∈ names, x.length ≤ maxLen)
    (hl2 : names2.length = l2) (hm2 : l2 ≤ maxLen) (hs2 : SN w a2 names2) (hk2 : ∀ x ∈ names2, x.length ≤ maxLen) (hx1 : x1.length ≤ maxLen) (hx2 : x2.length ≤ maxLen) :
    Calls Try.prog 21 #[.slice a l c, .slice a2 l2 c2, .string ⟨x1.toArray⟩, .string ⟨x2.toArray⟩] w fun e w' => Answers e ∧ w' = w := by
  have HL := hide hl
  have HS := hide hs
  have HK := hide hk
  have HL2 := hide hl2
  have HS2 := hide hs2
  have HK2 := hide hk2
  unfold maxLen at *
  clear hl hs hk hl2 hs2 hk2
  by_cases hbig : 1048576 < l
  · have hd : decide ((1048576 : Int) < (l : Int)) = true := by simp; omega
    go_enter Try.func21, Try.ntmps21
    go_wp2
    go_ret
    exact ⟨⟨_, rfl⟩, rfl⟩
  have hd : decide ((1048576 : Int) < (l : Int)) = false := by simp; omega
  go_enter Try.func21, Try.ntmps21
  go_wp2
  go_loop [9, 10] (fun t i => ∃ k s : Nat, k ≤ l ∧ s ≤ 1048576 ∧ i = .int .i64 k ∧ t = .int .i64 s) (fun _ i => l - (intOf i).toNat)
  case atStart => exact ⟨0, l, Nat.zero_le _, by omega, rfl, rfl⟩
  case round =>
    obtain ⟨k, s, hk, hs, rfl, rfl⟩ := hrel
    by_cases hlt : k < l
    · have hkn : k < names.length := by have := HL.out; omega
      obtain ⟨b, off, rfl, _⟩ := HS.out.some (by omega)
      have g := HS.out.cell k hkn
      have hxl := HK.out _ (List.getElem_mem hkn)
      obtain ⟨x, hx⟩ : ∃ x, names[k] = x := ⟨_, rfl⟩
      rw [hx] at g hxl
      clear hx
      go_wp2
      · go_ret
        exact ⟨⟨_, rfl⟩, rfl⟩
      · go_ret
        exact ⟨⟨_, rfl⟩, rfl⟩
      · go_round
        case rel => exact ⟨k + 1, s + x.length, by omega, by omega, by simp, by simp⟩
        case measure => simp [intOf]; omega
    · by_cases hbig2 : 1048576 < l2
      · have hd2 : decide ((1048576 : Int) < (l2 : Int)) = true := by simp; omega
        go_wp2
        go_ret
        exact ⟨⟨_, rfl⟩, rfl⟩
      have hd2 : decide ((1048576 : Int) < (l2 : Int)) = false := by simp; omega
      by_cases hbig3 : 1048576 < s + l2
      · have hd3 : decide ((1048576 : Int) < (s : Int) + (l2 : Int)) = true := by simp; omega
        go_wp2
        go_ret
        exact ⟨⟨_, rfl⟩, rfl⟩
      have hd3 : decide ((1048576 : Int) < (s : Int) + (l2 : Int)) = false := by simp; omega
      go_wp2
      go_loop [9, 11] (fun t i => ∃ k s : Nat, k ≤ l2 ∧ s ≤ 1048576 ∧ i = .int .i64 k ∧ t = .int .i64 s) (fun _ i => l2 - (intOf i).toNat)
      case atStart => exact ⟨0, s + l2, Nat.zero_le _, by omega, rfl, by simp⟩
      case round =>
        obtain ⟨k2, s2, hk2, hs2, rfl, rfl⟩ := hrel
        by_cases hlt2 : k2 < l2
        · have hkn : k2 < names2.length := by have := HL2.out; omega
          obtain ⟨b, off, rfl, _⟩ := HS2.out.some (by omega)
          have g := HS2.out.cell k2 hkn
          have hxl := HK2.out _ (List.getElem_mem hkn)
          obtain ⟨x, hx⟩ : ∃ x, names2[k2] = x := ⟨_, rfl⟩
          rw [hx] at g hxl
          clear hx
          go_wp2
          · go_ret
            exact ⟨⟨_, rfl⟩, rfl⟩
          · go_ret
            exact ⟨⟨_, rfl⟩, rfl⟩
          · go_round
            case rel => exact ⟨k2 + 1, s2 + x.length, by omega, by omega, by simp, by simp⟩
            case measure => simp [intOf]; omega
        · go_wp2
          all_goals
            go_ret
            exact ⟨⟨_, rfl⟩, rfl⟩
end Go.Proofs.Qxb6607685a
