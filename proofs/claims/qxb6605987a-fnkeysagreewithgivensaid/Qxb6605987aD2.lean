import Derived.Test.Qxb6605987aD1
import Derived.Maps.OwnSet
namespace Go.Proofs.Qxb6605987a
open Go.RowKit Go.Maps Go.WideMaps
set_option linter.unusedVariables false
set_option linter.unusedSimpArgs false

theorem kl9 : Keyed Try.prog 9 := string_keyed Try.underlying9
theorem kl23 : Keyed Try.prog 23 := int_keyed Try.underlying23
theorem zero3 (w : World) : (zeroValue 3).run Try.prog w = .ok (.int .i64 0) w := by kernel_rfl
theorem zero72 (w : World) : (zeroValue 72).run Try.prog w = .ok (.pointer none) w := by kernel_rfl

/-! ### places: a map from keys to their places -/
def MapP (w : World) (b n : Nat) (L : List (List UInt8)) : Prop :=
  ∃ D : DataW Unit, w.ownsMap Try.prog 9 (plainElem (H := Unit) Try.prog 3) b n D ∧ (∀ k : List UInt8, Maps.has D (.string k) = L.contains k) ∧
    (∀ i (h : i < L.length), D.atKey (.string L[i]) (.lit (.int .i64 0)) = .lit (.int .i64 (i : Int))) ∧ L.length ≤ n

theorem MapP.kept {w w' : World} {b n : Nat} {L : List (List UInt8)} {row : Option Nat} (h : MapP w b n L) (hg : w.grownBy w' row) (hne : some b ≠ row) : MapP w' b n L := by
  obtain ⟨D, h1, h2⟩ := h
  exact ⟨D, h1.kept hg hne, h2⟩

theorem mapP_made (w : World) : MapP (w.alloc (.map #[] 0)) w.heap.size 0 [] :=
  ⟨.map [], World.ownsMap_made _ _ _ _, fun k => rfl, fun i h => absurd h (Nat.not_lt_zero i), Nat.le_refl _⟩

theorem keyStr (k : List UInt8) (hk : k.length ≤ maxLen) : keyOf Try.prog 9 (.string ⟨k.toArray⟩) = some (.string k) := by
  have := keyOf_string_mk (P := Try.prog) (k := 9) (s := ⟨k.toArray⟩) Try.underlying9 (by simpa [ByteArray.size] using hk)
  simpa using this

/-- What the look-up hands back. -/
def posOr (L : List (List UInt8)) (k : List UInt8) : Nat := if L.contains k then L.idxOf k else 0

/-- The look-up. -/
theorem MapP.look {w : World} {b n : Nat} {L : List (List UInt8)} (h : MapP w b n L) (k : List UInt8) (hk : k.length ≤ maxLen) :
    (Instr.lookup 73 (.map (some b)) (.string ⟨k.toArray⟩) true).run Try.prog w = .ok (.tuple #[.int .i64 (posOr L k : Nat), .bool (L.contains k)]) w := by
  obtain ⟨D, ho, hh, ha, hl⟩ := h
  obtain ⟨v, ps, hrun, hv⟩ := ho.look_ok kl9 (e := 3) (t := 73) Try.underlying73 (zero3 w) (zd := .lit (.int .i64 0)) (zp := []) (plainElem_int Try.underlying3 (by decide)) (keyStr k hk)
  obtain ⟨c, rfl, hc, hwc⟩ := plainElem_int_inv Try.underlying3 hv
  have hhk := hh k
  have e := congrArg Prod.fst hc
  simp only at e
  have : c = (posOr L k : Nat) := by
    unfold posOr
    cases hm : L.contains k
    · rw [hm] at hhk
      rw [atKey_of_not_has hhk] at e
      cases e; rfl
    · have hi : L.idxOf k < L.length := List.idxOf_lt_length_of_mem (by simpa using hm)
      have h2 := ha _ hi
      rw [List.getElem_idxOf hi] at h2
      rw [h2] at e
      cases e; rfl
  rw [hhk] at hrun
  rw [hrun, this]

/-- A new key. -/
theorem MapP.store {w : World} {b n : Nat} {L : List (List UInt8)} (h : MapP w b n L) (k : List UInt8) (hk : k.length ≤ maxLen) (hm : k ∉ L) (hn : n < 4294967295) :
    ∃ w', (Instr.mapUpdate 73 (.map (some b)) (.string ⟨k.toArray⟩) (.int .i64 (L.length : Int))).run Try.prog w = .ok () w' ∧ MapP w' b (n + 1) (L ++ [k]) ∧ w.grownBy w' (some b) := by
  obtain ⟨D, ho, hh, ha, hl⟩ := h
  have hno : Maps.has D (.string k) = false := by rw [hh k]; simpa using hm
  obtain ⟨w', hrun, ho', ht⟩ := ho.store kl9 (t := 73) (e := 3) Try.underlying73 (by unfold maxLen; omega) (keyStr k hk) (plainElem_int Try.underlying3 (WalkArith.wf_i64 (n := (L.length : Int)) (by omega)))
  have hkl : WideAt.IsKeyLit (.string k) := ⟨⟩
  refine ⟨w', hrun, ⟨_, ho', ?_, ?_, ?_⟩, ht.grown⟩
  · intro k'
    by_cases e : k' = k
    · subst e
      rw [has_put_same ho.isMap hkl]; simp
    · rw [has_put_other (by intro h; cases h; exact e rfl), hh k']
      rw [List.contains_eq_mem, List.contains_eq_mem]
      simp [e]
  · intro i hi
    by_cases hil : i < L.length
    · rw [List.getElem_append_left hil]
      rw [atKey_put_other (by intro h; cases h; exact hm (List.getElem_mem hil))]
      exact ha i hil
    · have : i = L.length := by simp at hi; omega
      subst this
      rw [List.getElem_append_right (Nat.le_refl _)]
      simp only [Nat.sub_self, List.getElem_singleton]
      exact atKey_put_same ho.isMap hkl _ _
  · simp; omega

/-! ### indexes: a map from the table's number to its index -/
def ptrElem : Value → Option (DataW Unit × List MemPlace)
  | .pointer none => some (.nil, [])
  | .pointer (some ⟨b, 0, none⟩) => some (.lit (.int .i64 (b : Int)), [])
  | _ => none

def MapX (w : World) (b xb : Nat) : Prop := ∃ (D : DataW Unit) (n : Nat), w.ownsMap Try.prog 23 ptrElem b n D ∧ D.atKey (.int .u32 1) .nil = .lit (.int .i64 (xb : Int))

theorem MapX.kept {w w' : World} {b xb : Nat} {row : Option Nat} (h : MapX w b xb) (hg : w.grownBy w' row) (hne : some b ≠ row) : MapX w' b xb := by
  obtain ⟨D, n, h1, h2⟩ := h
  exact ⟨D, n, h1.kept hg hne, h2⟩

theorem keyOne : keyOf Try.prog 23 (.int .u32 1) = some (.int .u32 1) := keyOf_int_mk Try.underlying23 (by decide)

theorem ptrElem_inv {v : Value} {b : Nat} {ps : List MemPlace} (h : ptrElem v = some (.lit (.int .i64 (b : Int)), ps)) : v = .pointer (some ⟨b, 0, none⟩) := by
  unfold ptrElem at h
  split at h
  · simp at h
  · simp at h
    rename_i b'
    have : b' = b := by omega
    subst this; rfl
  · cases h

theorem MapX.look {w : World} {b xb : Nat} (h : MapX w b xb) : (Instr.lookup 61 (.map (some b)) (.int .u32 1) false).run Try.prog w = .ok (.pointer (some ⟨xb, 0, none⟩)) w := by
  obtain ⟨D, n, ho, ha⟩ := h
  obtain ⟨v, ps, hrun, hv⟩ := ho.lookup kl23 (e := 72) (t := 61) Try.underlying61 (zero72 w) (zd := .nil) (zp := []) rfl keyOne
  rw [ha] at hv
  rw [hrun, ptrElem_inv hv]

theorem look_none (w : World) : (Instr.lookup 61 (.map none) (.int .u32 1) false).run Try.prog w = .ok (.pointer none) w := by
  have := Maps.look_nil (P := Try.prog) (w := w) (t := 61) (e := 72) false kl23 Try.underlying61 (zero72 w) keyOne
  simpa using this

theorem MapX.store {w : World} {b n : Nat} {D : DataW Unit} (ho : w.ownsMap Try.prog 23 ptrElem b n D) (hn : n < 4294967295) (xb : Nat) :
    ∃ w', (Instr.mapUpdate 61 (.map (some b)) (.int .u32 1) (.pointer (some ⟨xb, 0, none⟩))).run Try.prog w = .ok () w' ∧ MapX w' b xb ∧ w.grownBy w' (some b) := by
  obtain ⟨w', hrun, ho', ht⟩ := ho.store kl23 (t := 61) (e := 72) Try.underlying61 (by unfold maxLen; omega) keyOne (val := .pointer (some ⟨xb, 0, none⟩)) (d := .lit (.int .i64 (xb : Int))) (ps := []) rfl
  exact ⟨w', hrun, ⟨_, _, ho', atKey_put_same ho.isMap (k := .int .u32 1) trivial _ _⟩, ht.grown⟩
end Go.Proofs.Qxb6605987a
