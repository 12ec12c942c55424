import Derived.Test.Qxb6607685aRows
import Derived.WalkKit
import Derived.WalkSpells
import Derived.WalkLawsBesides
import Derived.Laws.CopyOwn
import Derived.Maps.OwnSet
namespace Go.Proofs.Qxb6607685a
open Go.RowKit Go.Maps Go.WideMaps
set_option linter.unusedVariables false
set_option linter.unusedSimpArgs false

theorem hide {p : Prop} (h : p) : Hid p := h
theorem kl9 : Keyed Try.prog 9 := string_keyed Try.underlying9
theorem zero23 (w : World) : (zeroValue 23).run Try.prog w = .ok (.int .u32 0) w := by kernel_rfl

/-- Block b is a map that numbers the names of L, each by its place. -/
def MapN (w : World) (b n : Nat) (L : List (List UInt8)) : Prop :=
  ∃ D : DataW Unit, w.ownsMap Try.prog 9 (plainElem (H := Unit) Try.prog 23) b n D ∧ Maps.size D = L.length ∧ (∀ k : List UInt8, Maps.has D (.string k) = L.contains k) ∧
    (∀ i (h : i < L.length), D.atKey (.string L[i]) (.lit (.int .u32 0)) = .lit (.int .u32 (i : Int))) ∧ L.Nodup ∧ L.length ≤ n

theorem MapN.kept {w w' : World} {b n : Nat} {L : List (List UInt8)} {row : Option Nat} (h : MapN w b n L) (hg : w.grownBy w' row) (hne : some b ≠ row) : MapN w' b n L := by
  obtain ⟨D, h1, h2⟩ := h
  exact ⟨D, h1.kept hg hne, h2⟩

theorem mapN_made (w : World) : MapN (w.alloc (.map #[] 0)) w.heap.size 0 [] :=
  ⟨.map [], World.ownsMap_made _ _ _ _, rfl, fun k => rfl, fun i h => absurd h (Nat.not_lt_zero i), List.nodup_nil, Nat.le_refl _⟩

theorem keyStr (k : List UInt8) (hk : k.length ≤ maxLen) : keyOf Try.prog 9 (.string ⟨k.toArray⟩) = some (.string k) := by
  have := keyOf_string_mk (P := Try.prog) (k := 9) (s := ⟨k.toArray⟩) Try.underlying9 (by simpa [ByteArray.size] using hk)
  simpa using this

theorem wf_u32 {n : Nat} (h : n < 4294967296) : (Lit.int .u32 (n : Int)).wf = true := WalkArith.wf_u32 (by omega)

/-- The look-up. -/
theorem MapN.look {w : World} {b n : Nat} {L : List (List UInt8)} (h : MapN w b n L) (k : List UInt8) (hk : k.length ≤ maxLen) :
    ∃ c : Int, (Instr.lookup 63 (.map (some b)) (.string ⟨k.toArray⟩) true).run Try.prog w = .ok (.tuple #[.int .u32 c, .bool (L.contains k)]) w ∧ (k ∈ L → c = (L.idxOf k : Nat)) ∧ (k ∉ L → c = 0) := by
  obtain ⟨D, ho, hs, hh, ha, hn, hl⟩ := h
  obtain ⟨v, ps, hrun, hv⟩ := ho.look_ok kl9 (e := 23) (t := 63) Try.underlying63 (zero23 w) (zd := .lit (.int .u32 0)) (zp := []) (plainElem_int Try.underlying23 (by decide)) (keyStr k hk)
  obtain ⟨c, rfl, hc, hwc⟩ := plainElem_int_inv Try.underlying23 hv
  rw [hh k] at hrun
  refine ⟨c, hrun, fun hm => ?_, fun hm => ?_⟩
  · have hi : L.idxOf k < L.length := List.idxOf_lt_length_of_mem hm
    have := ha _ hi
    rw [List.getElem_idxOf hi] at this
    have e := congrArg Prod.fst hc
    simp only at e
    rw [this] at e
    cases e
    rfl
  · have : Maps.has D (.string k) = false := by rw [hh k]; simpa using hm
    have e := congrArg Prod.fst hc
    simp only at e
    rw [atKey_of_not_has this] at e
    cases e
    rfl

/-- The length. -/
theorem MapN.len {w : World} {b n : Nat} {L : List (List UInt8)} (h : MapN w b n L) (ty : TypeId) : (Builtin.len_ #[63] ty #[.map (some b)]).run Try.prog w = .ok (.int .i64 (L.length : Int)) w := by
  obtain ⟨D, ho, hs, _⟩ := h
  have := ho.len (t := 63) (e := 23) Try.underlying63 ty
  rw [hs] at this
  exact this

/-- A new name. -/
theorem MapN.store {w : World} {b n : Nat} {L : List (List UInt8)} (h : MapN w b n L) (k : List UInt8) (hk : k.length ≤ maxLen) (hm : k ∉ L) (hn : n < 4294967295) :
    ∃ w', (Instr.mapUpdate 63 (.map (some b)) (.string ⟨k.toArray⟩) (.int .u32 (L.length : Int))).run Try.prog w = .ok () w' ∧ MapN w' b (n + 1) (L ++ [k]) ∧ w.grownBy w' (some b) := by
  obtain ⟨D, ho, hs, hh, ha, hd, hl⟩ := h
  have hno : Maps.has D (.string k) = false := by rw [hh k]; simpa using hm
  obtain ⟨w', hrun, ho', ht⟩ := ho.store kl9 (t := 63) (e := 23) Try.underlying63 (by unfold maxLen; omega) (keyStr k hk) (plainElem_int Try.underlying23 (wf_u32 (n := L.length) (by omega)))
  have hkl : WideAt.IsKeyLit (.string k) := ⟨⟩
  refine ⟨w', hrun, ⟨_, ho', ?_, ?_, ?_, ?_, ?_⟩, ht.grown⟩
  · rw [size_put (ho.tidy kl9), hno, hs]; simp
  · intro k'
    by_cases e : k' = k
    · subst e
      rw [has_put_same ho.isMap hkl]; simp
    · rw [has_put_other (by intro h; cases h; exact e rfl), hh k']
      rw [List.contains_eq_mem, List.contains_eq_mem]
      simp [e]
  · intro i hi
    by_cases hil : i < L.length
    · rw [List.getElem_append_left hil]
      rw [atKey_put_other (by intro h; cases h; exact hm (List.getElem_mem hil))]
      exact ha i hil
    · have : i = L.length := by simp at hi; omega
      subst this
      rw [List.getElem_append_right (Nat.le_refl _)]
      simp only [Nat.sub_self, List.getElem_singleton]
      exact atKey_put_same ho.isMap hkl _ _
  · rw [List.nodup_append]
    exact ⟨hd, by simp, by intro a ha b hb; simp at hb; subst hb; intro e; subst e; exact hm ha⟩
  · simp; omega

end Go.Proofs.Qxb6607685a
