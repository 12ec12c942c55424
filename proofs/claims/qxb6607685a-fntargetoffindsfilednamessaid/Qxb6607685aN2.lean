import Derived.Test.Qxb6607685aN1
namespace Go.Proofs.Qxb6607685a
open Go.RowKit Go.Maps Go.WideMaps
set_option linter.unusedVariables false
set_option linter.unusedSimpArgs false

/-- The names, a new one filed. -/
def addName (L : List (List UInt8)) (k : List UInt8) : List (List UInt8) := if L.contains k then L else L ++ [k]

theorem mem_addName (L : List (List UInt8)) (k : List UInt8) : k ∈ addName L k := by
  unfold addName; split
  · rename_i h; simpa using h
  · simp

theorem grownBy_refl (w : World) (row : Option Nat) : w.grownBy w row := ⟨rfl, rfl, rfl, Nat.le_refl _, fun _ _ _ => rfl⟩

theorem MapN.mono {w : World} {b n n' : Nat} {L : List (List UInt8)} (h : MapN w b n L) (hn : n ≤ n') : MapN w b n' L := by
  obtain ⟨D, h1, h2, h3, h4, h5, h6⟩ := h
  exact ⟨D, h1.mono hn, h2, h3, h4, h5, by omega⟩

set_option maxRecDepth 100000 in
theorem numberOf36 (b n : Nat) (L : List (List UInt8)) (k : List UInt8) (w : World) (h : MapN w b n L) (hn : n < 1048576) (hk : k.length ≤ maxLen) :
    Calls Try.prog 36 #[.map (some b), .string ⟨k.toArray⟩] w fun e w' => e = .returned (.int .u32 ((addName L k).idxOf k : Nat)) ∧ MapN w' b (n + 1) (addName L k) ∧ w.grownBy w' (some b) := by
  obtain ⟨c, hlook, hc1, hc2⟩ := h.look k hk
  cases hm : L.contains k
  · have hm' : k ∉ L := by simpa using hm
    obtain ⟨w', hst, h', hg⟩ := h.store k hk hm' (by omega)
    have hll : L.length < 1048576 := by obtain ⟨_, _, _, _, _, _, hl⟩ := h; omega
    have hlen := fun ty => h.len ty
    rw [hm] at hlook
    have e1 : addName L k = L ++ [k] := by unfold addName; rw [hm]; rfl
    have e2 : (L ++ [k]).idxOf k = L.length := by rw [List.idxOf_append]; simp [hm']
    rw [e1, e2]
    have H' := hide h'
    have HG := hide hg
    clear h h' hg hc1 hc2 hm hm' e1 e2
    go_enter Try.func36, Try.ntmps36
    go_wp2
    go_ret
    exact ⟨rfl, H'.out, HG.out⟩
  · have hm' : k ∈ L := by simpa using hm
    rw [hm] at hlook
    have e1 : addName L k = L := by unfold addName; rw [hm]; rfl
    rw [e1]
    have H := hide (h.mono (Nat.le_succ n))
    have HC := hide (hc1 hm')
    clear h hc1 hc2 hm hm' e1
    go_enter Try.func36, Try.ntmps36
    go_wp2
    go_ret
    exact ⟨by rw [← HC.out]; rfl, H.out, grownBy_refl _ _⟩

set_option maxRecDepth 100000 in
theorem ZZnumberOf31 (b n : Nat) (L : List (List UInt8)) (k : List UInt8) (w : World) (h : MapN w b n L) (hn : n < 1048576) (hk : k.length ≤ maxLen) :
    Calls Try.prog 31 #[.map (some b), .string ⟨k.toArray⟩] w fun e w' => e = .returned (.int .u32 ((addName L k).idxOf k : Nat)) ∧ MapN w' b (n + 1) (addName L k) ∧ w.grownBy w' (some b) := by
  have H := hide h
  clear h
  go_enter Try.func31, Try.ntmps31
  go_wp2_with fail
  refine (numberOf36 b n L k w H.out hn hk).mono ?_
  rintro e w' ⟨rfl, h'⟩
  have H' := hide h'
  clear h'
  go_wp2_with fail
  go_ret
  exact ⟨rfl, H'.out⟩
end Go.Proofs.Qxb6607685a
