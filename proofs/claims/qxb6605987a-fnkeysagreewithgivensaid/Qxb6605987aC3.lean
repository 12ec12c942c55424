import Derived.Test.Qxb6605987aC2
namespace Go.Proofs.Qxb6605987a
open Go.RowKit
set_option linter.unusedVariables false
set_option linter.unusedSimpArgs false

theorem SC.at {w : World} {x : Addr} {cs : List Value} (h : SC w (some x) cs) : ∀ j v, cs[j]? = some v → w.cell? (x.add j) = some v := by
  intro j v hj
  rcases h with rfl | ⟨b, off, e, _, hc⟩
  · simp at hj
  · cases e
    obtain ⟨hjl, rfl⟩ := List.getElem?_eq_some_iff.1 hj
    rw [addr_add0]
    exact hc j hjl

theorem sb_of_own {w : World} {base g n cap : Nat} {bs : List UInt8} (h : w.ownsRow base 5 1 (.slice (some ⟨g, 0, none⟩) n cap) n (bs.map cB)) : SB w (some ⟨g, 0, none⟩) bs := by
  refine .inr ⟨g, 0, rfl, (h.lt g rfl).2, fun i hi => ?_⟩
  have hl := h.1
  rw [Nat.zero_add, h.cellAt i (by omega), List.getElem?_eq_getElem hi]

set_option maxRecDepth 100000 in
set_option maxHeartbeats 400000 in
theorem join10 (a0 : Option Addr) (l0 c0 : Nat) (a1 : Option Addr) (l1 c1 : Nat) (fbs ubs : List UInt8) (w : World) (h0 : l0 ≤ 262144) (h1 : l1 ≤ 262144)
    (hf : SB w a0 fbs) (hfl : fbs.length = l0) (hfn : a0 = none → l0 = 0 ∧ c0 = 0) (hu : SB w a1 ubs) (hul : ubs.length = l1) (hun : a1 = none → l1 = 0 ∧ c1 = 0) :
    Calls Try.prog 10 #[.slice a0 l0 c0, .slice a1 l1 c1] w fun e w' => e = .returned (.slice (some ⟨w.heap.size, 0, none⟩) (l0 + l1) (l0 + l1)) ∧ SB w' (some ⟨w.heap.size, 0, none⟩) (fbs ++ ubs) ∧ Below w.heap.size w w' := by
  obtain ⟨i0, hi, hz0, hz1, hz2⟩ := info_parts Try.info5
  have HF := hide hf
  have HFL := hide hfl
  have HFN := hide hfn
  have HU := hide hu
  have HUL := hide hul
  have HUN := hide hun
  have tok1 : True := trivial
  clear hf hfl hfn hu hul hun
  go_enter Try.func10, Try.ntmps10
  go_wp2_with (first
    | (at_make; refine wpList_make_own _ rfl _ _ 22 rfl w.heap.size 5 i0 (.int .u8 0) 1 Try.underlying22 hi hz0 hz1 .i64 .i64 _ (l0 + l1) rfl rfl (by omega) ?_ ?_ ?_ ?_; rw [hz2]; omega; unfold maxLen; omega; exact Nat.le_refl _; intro w1 hown1 hgrow1; have HO1 := hide hown1; have HB1 := hide ((Below.refl w.heap.size w).grown hgrow1 (Nat.le_refl _) (by simp)); clear hown1 hgrow1)
    | (at_builtin; refine wpList_append_fits_any _ rfl (.tmp 12) (.tmp 13) 22 rfl w.heap.size 5 i0 1 Try.underlying22 hi hz1 w.heap.size 0 (l0 + l1) [] rfl HO1.out a0 l0 c0 (fbs.map cB) rfl ?_ HFN.out ?_ (oneB fbs) ?_ ?_; rw [List.length_map, HFL.out]; omega; (intro ad had; subst had; exact (HF.out.below HB1.out).at); omega; intro w2 hown2 hgrow2; simp only [Nat.zero_add, List.nil_append] at hown2; have HO2 := hide hown2; have HB2 := hide (HB1.out.grown hgrow2 HB1.out.size (fun j hj => by cases hj; exact Nat.le_refl _)); clear hown2 hgrow2)
    | (at_builtin; refine wpList_append_fits_any _ rfl (.tmp 15) (.tmp 16) 22 rfl w.heap.size 5 i0 1 Try.underlying22 hi hz1 w.heap.size l0 (l0 + l1) (fbs.map cB) rfl HO2.out a1 l1 c1 (ubs.map cB) rfl ?_ HUN.out ?_ (oneB ubs) ?_ ?_; rw [List.length_map, HUL.out]; omega; (intro ad had; subst had; exact (HU.out.below HB2.out).at); omega; intro w3 hown3 hgrow3; have HO3 := hide hown3; have HB3 := hide (HB2.out.grown hgrow3 HB2.out.size (fun j hj => by cases hj; exact Nat.le_refl _)); clear hown3 hgrow3))
  go_ret
  exact ⟨rfl, sb_of_own (bs := fbs ++ ubs) (by simpa using HO3.out), HB3.out⟩
end Go.Proofs.Qxb6605987a
