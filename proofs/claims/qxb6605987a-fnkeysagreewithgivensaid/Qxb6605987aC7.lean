import Derived.Test.Qxb6605987aC6
namespace Go.Proofs.Qxb6605987a
open Go.RowKit
set_option linter.unusedVariables false
set_option linter.unusedSimpArgs false

set_option maxRecDepth 100000 in
theorem mergeSort20_zero (a : Option Addr) (c : Nat) (w : World) :
    Calls Try.prog 20 #[.slice a 0 c] w fun e w' => ∃ g, e = .returned (.slice (some ⟨g, 0, none⟩) 0 0) ∧ Below w.heap.size w w' ∧ w'.ownsRow w.heap.size 9 1 (.slice (some ⟨g, 0, none⟩) 0 0) 0 [] := by
  obtain ⟨i0, hi, hz0, hz1, hz2⟩ := info_parts Try.info9
  have hcp := fun (W : World) (d : Option Addr) => run_copy_none (P := Try.prog) W 39 39 3 9 d a 0 0 0 c Try.underlying39 Try.size9 rfl
  have tok1 : True := trivial
  go_enter Try.func20, Try.ntmps20
  go_wp2_with (first
    | (at_make; have _t := tok1; refine wpList_make_full _ rfl _ _ 39 rfl w.heap.size 9 i0 (.string ByteArray.empty) 1 Try.underlying39 hi hz0 hz1 .i64 .i64 _ _ 0 rfl rfl rfl rfl ?_ ?_ ?_ ?_; omega; unfold maxLen; omega; exact Nat.le_refl _; intro w1 hown hgrow; have HB1 : Hid (Below w.heap.size w w1) := (Below.refl _ _).grown hgrow (Nat.le_refl _) (by simp); have HO1 := hide hown; clear hown hgrow tok1)
    | (at_make; refine wpList_make_full _ rfl _ _ 39 rfl w.heap.size 9 i0 (.string ByteArray.empty) 1 Try.underlying39 hi hz0 hz1 .i64 .i64 _ _ 0 rfl rfl rfl rfl ?_ ?_ ?_ ?_; omega; unfold maxLen; omega; exact HB1.out.size; intro w3 hown3 hgrow3; have HB3 := hide (HB1.out.grown hgrow3 HB1.out.size (by simp)); have HO4 := hide (HO1.out.kept hgrow3 (.inr (by simp [Value.ownBlock]))); clear hown3 hgrow3))
  refine wp_loop_rounds 1 ?_
  rw [rounds_succ]
  go_wp2
  go_ret
  refine ⟨_, rfl, HB3.out, ?_⟩
  have := HO4.out
  exact ⟨by simp, this.2.imp_right fun ⟨g, cap, cur, h1, h2, h3, h4, h5, h6, h7⟩ => ⟨g, cap, cur, h1, h2, h3, h4, h5, h6, by simp⟩⟩

/-- zzMergeSort at every length. -/
theorem mergeSort20 (a : Option Addr) (n c : Nat) (aL : List (List UInt8)) (w : World) (hn : aL.length = n) (hm : n ≤ 4096) (hs : SC w a (aL.map encStr)) :
    Calls Try.prog 20 #[.slice a n c] w fun e w' => ∃ g, e = .returned (.slice (some ⟨g, 0, none⟩) n n) ∧ Below w.heap.size w w' ∧ w'.ownsRow w.heap.size 9 1 (.slice (some ⟨g, 0, none⟩) n n) n ((aL.mergeSort Plain.le).map encStr) := by
  rcases Nat.eq_zero_or_pos n with h0 | h0
  · subst h0
    obtain rfl : aL = [] := List.eq_nil_of_length_eq_zero hn
    simpa using mergeSort20_zero a c w
  · cases a with
    | none =>
      rcases hs with hs | ⟨_, _, e, _⟩
      · simp at hs; subst hs; simp at hn; omega
      · cases e
    | some x => exact mergeSort20_pos x n c aL w hn hm hs
end Go.Proofs.Qxb6605987a
