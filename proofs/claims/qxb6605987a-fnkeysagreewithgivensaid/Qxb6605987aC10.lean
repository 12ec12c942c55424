import Derived.Test.Qxb6605987aC9
namespace Go.Proofs.Qxb6605987a
open Go.RowKit
set_option linter.unusedVariables false
set_option linter.unusedSimpArgs false

set_option maxRecDepth 100000 in
set_option maxHeartbeats 4000000 in
theorem law5_zero (a0 : Option Addr) (l0 c0 : Nat) (a1 : Option Addr) (l1 c1 : Nat) (a2 a3 a4 : Option Addr) (c2 c3 c4 : Nat) (w : World) (fbs ubs : List UInt8)
    (h0 : l0 ≤ 262144) (h1 : l1 ≤ 262144) (hf : SB w a0 fbs) (hfl : fbs.length = l0) (hfn : a0 = none → l0 = 0) (hu : SB w a1 ubs) (hul : ubs.length = l1) (hun : a1 = none → l1 = 0) :
    Calls Try.prog 5 #[.slice a0 l0 c0, .slice a1 l1 c1, .slice a2 0 c2, .slice a3 0 c3, .slice a4 0 c4] w fun e w' => e = .returned (.bool true) ∧ Below w.heap.size w w' := by
  have hne30 := fun (w : World) (a : Option Addr) (n c n' c' : Nat) => run_neq_slice_nil_any (P := Try.prog) w 30 23 a n c n' c' Try.underlying30
  have hne31 := fun (w : World) (a : Option Addr) (n c n' c' : Nat) => run_neq_slice_nil_any (P := Try.prog) w 31 4 a n c n' c' Try.underlying31
  have HF := hide hf
  have HFL := hide hfl
  have HFN := hide hfn
  have HU := hide hu
  have HUL := hide hul
  have HUN := hide hun
  clear hf hfl hfn hu hul hun
  go_enter Try.func5, Try.ntmps5
  go_wp2_with fail
  refine (bytes17 a0 l0 c0 a1 l1 c1 a2 0 c2 a3 0 c3 a4 0 c4 w (by unfold maxLen; omega) (by unfold maxLen; omega) (by unfold maxLen; omega) (by unfold maxLen; omega) (by unfold maxLen; omega)).mono ?_
  rintro e w' ⟨⟨b, rfl⟩, hw⟩
  obtain rfl := hw.symm
  cases b
  · go_wp2_with fail
    go_ret
    exact ⟨rfl, Below.refl _ _⟩
  go_wp2_with fail
  refine (spans18_zero l0 l1 a2 a3 a4 c2 c3 c4 w).mono ?_
  rintro e w0 ⟨rfl, hw⟩
  obtain rfl := hw.symm
  have HBw : Hid (Below w.heap.size w w) := Below.refl _ _
  go_upto_if 54 with (fail)
  go_cut [2] (fun v w' => ∃ a' c', v = .slice a' 0 c' ∧ Hid (Below w.heap.size w w'))
  case first =>
    cases a2 with
    | none =>
      go_wp2
      go_meet
      case rel => exact ⟨none, _, rfl, HBw⟩
    | some x =>
      obtain ⟨i0, hi, hz0, hz1, hz2⟩ := info_parts Try.info23
      have hcp := fun (W : World) (d : Option Addr) => run_copy_none (P := Try.prog) W 30 30 3 23 d (some x) 0 0 0 c2 Try.underlying30 Try.size23 rfl
      go_wp2_with (first
        | (at_make; refine wpList_make_full _ rfl _ _ 30 rfl w.heap.size 23 i0 (.int .u32 0) 1 Try.underlying30 hi hz0 hz1 .i64 .i64 _ _ 0 rfl rfl rfl rfl ?_ ?_ ?_ ?_; omega; unfold maxLen; omega; exact HBw.out.size; intro w1 hown hgrow; have HB2 := hide (HBw.out.grown hgrow HBw.out.size (by simp)); clear hown hgrow))
      go_meet
      case rel => exact ⟨_, _, rfl, HB2⟩
  case rest =>
  obtain ⟨a2', c2', rfl, HBwA⟩ := hcut
  obtain ⟨wA, hwA⟩ : ∃ w' : World, w' = wc := ⟨_, rfl⟩
  subst hwA
  go_upto_if 63 with (fail)
  go_cut [3] (fun v w' => ∃ a' c', v = .slice a' 0 c' ∧ Hid (Below w.heap.size w w'))
  case first =>
    cases a3 with
    | none =>
      go_wp2
      go_meet
      case rel => exact ⟨none, _, rfl, HBwA⟩
    | some x =>
      obtain ⟨i0, hi, hz0, hz1, hz2⟩ := info_parts Try.info23
      have hcp := fun (W : World) (d : Option Addr) => run_copy_none (P := Try.prog) W 30 30 3 23 d (some x) 0 0 0 c3 Try.underlying30 Try.size23 rfl
      go_wp2_with (first
        | (at_make; refine wpList_make_full _ rfl _ _ 30 rfl w.heap.size 23 i0 (.int .u32 0) 1 Try.underlying30 hi hz0 hz1 .i64 .i64 _ _ 0 rfl rfl rfl rfl ?_ ?_ ?_ ?_; omega; unfold maxLen; omega; exact HBwA.out.size; intro w1 hown hgrow; have HB2 := hide (HBwA.out.grown hgrow HBwA.out.size (by simp)); clear hown hgrow))
      go_meet
      case rel => exact ⟨_, _, rfl, HB2⟩
  case rest =>
  obtain ⟨a3', c3', rfl, HBwB⟩ := hcut
  obtain ⟨wB, hwB⟩ : ∃ w' : World, w' = wc := ⟨_, rfl⟩
  subst hwB
  go_upto_if 72 with (fail)
  go_cut [4] (fun v w' => ∃ a' c', v = .slice a' 0 c' ∧ Hid (Below w.heap.size w w'))
  case first =>
    cases a4 with
    | none =>
      go_wp2
      go_meet
      case rel => exact ⟨none, _, rfl, HBwB⟩
    | some x =>
      obtain ⟨i0, hi, hz0, hz1, hz2⟩ := info_parts Try.info4
      have hcp := fun (W : World) (d : Option Addr) => run_copy_none (P := Try.prog) W 31 31 3 4 d (some x) 0 0 0 c4 Try.underlying31 Try.size4 rfl
      go_wp2_with (first
        | (at_make; refine wpList_make_full _ rfl _ _ 31 rfl w.heap.size 4 i0 (.bool false) 1 Try.underlying31 hi hz0 hz1 .i64 .i64 _ _ 0 rfl rfl rfl rfl ?_ ?_ ?_ ?_; omega; unfold maxLen; omega; exact HBwB.out.size; intro w1 hown hgrow; have HB2 := hide (HBwB.out.grown hgrow HBwB.out.size (by simp)); clear hown hgrow))
      go_meet
      case rel => exact ⟨_, _, rfl, HB2⟩
  case rest =>
  obtain ⟨a4', c4', rfl, HBwC⟩ := hcut
  obtain ⟨wC, hwC⟩ : ∃ w' : World, w' = wc := ⟨_, rfl⟩
  subst hwC
  clear HBwB HBwA HBw
  go_wp2_with fail
  refine (clone9n a0 l0 c0 fbs wC HFL.out (by omega) HFN.out (HF.out.below HBwC.out)).mono ?_
  rintro e w1 ⟨fa, fc, rfl, hs1, hb1, hl1, hm1, hfa⟩
  have HS1 := hide hs1
  have HB1 : Hid (Below w.heap.size w w1) := HBwC.out.trans (hb1.mono HBwC.out.size)
  have HFA := hide hfa
  clear hs1 hb1 hfa HBwC
  go_wp2_with fail
  refine (clone9n a1 l1 c1 ubs w1 HUL.out (by omega) HUN.out (HU.out.below HB1.out)).mono ?_
  rintro e w2 ⟨ua, uc, rfl, hs2, hb2, hl2, hm2, hua⟩
  have HT2 : Hid (Texts w2 fa l0 fc ua l1 uc fbs ubs) :=
    ⟨HS1.out.below hb2, hs2, HFL.out, HUL.out, fun h => (HFA.out h).1, fun h => (hua h).1, hl1, hm1, hl2, hm2⟩
  have HB2 : Hid (Below w.heap.size w w2) := HB1.out.trans (hb2.mono HB1.out.size)
  have HUA := hide hua
  clear hs2 hb2 hua HS1 HB1
  go_wp2_with fail
  refine (join10 fa l0 fc ua l1 uc fbs ubs w2 h0 h1 HT2.out.hf HT2.out.hfl HFA.out HT2.out.hu HT2.out.hul HUA.out).mono ?_
  rintro e w3 ⟨rfl, hs3, hb3⟩
  have HT3 := hide (HT2.out.below hb3)
  have HB3 : Hid (Below w.heap.size w w3) := HB2.out.trans (hb3.mono HB2.out.size)
  clear hs3 hb3 HT2 HB2 HFA HUA
  go_wp2_with fail
  refine wp_loop_rounds 1 ?_
  rw [rounds_succ]
  go_wp2_with fail
  refine (table11_zero _ _ _ _ _ _ fa ua l0 fc l1 uc (fun _ => (0, 0, true)) w3).mono ?_
  rintro e w4 ⟨T, rfl, hTab, hMade, hb4, eK, efs, efa, efl, efc, eua, eul, euc⟩
  have HT5 : Hid (Texts w4 T.fa T.fl T.fc T.ua T.ul T.uc fbs ubs) := by
    show Texts w4 T.fa T.fl T.fc T.ua T.ul T.uc fbs ubs
    rw [efa, efl, efc, eua, eul, euc]; exact HT3.out.below hb4
  have HFt : Hid (Fits T) := by
    intro i hi
    rw [eK] at hi
    exact absurd hi (Nat.not_lt_zero i)
  have HUn : Hid (untaken T fbs ubs T.K = []) := by
    show untaken T fbs ubs T.K = _
    rw [eK]; rfl
  have HTab := hide hTab
  have HB4 := hide (HB3.out.trans (hb4.mono HB3.out.size))
  clear hTab hMade hb4 eK efs efa efl efc eua eul euc HT3 HB3
  go_wp2_with fail
  refine (keys19 T fbs ubs w4 HTab.out HFt.out HT5.out).mono ?_
  rintro e w5 ⟨v, rfl, hb5, hg5⟩
  rw [HUn.out] at hg5
  have HB5 := hide (HB4.out.trans (hb5.mono HB4.out.size))
  obtain ⟨ga, gc, rfl, _⟩ := own_shape hg5
  clear hb5 hg5 HUn HTab HB4 HT5 HFt
  go_wp2_with fail
  refine wp_loop_rounds 1 ?_
  rw [rounds_succ]
  go_wp2_with fail
  refine (mergeSort20_zero none 0 w5).mono ?_
  rintro e w6 ⟨g, rfl, hb6, _⟩
  have HB6 := hide (HB5.out.trans (hb6.mono HB5.out.size))
  clear hb6
  go_wp2_with fail
  refine wp_loop_rounds 1 ?_
  rw [rounds_succ]
  go_wp2
  go_ret
  exact ⟨rfl, HB6.out⟩
end Go.Proofs.Qxb6605987a
