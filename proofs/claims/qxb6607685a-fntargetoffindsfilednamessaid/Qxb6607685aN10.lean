import Derived.Test.Qxb6607685aN9
namespace Go.Proofs.Qxb6607685a
open Go.RowKit Go.Maps Go.WideMaps
set_option linter.unusedVariables false
set_option linter.unusedSimpArgs false

set_option maxRecDepth 100000 in
set_option maxHeartbeats 4000000 in
theorem law6 (a : Option Addr) (l c : Nat) (A : List (List UInt8)) (a2 : Option Addr) (l2 c2 : Nat) (R : List (List UInt8)) (x y : List UInt8) (w : World) (hl : A.length = l) (hm : l ≤ maxLen) (hs : SN w a A) (hk : ∀ x ∈ A, x.length ≤ maxLen)
    (hl2 : R.length = l2) (hm2 : l2 ≤ maxLen) (hs2 : SN w a2 R) (hk2 : ∀ x ∈ R, x.length ≤ maxLen) (hx : x.length ≤ maxLen) (hy : y.length ≤ maxLen) :
    Calls Try.prog 6 #[.slice a l c, .slice a2 l2 c2, .string ⟨x.toArray⟩, .string ⟨y.toArray⟩] w fun e w' => e = .returned (.bool true) ∧ Below w.heap.size w w' := by
  have HL := hide hl
  have HM := hide hm
  have HS := hide hs
  have HK := hide hk
  have HL2 := hide hl2
  have HM2 := hide hm2
  have HS2 := hide hs2
  have HK2 := hide hk2
  have HX := hide hx
  have HY := hide hy
  clear hl hs hk hm hl2 hs2 hk2 hm2 hx hy
  have HC21 := hide (bytes21 a l c A a2 l2 c2 R x y w HL.out HM.out HS.out HK.out HL2.out HM2.out HS2.out HK2.out HX.out HY.out)
  have hx63 : x.length ≤ 9223372036854775807 := by have := HX.out; unfold maxLen at this; omega
  have hy63 : y.length ≤ 9223372036854775807 := by have := HY.out; unfold maxLen at this; omega
  by_cases hb1 : 4096 < l
  · have hd : decide ((4096 : Int) < (l : Int)) = true := by simp; omega
    go_enter Try.func6, Try.ntmps6
    go_wp2_with fail
    refine HC21.out.mono ?_
    rintro e w' ⟨⟨b, rfl⟩, hw⟩
    obtain rfl := hw.symm
    cases b <;> go_wp2_with fail
    all_goals
      go_ret
      exact ⟨rfl, Below.refl _ _⟩
  have hd : decide ((4096 : Int) < (l : Int)) = false := by simp; omega
  by_cases hb2 : 4096 < l2
  · have hd2 : decide ((4096 : Int) < (l2 : Int)) = true := by simp; omega
    go_enter Try.func6, Try.ntmps6
    go_wp2_with fail
    refine HC21.out.mono ?_
    rintro e w' ⟨⟨b, rfl⟩, hw⟩
    obtain rfl := hw.symm
    cases b <;> go_wp2_with fail
    all_goals
      go_ret
      exact ⟨rfl, Below.refl _ _⟩
  have hd2 : decide ((4096 : Int) < (l2 : Int)) = false := by simp; omega
  by_cases hb3 : 1048576 < x.length
  · have hd3 : decide ((1048576 : Int) < (x.length : Int)) = true := by simp; omega
    go_enter Try.func6, Try.ntmps6
    go_wp2_with fail
    refine HC21.out.mono ?_
    rintro e w' ⟨⟨b, rfl⟩, hw⟩
    obtain rfl := hw.symm
    cases b <;> go_wp2_with fail
    all_goals
      go_ret
      exact ⟨rfl, Below.refl _ _⟩
  have hd3 : decide ((1048576 : Int) < (x.length : Int)) = false := by simp; omega
  by_cases hb4 : 1048576 < y.length
  · have hd4 : decide ((1048576 : Int) < (y.length : Int)) = true := by simp; omega
    go_enter Try.func6, Try.ntmps6
    go_wp2_with fail
    refine HC21.out.mono ?_
    rintro e w' ⟨⟨b, rfl⟩, hw⟩
    obtain rfl := hw.symm
    cases b <;> go_wp2_with fail
    all_goals
      go_ret
      exact ⟨rfl, Below.refl _ _⟩
  have hd4 : decide ((1048576 : Int) < (y.length : Int)) = false := by simp; omega
  go_enter Try.func6, Try.ntmps6
  go_wp2_with fail
  refine HC21.out.mono ?_
  rintro e w' ⟨⟨b, rfl⟩, hw⟩
  obtain rfl := hw.symm
  clear HC21
  cases b
  · go_wp2_with fail
    go_ret
    exact ⟨rfl, Below.refl _ _⟩
  go_wp2_with fail
  refine (names22 a l c A w HL.out (by omega) HS.out HK.out).mono ?_
  rintro e w' ⟨⟨t, ht, rfl⟩, hw⟩
  obtain rfl := hw.symm
  go_wp2_with fail
  refine (names22 a2 l2 c2 R w HL2.out (by omega) HS2.out HK2.out).mono ?_
  rintro e w' ⟨⟨t2, ht2, rfl⟩, hw⟩
  obtain rfl := hw.symm
  by_cases htb : 1048576 < t + t2 + x.length + y.length
  · have hd5 : decide ((1048576 : Int) < (t : Int) + (t2 : Int) + (x.length : Int) + (y.length : Int)) = true := by simp; omega
    go_wp2_with fail
    go_ret
    exact ⟨rfl, Below.refl _ _⟩
  have hd5 : decide ((1048576 : Int) < (t : Int) + (t2 : Int) + (x.length : Int) + (y.length : Int)) = false := by simp; omega
  go_wp2_with fail
  refine (fileAll23 a l c A w HL.out (by omega) HS.out HK.out).mono ?_
  rintro e w1 ⟨ma, ga, rfl, hmA, hnA, hbw1, _, _, _⟩
  have HMA := hide hmA
  have HB1 := hide hbw1
  clear hmA hnA hbw1 ht ht2 htb hd5
  go_wp2_with fail
  refine (fileAll23 a2 l2 c2 R w1 HL2.out (by omega) (HS2.out.below HB1.out) HK2.out).mono ?_
  rintro e w2 ⟨mr, gr, rfl, hmR, hnR, hbw2, _, _, _⟩
  have HMA2 := hide (HMA.out.below hbw2)
  have HB2 := hide (HB1.out.trans (hbw2.mono HB1.out.size))
  have HMR := hide hmR
  clear hmR hnR hbw2 HMA HB1
  go_wp2_with fail
  refine (newService24 ma mr w2).mono ?_
  rintro e w3 ⟨sb, rfl, hsb, hc3, hc4, hbw3⟩
  have HSv : Hid (Svc w3 sb ma mr A R) := by
    refine ⟨hsb, hc3, hc4, ?_, ?_⟩
    · rw [HL.out]; exact HMA2.out.below hbw3
    · rw [HL2.out]; exact HMR.out.below hbw3
  have HB3 := hide (HB2.out.trans (hbw3.mono HB2.out.size))
  clear hsb hc3 hc4 hbw3 HMA2 HMR HB2
  obtain ⟨q, hq⟩ : ∃ q, numOf (filed A l) x = q := ⟨_, rfl⟩
  obtain ⟨r, hr⟩ : ∃ r, numOf (filed R l2) y = r := ⟨_, rfl⟩
  obtain ⟨ba, hba⟩ : ∃ b, (filed A l).contains x = b := ⟨_, rfl⟩
  obtain ⟨br, hbr⟩ : ∃ b, (filed R l2).contains y = b := ⟨_, rfl⟩
  obtain ⟨rr, hrr⟩ : ∃ rr, (if ba then r else 0) = rr := ⟨_, rfl⟩
  obtain ⟨bb, hbb⟩ : ∃ bb, (ba && br) = bb := ⟨_, rfl⟩
  have HC := hide (svc_ask HSv.out x y HX.out HY.out q rr bb (by rw [HL.out]; exact hq) (by rw [HL.out, HL2.out, hba, hr]; exact hrr) (by rw [HL.out, HL2.out, hba, hbr]; exact hbb))
  have HRR := hide hrr
  have HBB := hide hbb
  clear hrr hbb
  have HQ := hide hq
  have HR := hide hr
  have HBA := hide hba
  have HBR := hide hbr
  clear hq hr hba hbr HSv
  have hq0 : ba = false → q = 0 := fun e => by rw [← HQ.out]; unfold numOf; rw [HBA.out, e]; rfl
  have hr0 : br = false → r = 0 := fun e => by rw [← HR.out]; unfold numOf; rw [HBR.out, e]; rfl
  have HQ0 := hide hq0
  have HR0 := hide hr0
  clear hq0 hr0
  go_wp2_with fail
  refine HC.out.mono ?_
  rintro e w4 ⟨rfl, hb4⟩
  have HB4 := hide (HB3.out.trans (hb4.mono HB3.out.size))
  clear hb4 HB3 HC
  go_wp2_with fail
  refine (first26 a l c A w4 HL.out (by omega) (HS.out.below HB4.out)).mono ?_
  rintro e w5 ⟨na, rfl, hnA, hb5⟩
  have HNA := hide hnA
  have HB5 := hide (HB4.out.trans (hb5.mono HB4.out.size))
  clear hnA hb5 HB4
  have hLk := filed_len A l
  go_wp2_with fail
  refine (first26 a2 l2 c2 R w5 HL2.out (by omega) (HS2.out.below HB5.out)).mono ?_
  rintro e w6 ⟨nr, rfl, hnR, hb6⟩
  have HNA6 := hide (HNA.out.below hb6)
  have HNR := hide hnR
  have HB6 := hide (HB5.out.trans (hb6.mono HB5.out.size))
  clear hnR hb6 HB5 HNA
  go_wp2_with fail
  refine (model27 a l c A na x w6 HL.out (by omega) (HS.out.below HB6.out) HNA6.out).mono ?_
  rintro e w' ⟨rfl, hw⟩
  obtain rfl := hw.symm
  rw [HQ.out, HBA.out]
  go_wp2_with fail
  refine (model27 a2 l2 c2 R nr y w6 HL2.out (by omega) (HS2.out.below HB6.out) HNR.out).mono ?_
  rintro e w' ⟨rfl, hw⟩
  obtain rfl := hw.symm
  rw [HR.out, HBR.out]
  have hrr := HRR.out
  have hbb := HBB.out
  clear HRR HBB
  cases ba
  · have hq := HQ0.out rfl
    obtain rfl : rr = 0 := by simpa using hrr.symm
    obtain rfl : bb = false := by simpa using hbb.symm
    clear hrr hbb
    subst hq
    cases br
    · go_wp2
      go_ret
      exact ⟨by simp, HB6.out⟩
    · go_wp2
      go_ret
      exact ⟨by simp, HB6.out⟩
  · obtain rfl : rr = r := by simpa using hrr.symm
    obtain rfl : bb = br := by simpa using hbb.symm
    clear hrr hbb
    cases bb
    · have hr := HR0.out rfl
      subst hr
      go_wp2
      go_ret
      exact ⟨by simp, HB6.out⟩
    · go_wp2
      go_ret
      exact ⟨by simp, HB6.out⟩
end Go.Proofs.Qxb6607685a
