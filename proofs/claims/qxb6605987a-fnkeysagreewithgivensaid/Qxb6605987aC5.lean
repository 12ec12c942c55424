import Derived.Test.Qxb6605987aC4
namespace Go.Proofs.Qxb6605987a
open Go.RowKit
set_option linter.unusedVariables false
set_option linter.unusedSimpArgs false

set_option maxRecDepth 100000 in
set_option maxHeartbeats 400000 in
theorem table11_zero (a2 a3 a4 : Option Addr) (c2 c3 c4 : Nat) (fa ua : Option Addr) (fl fc ul uc : Nat) (fs : Nat → Nat × Nat × Bool) (w : World) :
    Calls Try.prog 11 #[.slice fa fl fc, .slice ua ul uc, .slice a2 0 c2, .slice a3 0 c3, .slice a4 0 c4] w
      fun e w' => ∃ T : TabD, e = .returned (.pointer (some ⟨T.tb, 0, none⟩)) ∧ Tab w' T ∧ Made w w' T ∧ Below w.heap.size w w' ∧ T.K = 0 ∧ T.fs = fs ∧ T.fa = fa ∧ T.fl = fl ∧ T.fc = fc ∧ T.ua = ua ∧ T.ul = ul ∧ T.uc = uc := by
  obtain ⟨i0, hi, hz0, hz1, hz2⟩ := info_parts Try.info50
  go_enter Try.func11, Try.ntmps11
  go_wp2_with (first
    | (at_make; refine wpList_make_full _ rfl _ _ 44 rfl w.heap.size 50 i0 zeroF 8 Try.underlying44 hi hz0 hz1 .i64 .i64 _ _ 0 rfl rfl rfl rfl ?_ ?_ ?_ ?_; omega; unfold maxLen; omega; exact Nat.le_refl _; intro w1 hown hgrow; have hb1 : Below w.heap.size w w1 := (Below.refl _ _).grown hgrow (Nat.le_refl _) (by simp); have HF : Hid (Filled w1 w.heap.size w.heap.size 0 0 fs) := ⟨_, hown, fun i hi => absurd hi (Nat.not_lt_zero i)⟩; clear hown hgrow))
  refine wp_loop_rounds 1 ?_
  rw [rounds_succ]
  obtain ⟨j0, hj, hy0, hy1, hy2⟩ := info_parts Try.info44
  go_wp2_with (first
    | (at_make; refine wpList_make_full _ rfl _ _ 51 rfl w1.heap.size 44 j0 (.slice none 0 0) 1 Try.underlying51 hj hy0 hy1 .i64 .i64 _ _ 128 rfl rfl rfl rfl ?_ ?_ ?_ ?_; rw [hy2]; omega; unfold maxLen; omega; exact Nat.le_refl _; intro w2 hown2 hgrow2; obtain ⟨v1, hq⟩ := own_cell hown2 1 (by omega); have hfz := hown2.frozenAt 1; have HO2 := hide hown2; have HG2 := hide hgrow2; clear hown2 hgrow2))
  obtain ⟨T, hTb, hT⟩ := tab_built w w1 w2 0 fs fa ua fl fc ul uc _ (by omega) hb1 HF.out HO2.out HG2.out
  go_ret
  exact ⟨T, by rw [hTb]; rfl, hT _ rfl⟩

/-- ZZtable at every length. -/
theorem table11 (a2 a3 a4 : Option Addr) (c2 c3 c4 : Nat) (fa ua : Option Addr) (fl fc ul uc K : Nat) (fs : Nat → Nat × Nat × Bool) (w : World) (hK : K ≤ 4096) (hL : Lists w a2 a3 a4 K fs) :
    Calls Try.prog 11 #[.slice fa fl fc, .slice ua ul uc, .slice a2 K c2, .slice a3 K c3, .slice a4 K c4] w
      fun e w' => ∃ T : TabD, e = .returned (.pointer (some ⟨T.tb, 0, none⟩)) ∧ Tab w' T ∧ Made w w' T ∧ Below w.heap.size w w' ∧ T.K = K ∧ T.fs = fs ∧ T.fa = fa ∧ T.fl = fl ∧ T.fc = fc ∧ T.ua = ua ∧ T.ul = ul ∧ T.uc = uc := by
  rcases Nat.eq_zero_or_pos K with h0 | h0
  · subst h0
    exact table11_zero a2 a3 a4 c2 c3 c4 fa ua fl fc ul uc fs w
  · rcases id hL.h2 with e | ⟨b2, o2, rfl, _⟩
    · simp at e; omega
    rcases id hL.h3 with e | ⟨b3, o3, rfl, _⟩
    · simp at e; omega
    rcases id hL.h4 with e | ⟨b4, o4, rfl, _⟩
    · simp at e; omega
    exact table11_pos b2 o2 c2 b3 o3 c3 b4 o4 c4 fa ua fl fc ul uc K fs w hK h0 hL

/-- zzSpansFit at every length. -/
theorem spans18 (lf lu : Nat) (a2 a3 a4 : Option Addr) (l2 c2 l3 c3 l4 c4 : Nat) (fs : Nat → Nat × Nat × Bool) (w : World) (hlf : lf ≤ 1048576) (hlu : lu ≤ 1048576) (h2 : l2 ≤ 4096) (h3 : l3 ≤ 4096) (h4 : l4 ≤ 4096)
    (hL2 : l3 = l2 → SC w a2 ((List.range l2).map fun i => .int .u32 (fs i).1)) (hL3 : l3 = l2 → SC w a3 ((List.range l2).map fun i => .int .u32 (fs i).2.1)) (hbd : ∀ i, i < l2 → (fs i).1 < 4294967296 ∧ (fs i).2.1 < 4294967296) :
    Calls Try.prog 18 #[.int .i64 lf, .int .i64 lu, .slice a2 l2 c2, .slice a3 l3 c3, .slice a4 l4 c4] w fun e w' => ∃ b : Bool, e = .returned (.bool b) ∧ (∃ n, w' = w.drewN n) ∧ (b = true → l3 = l2 ∧ l4 = l2 ∧ ∀ i, i < l2 → spanOk lf lu (fs i).1 (fs i).2.1 = true) := by
  by_cases e3 : l3 = l2
  · by_cases e4 : l4 = l2
    · subst e3; subst e4
      rcases Nat.eq_zero_or_pos l4 with h0 | h0
      · subst h0
        refine (spans18_zero lf lu a2 a3 a4 c2 c3 c4 w).mono ?_
        rintro e w' ⟨rfl, rfl⟩
        exact ⟨true, rfl, ⟨0, rfl⟩, fun _ => ⟨rfl, rfl, fun i hi => absurd hi (Nat.not_lt_zero i)⟩⟩
      · have hL2 := hL2 rfl
        have hL3 := hL3 rfl
        rcases id hL2 with e | ⟨b2, o2, rfl, _⟩
        · simp at e; omega
        rcases id hL3 with e | ⟨b3, o3, rfl, _⟩
        · simp at e; omega
        refine (spans18_pos lf lu b2 o2 c2 b3 o3 c3 a4 c4 l4 fs w hlf hlu h2 h0 hL2 hL3 hbd).mono ?_
        rintro e w' ⟨b, rfl, hw, hb⟩
        exact ⟨b, rfl, hw, fun h => ⟨rfl, rfl, hb h⟩⟩
    · subst e3
      refine (spans18_ne2 lf lu a2 a3 a4 l3 c2 c3 l4 c4 w h2 h4 e4).mono ?_
      rintro e w' ⟨rfl, rfl⟩
      exact ⟨false, rfl, ⟨0, rfl⟩, fun h => by cases h⟩
  · refine (spans18_ne1 lf lu a2 a3 a4 l2 c2 l3 c3 l4 c4 w h2 h3 h4 e3).mono ?_
    rintro e w' ⟨rfl, rfl⟩
    exact ⟨false, rfl, ⟨0, rfl⟩, fun h => by cases h⟩
end Go.Proofs.Qxb6605987a
