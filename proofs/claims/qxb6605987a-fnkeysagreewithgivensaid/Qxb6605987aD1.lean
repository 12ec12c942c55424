import Derived.Test.Qxb6605987aC10
namespace Go.Proofs.Qxb6605987a
open Go.RowKit
set_option linter.unusedVariables false
set_option linter.unusedSimpArgs false

/-- The keys of the first K fields. -/
def keysF (fs : Nat → Nat × Nat × Bool) (fbs ubs : List UInt8) (K : Nat) : List (List UInt8) := (List.range K).map fun i => keyB fbs ubs (fs i).1 (fs i).2.1

theorem keysF_len (fs : Nat → Nat × Nat × Bool) (fbs ubs : List UInt8) (K : Nat) : (keysF fs fbs ubs K).length = K := by simp [keysF]
theorem keysF_get (fs : Nat → Nat × Nat × Bool) (fbs ubs : List UInt8) (K i : Nat) (h : i < (keysF fs fbs ubs K).length) : (keysF fs fbs ubs K)[i] = keyB fbs ubs (fs i).1 (fs i).2.1 := by simp [keysF]
theorem keysF_succ (fs : Nat → Nat × Nat × Bool) (fbs ubs : List UInt8) (K : Nat) : keysF fs fbs ubs (K + 1) = keysF fs fbs ubs K ++ [keyB fbs ubs (fs K).1 (fs K).2.1] := by simp [keysF, List.range_succ]

/-- A sorted list without equal neighbours bears nothing twice. -/
theorem nodup_of_adj (ks : List (List UInt8)) (h : ∀ j (hj : j + 1 < (ks.mergeSort Plain.le).length), (ks.mergeSort Plain.le)[j + 1] ≠ (ks.mergeSort Plain.le)[j]) : ks.Nodup := by
  have hs := List.pairwise_mergeSort Plain.le_trans Plain.le_total ks
  have hp := List.mergeSort_perm ks Plain.le
  refine (hp.nodup_iff).1 ?_
  rw [List.nodup_iff_pairwise_ne, List.pairwise_iff_getElem]
  intro i j hi hj hij e
  have g := List.pairwise_iff_getElem.1 hs
  have h1 : Plain.le (ks.mergeSort Plain.le)[i] (ks.mergeSort Plain.le)[i + 1] = true := g i (i + 1) hi (by omega) (by omega)
  have h2 : Plain.le (ks.mergeSort Plain.le)[i + 1] (ks.mergeSort Plain.le)[i] = true := by
    rcases Nat.lt_or_ge (i + 1) j with hlt | hge
    · rw [e]; exact g (i + 1) j (by omega) hj hlt
    · have : i + 1 = j := by omega
      subst this
      rw [e]
      have := Plain.le_total (ks.mergeSort Plain.le)[i + 1] (ks.mergeSort Plain.le)[i + 1]
      simpa using this
  exact h i (by omega) (Plain.le_antisymm _ _ h2 h1)

set_option maxRecDepth 100000 in
set_option maxHeartbeats 2000000 in
theorem distinct22 (tb lt : Nat) (gA cA gB cB' K : Nat) (fs : Nat → Nat × Nat × Bool) (fbs ubs : List UInt8) (w : World) (hK : K ≤ 4096) (hK0 : 0 < K) (hlt : lt ≤ 1048576) (hx : SB w (some ⟨tb, 0, none⟩) (fbs ++ ubs)) (hxl : (fbs ++ ubs).length = lt)
    (h2 : SC w (some ⟨gA, 0, none⟩) (c2L K fs)) (h3 : SC w (some ⟨gB, 0, none⟩) (c3L K fs)) (hfit : ∀ i, i < K → (fs i).1 + (fs i).2.1 ≤ lt) :
    Calls Try.prog 22 #[.slice (some ⟨tb, 0, none⟩) lt lt, .slice (some ⟨gA, 0, none⟩) K cA, .slice (some ⟨gB, 0, none⟩) K cB'] w fun e w' => ∃ b : Bool, e = .returned (.bool b) ∧ Below w.heap.size w w' ∧ (b = true → (keysF fs fbs ubs K).Nodup) := by
  obtain ⟨i0, hi, hz0, hz1, hz2⟩ := info_parts Try.info9
  have HX := hide hx
  have HXL := hide hxl
  have H2 := hide h2
  have H3 := hide h3
  have HFit := hide hfit
  clear hx hxl h2 h3 hfit
  go_enter Try.func22, Try.ntmps22
  go_wp2_with (first
    | (at_make; refine wpList_make_full _ rfl _ _ 39 rfl w.heap.size 9 i0 (.string ByteArray.empty) 1 Try.underlying39 hi hz0 hz1 .i64 .i64 _ _ K rfl rfl rfl rfl ?_ ?_ ?_ ?_; rw [hz2]; omega; unfold maxLen; omega; exact Nat.le_refl _; intro w1 hown hgrow; have HB1 : Hid (Below w.heap.size w w1) := (Below.refl _ _).grown hgrow (Nat.le_refl _) (by simp); have HO1 := hide hown; clear hown hgrow))
  go_loopw [8] (fun i wr => ∃ (k : Nat) (D : List Value), k ≤ K ∧ i = .int .i64 k ∧ Hid (Below w.heap.size w wr) ∧ Hid (wr.ownsRow w.heap.size 9 1 (.slice (some ⟨w.heap.size, 0, none⟩) K K) K D) ∧ Hid (Laid D (keysF fs fbs ubs k) k)) (fun i _ => K - (intOf i).toNat)
  case atStart => exact ⟨0, _, Nat.zero_le _, rfl, HB1, HO1, ⟨by simp [keysF], by simp [keysF]⟩⟩
  case round =>
    clear HB1 HO1
    obtain ⟨k, D, hk, rfl, hnx, hown, hla⟩ := hrel
    by_cases hlk : k < K
    · have g2 : wr.cell? ⟨gA, k, none⟩ = some (.int .u32 (fs k).1) := by have := (H2.out.below hnx.out).cell k (by simpa [c2L] using hlk); simpa [c2L] using this
      have g3 : wr.cell? ⟨gB, k, none⟩ = some (.int .u32 (fs k).2.1) := by have := (H3.out.below hnx.out).cell k (by simpa [c3L] using hlk); simpa [c3L] using this
      have HTr := hide (HX.out.below hnx.out)
      obtain ⟨vd, hcd⟩ := own_cell hown.out k (by omega)
      have hfd := hown.out.frozenAt k
      obtain ⟨x, hxe⟩ : ∃ x, (fs k).1 = x := ⟨_, rfl⟩
      obtain ⟨y, hye⟩ : ∃ y, (fs k).2.1 = y := ⟨_, rfl⟩
      have hxy := HFit.out k hlk
      rw [hxe] at g2 hxy
      rw [hye] at g3 hxy
      have HXY := hide hxy
      have HXe := hide hxe
      have HYe := hide hye
      clear hxe hye hxy
      go_wp2
      go_region_law (first
        | (refine step_call rfl 14 #[.slice (some ⟨tb, 0, none⟩) lt lt, .int .u32 x, .int .u32 y] (by go_simp) ?_; refine (keyAt14 x y lt lt (some ⟨tb, 0, none⟩) (fbs ++ ubs) wr.drew (Nat.le_refl _) (by omega) HXY.out HXL.out (HTr.out.below (Below.refl _ _).drew)).mono ?_; rintro e w' ⟨a', c', ⟨rfl, hw⟩, hss, hnn⟩; obtain rfl := hw.symm; obtain ⟨kk, hkk⟩ : ∃ kk, keyB fbs ubs x y = kk := ⟨_, rfl⟩; have hcv := conv_str wr.drew a' y c' kk (by rw [← hkk]; exact keyB_len _ _ _ _ (by rw [← List.length_append, HXL.out]; exact HXY.out)) hnn (by rw [← hkk]; exact hss); have HKK := hide hkk; clear hkk hss hnn; refine ⟨_, rfl, ?_⟩))
      all_goals
        go_wp2
        go_roundw
        case rel =>
          have hlD : k < D.length := by have := hown.out.1; omega
          obtain ⟨o1, o2⟩ := hown.out.stored k (.string ⟨kk.toArray⟩)
          refine ⟨k + 1, D.set k (.string ⟨kk.toArray⟩), by omega, by go_num, (hnx.out.setCell (by exact Nat.le_refl _) _).drew, o1.drew, ?_⟩
          rw [keysF_succ, HXe.out, HYe.out, HKK.out]
          exact hla.out.snoc kk hlD
        case measure => simp [intOf]; omega
    · obtain rfl : k = K := by omega
      have HSC : Hid (SC wr (some ⟨w.heap.size, 0, none⟩) ((keysF fs fbs ubs k).map encStr)) := by
        obtain ⟨a, c, e, h⟩ := own_shape hown.out
        cases e
        have h1 := hla.out.1
        rw [List.take_of_length_le (by have := hown.out.1; omega)] at h1
        rw [← h1]; exact h
      clear hown hla
      go_wp2_with fail
      refine (mergeSort20 (some ⟨w.heap.size, 0, none⟩) k k (keysF fs fbs ubs k) wr (keysF_len _ _ _ _) hK HSC.out).mono ?_
      rintro e w2 ⟨g, rfl, hb2, ho2⟩
      have HB2 := hide (hnx.out.trans (hb2.mono hnx.out.size))
      obtain ⟨gl, hgl⟩ : ∃ gl, (keysF fs fbs ubs k).mergeSort Plain.le = gl := ⟨_, rfl⟩
      rw [hgl] at ho2
      have HGLn : Hid (gl.length = k) := by show gl.length = k; rw [← hgl, List.length_mergeSort, keysF_len]
      have HSG : Hid (SC w2 (some ⟨g, 0, none⟩) (gl.map encStr)) := by obtain ⟨a, c, e, h⟩ := own_shape ho2; cases e; exact h
      have HAdj : Hid ((∀ j (hj : j + 1 < gl.length), gl[j + 1] ≠ gl[j]) → (keysF fs fbs ubs k).Nodup) := by subst hgl; exact nodup_of_adj _
      clear hb2 ho2 hgl HSC hnx
      go_wp2_with fail
      go_loopw [10] (fun i wr => ∃ j : Nat, 1 ≤ j ∧ j ≤ k ∧ i = .int .i64 j ∧ Hid (Below w2.heap.size w2 wr) ∧ Hid (∀ q (hq : q + 1 < gl.length), q + 1 < j → gl[q + 1] ≠ gl[q])) (fun i _ => k - (intOf i).toNat)
      case atStart => exact ⟨1, by omega, by omega, rfl, Below.refl _ _, fun q hq h => by omega⟩
      case round =>
        obtain ⟨j, hj1, hjn, rfl, hb6, hall⟩ := hrel
        by_cases hlt2 : j < k
        · have HS6 := hide (HSG.out.below hb6.out)
          obtain ⟨j', rfl⟩ : ∃ j', j = j' + 1 := ⟨j - 1, by omega⟩
          have hjl : j' + 1 < gl.length := by have := HGLn.out; omega
          have q1 := HS6.out.strs (j' + 1) hjl
          have q2 := HS6.out.strs j' (by omega)
          simp only [Nat.zero_add] at q1 q2
          obtain ⟨x1, hx1⟩ : ∃ x1, gl[j' + 1] = x1 := ⟨_, rfl⟩
          obtain ⟨x2, hx2⟩ : ∃ x2, gl[j'] = x2 := ⟨_, rfl⟩
          rw [hx1] at q1
          rw [hx2] at q2
          have HX1 := hide hx1
          have HX2 := hide hx2
          clear hx1 hx2
          cases heq : (x1 == x2)
          · have HEQ := hide heq
            go_wp2
            go_quiet (fail)
            go_wp2
            go_roundw
            case rel =>
              refine ⟨j' + 1 + 1, by omega, by omega, by go_num, below_drewN hb6.out _, fun q hq h => ?_⟩
              by_cases hqj : q = j'
              · subst hqj
                rw [HX1.out, HX2.out]
                exact beq_eq_false_iff_ne.1 HEQ.out
              · exact hall.out q hq (by omega)
            case measure => simp [intOf]; omega
          · go_wp2
            go_quiet (fail)
            go_wp2
            go_ret
            exact ⟨false, rfl, below_drewN (HB2.out.trans (hb6.out.mono HB2.out.size)) _, fun h => by cases h⟩
        · obtain rfl : j = k := by omega
          go_wp2
          go_ret
          exact ⟨true, rfl, HB2.out.trans (hb6.out.mono HB2.out.size), fun _ => HAdj.out fun q hq => hall.out q hq (by have := HGLn.out; omega)⟩
end Go.Proofs.Qxb6605987a
