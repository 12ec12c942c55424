import Derived.Test.Qxb6605987aC8
namespace Go.Proofs.Qxb6605987a
open Go.RowKit
set_option linter.unusedVariables false
set_option linter.unusedSimpArgs false

def c2L (K : Nat) (fs : Nat → Nat × Nat × Bool) : List Value := (List.range K).map fun i => .int .u32 (fs i).1
def c3L (K : Nat) (fs : Nat → Nat × Nat × Bool) : List Value := (List.range K).map fun i => .int .u32 (fs i).2.1
def c4L (K : Nat) (fs : Nat → Nat × Nat × Bool) : List Value := (List.range K).map fun i => .bool (fs i).2.2
theorem one2 (K : Nat) (fs : Nat → Nat × Nat × Bool) : ∀ v ∈ c2L K fs, v.oneCell' = true := by
  intro v hv; obtain ⟨b, _, rfl⟩ := List.mem_map.1 hv; rfl
theorem one3 (K : Nat) (fs : Nat → Nat × Nat × Bool) : ∀ v ∈ c3L K fs, v.oneCell' = true := by
  intro v hv; obtain ⟨b, _, rfl⟩ := List.mem_map.1 hv; rfl
theorem one4 (K : Nat) (fs : Nat → Nat × Nat × Bool) : ∀ v ∈ c4L K fs, v.oneCell' = true := by
  intro v hv; obtain ⟨b, _, rfl⟩ := List.mem_map.1 hv; rfl

/-- The keys of the untaken fields among the first k. -/
def untF (fs : Nat → Nat × Nat × Bool) (fbs ubs : List UInt8) : Nat → List (List UInt8)
  | 0 => []
  | k + 1 => untF fs fbs ubs k ++ (if (fs k).2.2 then [] else [keyB fbs ubs (fs k).1 (fs k).2.1])

theorem untF_len (fs : Nat → Nat × Nat × Bool) (fbs ubs : List UInt8) : ∀ k, (untF fs fbs ubs k).length ≤ k
  | 0 => Nat.le_refl _
  | k + 1 => by
    have := untF_len fs fbs ubs k
    unfold untF
    rw [List.length_append]
    split <;> simp <;> omega

theorem untaken_eq (T : TabD) (fbs ubs : List UInt8) : ∀ k, untaken T fbs ubs k = untF T.fs fbs ubs k
  | 0 => rfl
  | k + 1 => by unfold untaken untF; rw [untaken_eq T fbs ubs k]; rfl

theorem own_shape {w : World} {base e n : Nat} {v : Value} {xs : List Value} (h : w.ownsRow base e 1 v n xs) : ∃ a c, v = .slice a n c ∧ SC w a xs := by
  have hl := h.1
  rcases id h.2 with ⟨rfl, rfl⟩ | ⟨g, cap, cur, rfl, hb, hg, r⟩
  · exact ⟨none, 0, rfl, .inl (List.eq_nil_of_length_eq_zero (by simpa using hl))⟩
  · refine ⟨some ⟨g, 0, none⟩, cap, rfl, .inr ⟨g, 0, rfl, (h.lt g rfl).2, fun i hi => ?_⟩⟩
    rw [Nat.zero_add, h.cellAt i (by omega), List.getElem?_eq_getElem hi]

theorem SC.strs {w : World} {b off : Nat} {ss : List (List UInt8)} (h : SC w (some ⟨b, off, none⟩) (ss.map encStr)) (i : Nat) (hi : i < ss.length) : w.cell? ⟨b, off + i, none⟩ = some (.string ⟨ss[i].toArray⟩) := by
  have := h.cell i (by simpa using hi)
  simpa using this

theorem sorted_adj (ss : List (List UInt8)) (k : Nat) (hk : k + 1 < (ss.mergeSort Plain.le).length) : Op.bytesLess (ss.mergeSort Plain.le)[k + 1] (ss.mergeSort Plain.le)[k] = false := by
  have hs := List.pairwise_mergeSort Plain.le_trans Plain.le_total ss
  have := List.pairwise_iff_getElem.1 hs k (k + 1) (by omega) hk (by omega)
  rw [bytesLess_eq]
  unfold Plain.le at this ⊢
  simp only [decide_eq_true_eq, decide_eq_false_iff_not] at this ⊢
  exact List.not_lt.2 this

theorem span_or' {lf lu x y : Nat} (h : spanOk lf lu x y = true) : x + y ≤ lf ∨ (lf ≤ x ∧ x + y ≤ lf + lu) := by
  unfold spanOk at h
  simp at h
  omega

set_option maxRecDepth 100000 in
set_option maxHeartbeats 4000000 in
theorem law5_pos (a0 : Option Addr) (l0 c0 : Nat) (a1 : Option Addr) (l1 c1 : Nat) (b2 o2 c2 b3 o3 c3 b4 o4 c4 K : Nat) (fs : Nat → Nat × Nat × Bool) (w : World) (fbs ubs : List UInt8)
    (h0 : l0 ≤ 262144) (h1 : l1 ≤ 262144) (hK : K ≤ 4096) (hK0 : 0 < K) (hf : SB w a0 fbs) (hfl : fbs.length = l0) (hfn : a0 = none → l0 = 0) (hu : SB w a1 ubs) (hul : ubs.length = l1) (hun : a1 = none → l1 = 0)
    (hL : Lists w (some ⟨b2, o2, none⟩) (some ⟨b3, o3, none⟩) (some ⟨b4, o4, none⟩) K fs) (hbd : ∀ i, i < K → (fs i).1 < 4294967296 ∧ (fs i).2.1 < 4294967296) :
    Calls Try.prog 5 #[.slice a0 l0 c0, .slice a1 l1 c1, .slice (some ⟨b2, o2, none⟩) K c2, .slice (some ⟨b3, o3, none⟩) K c3, .slice (some ⟨b4, o4, none⟩) K c4] w fun e w' => e = .returned (.bool true) ∧ Below w.heap.size w w' := by
  have hne30 := fun (w : World) (a : Option Addr) (n c n' c' : Nat) => run_neq_slice_nil_any (P := Try.prog) w 30 23 a n c n' c' Try.underlying30
  have hne31 := fun (w : World) (a : Option Addr) (n c n' c' : Nat) => run_neq_slice_nil_any (P := Try.prog) w 31 4 a n c n' c' Try.underlying31
  obtain ⟨p0, pi, pz0, pz1, pz2⟩ := info_parts Try.info23
  obtain ⟨q0, qi, qz0, qz1, qz2⟩ := info_parts Try.info4
  have HF := hide hf
  have HFL := hide hfl
  have HFN := hide hfn
  have HU := hide hu
  have HUL := hide hul
  have HUN := hide hun
  have HL := hide hL
  have HBD := hide hbd
  have tok1 : True := trivial
  have tok2 : True := trivial
  have hd0 : decide ((262144 : Int) < (l0 : Int)) = false := by simp; omega
  have hd1 : decide ((262144 : Int) < (l1 : Int)) = false := by simp; omega
  have hdK : decide ((4096 : Int) < (K : Int)) = false := by simp; omega
  clear hf hfl hfn hu hul hun hL hbd
  go_enter Try.func5, Try.ntmps5
  go_wp2_with fail
  refine (bytes17 a0 l0 c0 a1 l1 c1 _ K c2 _ K c3 _ K c4 w (by unfold maxLen; omega) (by unfold maxLen; omega) (by unfold maxLen; omega) (by unfold maxLen; omega) (by unfold maxLen; omega)).mono ?_
  rintro e w' ⟨⟨b, rfl⟩, hw⟩
  obtain rfl := hw.symm
  cases b
  · go_wp2_with fail
    go_ret
    exact ⟨rfl, Below.refl _ _⟩
  go_wp2_with fail
  refine (spans18 l0 l1 _ _ _ K c2 K c3 K c4 fs w (by omega) (by omega) hK hK hK (fun _ => HL.out.h2) (fun _ => HL.out.h3) HBD.out).mono ?_
  rintro e w0 ⟨b, rfl, hw0, hsp⟩
  have HBw0 : Hid (Below w.heap.size w w0) := by obtain ⟨n, rfl⟩ := hw0; exact below_drewN (Below.refl _ _) n
  have HSP := hide hsp
  clear hw0 hsp
  cases b
  · go_wp2_with fail
    go_ret
    exact ⟨rfl, HBw0.out⟩
  have HFit : Hid (∀ i, i < K → (fs i).1 + (fs i).2.1 ≤ l0 ∨ (l0 ≤ (fs i).1 ∧ (fs i).1 + (fs i).2.1 ≤ l0 + l1)) := fun i hi => span_or' ((HSP.out rfl).2.2 i hi)
  clear HSP
  go_wp2_with (first
    | (at_make; have _t := tok1; refine wpList_make_full _ rfl _ _ 30 rfl w.heap.size 23 p0 (.int .u32 0) 1 Try.underlying30 pi pz0 pz1 .i64 .i64 _ _ K rfl rfl rfl rfl ?_ ?_ ?_ ?_; rw [pz2]; omega; unfold maxLen; omega; exact HBw0.out.size; intro w1 hown hgrow; have hb1 : Below w0.heap.size w0 w1 := (Below.refl _ _).grown hgrow (Nat.le_refl _) (by simp); obtain ⟨wA, hcpwA, hs2, hb2⟩ := copy_made 30 23 3 Try.underlying30 Try.size23 w1 w.heap.size w0.heap.size K c2 ⟨b2, o2, none⟩ (c2L K fs) _ (by simp [c2L]) (one2 K fs) hown ((HL.out.h2.below HBw0.out).below hb1); have HBwA := hide (hb2 w.heap.size w (HBw0.out.trans (hb1.mono HBw0.out.size)) HBw0.out.size); have HPwA := hide (hb2 w0.heap.size w0 hb1 (Nat.le_refl _)); have HSwA := hide hs2; clear hb2 hown hgrow hb1 hs2 tok1)
    | (at_make; have _t := tok2; refine wpList_make_full _ rfl _ _ 30 rfl w.heap.size 23 p0 (.int .u32 0) 1 Try.underlying30 pi pz0 pz1 .i64 .i64 _ _ K rfl rfl rfl rfl ?_ ?_ ?_ ?_; rw [pz2]; omega; unfold maxLen; omega; exact HBwA.out.size; intro w1 hown hgrow; have hb1 : Below wA.heap.size wA w1 := (Below.refl _ _).grown hgrow (Nat.le_refl _) (by simp); obtain ⟨wB, hcpwB, hs2, hb2⟩ := copy_made 30 23 3 Try.underlying30 Try.size23 w1 w.heap.size wA.heap.size K c3 ⟨b3, o3, none⟩ (c3L K fs) _ (by simp [c3L]) (one3 K fs) hown ((HL.out.h3.below HBwA.out).below hb1); have HBwB := hide (hb2 w.heap.size w (HBwA.out.trans (hb1.mono HBwA.out.size)) HBwA.out.size); have HPwB := hide (hb2 wA.heap.size wA hb1 (Nat.le_refl _)); have HSwB := hide hs2; clear hb2 hown hgrow hb1 hs2 tok2)
    | (at_make; refine wpList_make_full _ rfl _ _ 31 rfl w.heap.size 4 q0 (.bool false) 1 Try.underlying31 qi qz0 qz1 .i64 .i64 _ _ K rfl rfl rfl rfl ?_ ?_ ?_ ?_; rw [qz2]; omega; unfold maxLen; omega; exact HBwB.out.size; intro w1 hown hgrow; have hb1 : Below wB.heap.size wB w1 := (Below.refl _ _).grown hgrow (Nat.le_refl _) (by simp); obtain ⟨wC, hcpwC, hs2, hb2⟩ := copy_made 31 4 3 Try.underlying31 Try.size4 w1 w.heap.size wB.heap.size K c4 ⟨b4, o4, none⟩ (c4L K fs) _ (by simp [c4L]) (one4 K fs) hown ((HL.out.h4.below HBwB.out).below hb1); have HBwC := hide (hb2 w.heap.size w (HBwB.out.trans (hb1.mono HBwB.out.size)) HBwB.out.size); have HPwC := hide (hb2 wB.heap.size wB hb1 (Nat.le_refl _)); have HSwC := hide hs2; clear hb2 hown hgrow hb1 hs2))
  have HL2 : Hid (Lists wC (some ⟨w0.heap.size, 0, none⟩) (some ⟨wA.heap.size, 0, none⟩) (some ⟨wB.heap.size, 0, none⟩) K fs) := ⟨(HSwA.out.below HPwB.out).below HPwC.out, HSwB.out.below HPwC.out, HSwC.out⟩
  clear hcpwA hcpwB hcpwC HSwA HSwB HSwC HPwA HPwB HPwC HBwA HBwB HBw0
  obtain ⟨gA, hgA⟩ : ∃ g, w0.heap.size = g := ⟨_, rfl⟩
  obtain ⟨gB, hgB⟩ : ∃ g, wA.heap.size = g := ⟨_, rfl⟩
  obtain ⟨gC, hgC⟩ : ∃ g, wB.heap.size = g := ⟨_, rfl⟩
  rw [hgA, hgB, hgC] at HL2
  rw [hgA, hgB, hgC]
  clear hgA hgB hgC
  refine (clone9n a0 l0 c0 fbs wC HFL.out (by omega) HFN.out (HF.out.below HBwC.out)).mono ?_
  rintro e w1 ⟨fa, fc, rfl, hs1, hb1, hl1, hm1, hfa⟩
  have HS1 := hide hs1
  have HB1 : Hid (Below w.heap.size w w1) := HBwC.out.trans (hb1.mono HBwC.out.size)
  have HL3 := hide (HL2.out.below hb1)
  have HFA := hide hfa
  clear hs1 hb1 hfa HL2 HBwC
  go_wp2_with fail
  refine (clone9n a1 l1 c1 ubs w1 HUL.out (by omega) HUN.out (HU.out.below HB1.out)).mono ?_
  rintro e w2 ⟨ua, uc, rfl, hs2, hb2, hl2, hm2, hua⟩
  have HT2 : Hid (Texts w2 fa l0 fc ua l1 uc fbs ubs) :=
    ⟨HS1.out.below hb2, hs2, HFL.out, HUL.out, fun h => (HFA.out h).1, fun h => (hua h).1, hl1, hm1, hl2, hm2⟩
  have HB2 : Hid (Below w.heap.size w w2) := HB1.out.trans (hb2.mono HB1.out.size)
  have HL4 := hide (HL3.out.below hb2)
  have HUA := hide hua
  clear hs2 hb2 hua HS1 HB1 HL3
  go_wp2_with fail
  refine (join10 fa l0 fc ua l1 uc fbs ubs w2 h0 h1 HT2.out.hf HT2.out.hfl HFA.out HT2.out.hu HT2.out.hul HUA.out).mono ?_
  rintro e w3 ⟨rfl, hs3, hb3⟩
  have HTx := hide hs3
  have HT3 := hide (HT2.out.below hb3)
  have HB3 : Hid (Below w.heap.size w w3) := HB2.out.trans (hb3.mono HB2.out.size)
  have HL5 := hide (HL4.out.below hb3)
  obtain ⟨tb, htb⟩ : ∃ tb, w2.heap.size = tb := ⟨_, rfl⟩
  rw [htb] at HTx ⊢
  clear hs3 hb3 htb HT2 HB2 HL4 HFA HUA HL
  go_wp2_with fail
  obtain ⟨i0, hi, hz0, hz1, hz2⟩ := info_parts Try.info9
  go_loopw [15, 16] (fun v i wr => ∃ k : Nat, k ≤ K ∧ i = .int .i64 k ∧ Hid (Below w3.heap.size w3 wr) ∧ Hid (wr.ownsRow w3.heap.size 9 1 v (untF fs fbs ubs k).length ((untF fs fbs ubs k).map encStr))) (fun _ i _ => K - (intOf i).toNat)
  case atStart => exact ⟨0, Nat.zero_le _, rfl, Below.refl _ _, World.ownsRow_nil _ _ _ _⟩
  case round =>
    obtain ⟨k, hk, rfl, hnx, hrow⟩ := hrel
    by_cases hlt : k < K
    · have HLr := hide (HL5.out.below hnx.out)
      have HTr := hide (HTx.out.below hnx.out)
      have g4 : wr.cell? ⟨gC, k, none⟩ = some (.bool (fs k).2.2) := by have := HLr.out.h4.cell k (by simpa using hlt); simpa using this
      cases htk : (fs k).2.2
      · rw [htk] at g4
        have g2 : wr.cell? ⟨gA, k, none⟩ = some (.int .u32 (fs k).1) := by have := HLr.out.h2.cell k (by simpa using hlt); simpa using this
        have g3 : wr.cell? ⟨gB, k, none⟩ = some (.int .u32 (fs k).2.1) := by have := HLr.out.h3.cell k (by simpa using hlt); simpa using this
        obtain ⟨x, hxe⟩ : ∃ x, (fs k).1 = x := ⟨_, rfl⟩
        obtain ⟨y, hye⟩ : ∃ y, (fs k).2.1 = y := ⟨_, rfl⟩
        rw [hxe] at g2
        rw [hye] at g3
        have hxy := HFit.out k hlt
        rw [hxe, hye] at hxy
        have HXY : Hid (x + y ≤ l0 + l1) := by show x + y ≤ l0 + l1; omega
        have HX := hide hxe
        have HY := hide hye
        have HTK := hide htk
        have hul := untF_len fs fbs ubs k
        clear hxe hye htk hxy
        have hsz := hnx.out.size
        go_wp2
        go_region_law (first
          | (refine step_append_own rfl (.tmp 98) (.tmp 110) 39 rfl w3.heap.size 9 i0 (.string ByteArray.empty) 1 16 Try.underlying39 hi hz0 hz1 hz2 rfl (by decide) u15 _ _ rfl (hrow.out.alloc _).drew ⟨wr.heap.size, 0, none⟩ 1 1 [encStr kk] rfl rfl (fun j u hj => by exact cell_one_new _ _ _ j u hj) (one_str kk) ?_ ?_ ?_ ?_; unfold maxLen; omega; omega; (simp; omega); intro v2 w4 hown2 hgrow2 _; have HO2 := hide hown2; have HG2 := hide hgrow2; clear hown2 hgrow2)
          | (refine step_call rfl 14 #[.slice (some ⟨tb, 0, none⟩) (l0 + l1) (l0 + l1), .int .u32 x, .int .u32 y] (by go_simp) ?_; refine (keyAt14 x y (l0 + l1) (l0 + l1) (some ⟨tb, 0, none⟩) (fbs ++ ubs) wr.drew (Nat.le_refl _) (by omega) HXY.out (by rw [List.length_append, HFL.out, HUL.out]) (HTr.out.below (Below.refl _ _).drew)).mono ?_; rintro e w' ⟨a', c', ⟨rfl, hw⟩, hss, hnn⟩; obtain rfl := hw.symm; obtain ⟨kk, hkk⟩ : ∃ kk, keyB fbs ubs x y = kk := ⟨_, rfl⟩; have hcv := conv_str wr.drew a' y c' kk (by rw [← hkk]; exact keyB_len _ _ _ _ (by rw [HFL.out, HUL.out]; exact HXY.out)) hnn (by rw [← hkk]; exact hss); have HKK := hide hkk; clear hkk hss hnn; refine ⟨_, rfl, ?_⟩))
        all_goals
          go_wp2
          go_roundw
          case rel =>
            refine ⟨k + 1, by omega, by go_num, ?_, ?_⟩
            · exact (hnx.out.alloc hsz _).drew.grown HG2.out (by simp; omega) (fun j hj => (hrow.out.lt j hj).1)
            · have e : untF fs fbs ubs (k + 1) = untF fs fbs ubs k ++ [kk] := by
                show untF fs fbs ubs k ++ _ = _
                rw [HTK.out, HX.out, HY.out, HKK.out]; rfl
              show w4.ownsRow _ _ _ _ _ _
              rw [e]
              simpa using HO2.out
          case measure => simp [intOf]; omega
      · rw [htk] at g4
        have HTK := hide htk
        clear htk
        go_wp2
        go_roundw
        case rel =>
          refine ⟨k + 1, by omega, by go_num, hnx, ?_⟩
          have e : untF fs fbs ubs (k + 1) = untF fs fbs ubs k := by
            show untF fs fbs ubs k ++ _ = _
            rw [HTK.out]; simp
          show wr.ownsRow _ _ _ _ _ _
          rw [e]
          exact hrow.out
        case measure => simp [intOf]; omega
    · obtain rfl : k = K := by omega
      have HBr := hide (HB3.out.trans (hnx.out.mono HB3.out.size))
      have HLr := hide (HL5.out.below hnx.out)
      have HT4 := hide (HT3.out.below hnx.out)
      have hul := untF_len fs fbs ubs k
      clear hnx HL5 HTx HT3 HB3
      go_wp2_with fail
      refine (table11 _ _ _ _ _ _ fa ua l0 fc l1 uc k fs wr hK HLr.out).mono ?_
      rintro e w4 ⟨T, rfl, hTab, hMade, hb4, eK, efs, efa, efl, efc, eua, eul, euc⟩
      have HT5 : Hid (Texts w4 T.fa T.fl T.fc T.ua T.ul T.uc fbs ubs) := by
        show Texts w4 T.fa T.fl T.fc T.ua T.ul T.uc fbs ubs
        rw [efa, efl, efc, eua, eul, euc]; exact HT4.out.below hb4
      have HFt : Hid (Fits T) := by
        intro i hi
        rw [eK] at hi
        rw [efs, efl, eul]; exact HFit.out i hi
      have HUn : Hid (untaken T fbs ubs T.K = untF fs fbs ubs k) := by
        show untaken T fbs ubs T.K = _
        rw [untaken_eq, eK, efs]
      have HTab := hide hTab
      have HB4 := hide (HBr.out.trans (hb4.mono HBr.out.size))
      have HW4 := hide (owns_below hrow.out hb4)
      clear hTab hMade hb4 eK efs efa efl efc eua eul euc HT4 HBr HLr hrow
      go_wp2_with fail
      refine (keys19 T fbs ubs w4 HTab.out HFt.out HT5.out).mono ?_
      rintro e w5 ⟨v, rfl, hb5, hg5⟩
      rw [HUn.out] at hg5
      obtain ⟨ss, hss⟩ : ∃ ss, untF fs fbs ubs k = ss := ⟨_, rfl⟩
      rw [hss] at hg5 hul
      have HW5 : Hid (w5.ownsRow w3.heap.size 9 1 u15 ss.length (ss.map encStr)) := by have := owns_below HW4.out hb5; rwa [hss] at this
      have HB5 := hide (HB4.out.trans (hb5.mono HB4.out.size))
      have HG5 := hide hg5
      clear hb5 hg5 hss HUn HW4 HTab HB4 HT5 HFt HFit
      obtain ⟨ga, gc, rfl, hsg⟩ := own_shape HG5.out
      obtain ⟨wa, wc', rfl, hsw⟩ := own_shape HW5.out
      have HSG := hide hsg
      have HSW := hide hsw
      clear hsg hsw HG5 HW5
      obtain ⟨n, hn⟩ : ∃ n, ss.length = n := ⟨_, rfl⟩
      rw [hn] at hul ⊢
      have HNL := hide hn
      clear hn
      by_cases hn0 : n = 0
      · subst hn0
        have hes : ss = [] := List.eq_nil_of_length_eq_zero HNL.out
        go_wp2_with fail
        refine wp_loop_rounds 1 ?_
        rw [rounds_succ]
        go_wp2_with fail
        refine (mergeSort20_zero wa wc' w5).mono ?_
        rintro e w6 ⟨g, rfl, hb6, _⟩
        have HB6 := hide (HB5.out.trans (hb6.mono HB5.out.size))
        clear hb6
        go_wp2_with fail
        refine wp_loop_rounds 1 ?_
        rw [rounds_succ]
        go_wp2
        go_ret
        exact ⟨rfl, HB6.out⟩
      · obtain ⟨gl, hgl⟩ : ∃ gl, ss.mergeSort Plain.le = gl := ⟨_, rfl⟩
        have HGLn : Hid (gl.length = n) := by rw [← hgl]; show (ss.mergeSort Plain.le).length = n; rw [List.length_mergeSort]; exact HNL.out
        have HSG2 : Hid (SC w5 ga (gl.map encStr)) := by rw [← hgl]; exact HSG.out
        have HAdj : Hid (∀ j (hj : j + 1 < gl.length), Op.bytesLess gl[j + 1] gl[j] = false) := by subst hgl; exact fun j hj => sorted_adj ss j hj
        have HGL := hide hgl
        clear hgl HSG
        rcases id HSG2.out with e | ⟨bg, og, rfl, _⟩
        · exact absurd (by have := HGLn.out; simp at e; subst e; simpa using this.symm) hn0
        go_wp2_with fail
        go_loopw [19] (fun i wr => ∃ j : Nat, 1 ≤ j ∧ j ≤ n ∧ i = .int .i64 j ∧ Hid (Below w5.heap.size w5 wr)) (fun i _ => n - (intOf i).toNat)
        case atStart => exact ⟨1, by omega, by omega, rfl, Below.refl _ _⟩
        case round =>
          obtain ⟨j, hj1, hjn, rfl, hb6⟩ := hrel
          by_cases hlt : j < n
          · have HS6 := hide (HSG2.out.below hb6.out)
            obtain ⟨j', rfl⟩ : ∃ j', j = j' + 1 := ⟨j - 1, by omega⟩
            have hjl : j' + 1 < gl.length := by have := HGLn.out; omega
            have q1 := HS6.out.strs (j' + 1) hjl
            have q2 := HS6.out.strs j' (by omega)
            have q3 := HAdj.out j' hjl
            obtain ⟨x1, hx1⟩ : ∃ x1, gl[j' + 1] = x1 := ⟨_, rfl⟩
            obtain ⟨x2, hx2⟩ : ∃ x2, gl[j'] = x2 := ⟨_, rfl⟩
            rw [hx1] at q1 q3
            rw [hx2] at q2 q3
            clear hx1 hx2
            go_wp2
            go_quiet (fail)
            go_wp2
            go_roundw
            case rel => exact ⟨j' + 1 + 1, by omega, by omega, by go_num, below_drewN hb6.out _⟩
            case measure => simp [intOf]; omega
          · obtain rfl : j = n := by omega
            have HB6 := hide (HB5.out.trans (hb6.out.mono HB5.out.size))
            have HS6 := hide (HSG2.out.below hb6.out)
            have HW6 := hide (HSW.out.below hb6.out)
            clear hb6 HSG2 HSW HB5 HAdj
            go_wp2_with fail
            refine (mergeSort20 wa j wc' ss wr HNL.out (by omega) HW6.out).mono ?_
            rintro e w7 ⟨g, rfl, hb7, ho7⟩
            have HO7 := hide (own_shape ho7)
            have HB7 := hide (HB6.out.trans (hb7.mono HB6.out.size))
            have HS7 := hide (HS6.out.below hb7)
            have HQ7 : Hid (SC w7 (some ⟨g, 0, none⟩) (gl.map encStr)) := by
              rw [HGL.out] at ho7
              obtain ⟨a, c, e, h⟩ := own_shape ho7
              cases e
              exact h
            clear hb7 ho7 HO7 HB6 HS6 HW6
            go_wp2_with fail
            go_loopw [21] (fun i wr => ∃ q : Nat, q ≤ j ∧ i = .int .i64 q ∧ Hid (Below w7.heap.size w7 wr)) (fun i _ => j - (intOf i).toNat)
            case atStart => exact ⟨0, by omega, rfl, Below.refl _ _⟩
            case round =>
              obtain ⟨q, hq, rfl, hb8⟩ := hrel
              by_cases hlt2 : q < j
              · have hql : q < gl.length := by have := HGLn.out; omega
                have q1 := (HS7.out.below hb8.out).strs q hql
                have q2 := (HQ7.out.below hb8.out).strs q hql
                obtain ⟨x1, hx1⟩ : ∃ x1, gl[q] = x1 := ⟨_, rfl⟩
                rw [hx1] at q1 q2
                simp only [Nat.zero_add] at q2
                clear hx1
                go_wp2
                go_quiet (fail)
                go_wp2
                go_roundw
                case rel => exact ⟨q + 1, by omega, by go_num, below_drewN hb8.out _⟩
                case measure => simp [intOf]; omega
              · go_wp2
                go_ret
                exact ⟨rfl, HB7.out.trans (hb8.out.mono HB7.out.size)⟩
end Go.Proofs.Qxb6605987a
