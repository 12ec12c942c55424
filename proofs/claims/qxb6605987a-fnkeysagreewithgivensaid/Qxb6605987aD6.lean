import Derived.Test.Qxb6605987aD5
namespace Go.Proofs.Qxb6605987a
open Go.RowKit
set_option linter.unusedVariables false
set_option linter.unusedSimpArgs false

theorem sc_lt {w : World} {b off : Nat} {cs : List Value} (h : SC w (some ⟨b, off, none⟩) cs) (hl : 0 < cs.length) : b < w.heap.size := by
  rcases h with rfl | ⟨b', off', e, hlt, _⟩
  · simp at hl
  · cases e; exact hlt

theorem own_shape2 {w : World} {base e n : Nat} {v : Value} {xs : List Value} (h : w.ownsRow base e 1 v n xs) : ∃ a c, v = .slice a n c ∧ SC w a xs ∧ ∀ x, a = some x → base ≤ x.block := by
  have hl := h.1
  rcases id h.2 with ⟨rfl, rfl⟩ | ⟨g, cap, cur, rfl, hb, hg, r⟩
  · exact ⟨none, 0, rfl, .inl (List.eq_nil_of_length_eq_zero (by simpa using hl)), fun x hx => by cases hx⟩
  · refine ⟨some ⟨g, 0, none⟩, cap, rfl, .inr ⟨g, 0, rfl, (h.lt g rfl).2, fun i hi => ?_⟩, fun x hx => by cases hx; exact (h.lt g rfl).1⟩
    rw [Nat.zero_add, h.cellAt i (by omega), List.getElem?_eq_getElem hi]

set_option maxRecDepth 100000 in
/-- zzClone: where the result lies. -/
theorem clone9m (a : Option Addr) (l c : Nat) (bs : List UInt8) (w : World) (hl : bs.length = l) (hm : l ≤ 1048576) (hn : a = none → l = 0) (hs : SB w a bs) :
    Calls Try.prog 9 #[.slice a l c] w fun e w' => ∃ a' c', e = .returned (.slice a' l c') ∧ SB w' a' bs ∧ Below w.heap.size w w' ∧ l ≤ c' ∧ c' ≤ 1048576 ∧ (a' = none → l = 0 ∧ c' = 0) ∧ (∀ x, a' = some x → x.block < w'.heap.size) := by
  cases a with
  | none =>
    have h0 : l = 0 := hn rfl
    obtain rfl : bs = [] := List.eq_nil_of_length_eq_zero (by omega)
    subst h0
    have hnil := fun (w : World) (a : Option Addr) (n c n' c' : Nat) => Lib.run_eql_slice_nil (P := Try.prog) w 22 5 a n c n' c' Try.underlying22
    clear hl hn hm
    go_enter Try.func9, Try.ntmps9
    go_wp2
    go_ret
    exact ⟨none, 0, rfl, SB.nil _ _, Below.refl _ _, Nat.le_refl _, Nat.zero_le _, by simp, by simp⟩
  | some x =>
    have hnil := fun (w : World) (a : Option Addr) (n c n' c' : Nat) => Lib.run_eql_slice_nil (P := Try.prog) w 22 5 a n c n' c' Try.underlying22
    obtain ⟨i0, hi, hz0, hz1, hz2⟩ := info_parts Try.info5
    clear hn
    go_enter Try.func9, Try.ntmps9
    go_wp2_with (first
      | (at_make; refine wpList_make_full _ rfl _ _ 22 rfl w.heap.size 5 i0 (.int .u8 0) 1 Try.underlying22 hi hz0 hz1 .i64 .i64 _ _ l rfl rfl rfl rfl ?_ ?_ ?_ ?_; rw [hz2]; omega; unfold maxLen; omega; exact Nat.le_refl _; intro w1 hown hgrow; have hb1 : Below w.heap.size w w1 := (Below.refl _ _).grown hgrow (Nat.le_refl _) (by simp); obtain ⟨w2, hcp, hs2, hb2⟩ := copy_made 22 5 3 Try.underlying22 Try.size5 w1 w.heap.size w.heap.size l c x (bs.map cB) _ (by simpa using hl) (oneB bs) hown (hs.below hb1); have hb3 := hb2 w.heap.size w hb1 (Nat.le_refl _); have hlt2 := hide (Nat.lt_of_lt_of_le (hown.lt w.heap.size rfl).2 (hb2 w.heap.size w1 (Below.refl _ _) (Nat.le_refl _)).size); clear hb2 hown hgrow))
    go_ret
    exact ⟨_, _, rfl, hs2, hb3, Nat.le_refl _, hm, (fun h => by cases h), (fun x hx => by cases hx; exact hlt2.out)⟩

set_option maxRecDepth 100000 in
set_option maxHeartbeats 4000000 in
theorem law6_pos (a0 : Option Addr) (l0 c0 : Nat) (a1 : Option Addr) (l1 c1 : Nat) (b2 o2 c2 b3 o3 c3 b4 o4 c4 K : Nat) (fs : Nat → Nat × Nat × Bool) (w : World) (fbs ubs : List UInt8)
    (h0 : l0 ≤ 262144) (h1 : l1 ≤ 262144) (hK : K ≤ 4096) (hK0 : 0 < K) (hf : SB w a0 fbs) (hfl : fbs.length = l0) (hfn : a0 = none → l0 = 0 ∧ c0 = 0) (hu : SB w a1 ubs) (hul : ubs.length = l1) (hun : a1 = none → l1 = 0 ∧ c1 = 0)
    (hL : Lists w (some ⟨b2, o2, none⟩) (some ⟨b3, o3, none⟩) (some ⟨b4, o4, none⟩) K fs) (hbd : ∀ i, i < K → (fs i).1 < 4294967296 ∧ (fs i).2.1 < 4294967296) :
    Calls Try.prog 6 #[.slice a0 l0 c0, .slice a1 l1 c1, .slice (some ⟨b2, o2, none⟩) K c2, .slice (some ⟨b3, o3, none⟩) K c3, .slice (some ⟨b4, o4, none⟩) K c4] w fun e w' => e = .returned (.bool true) ∧ Below w.heap.size w w' := by
  have hne30 := fun (w : World) (a : Option Addr) (n c n' c' : Nat) => run_neq_slice_nil_any (P := Try.prog) w 30 23 a n c n' c' Try.underlying30
  have hne31 := fun (w : World) (a : Option Addr) (n c n' c' : Nat) => run_neq_slice_nil_any (P := Try.prog) w 31 4 a n c n' c' Try.underlying31
  obtain ⟨p0, pi, pz0, pz1, pz2⟩ := info_parts Try.info23
  obtain ⟨q0, qi, qz0, qz1, qz2⟩ := info_parts Try.info4
  have HF := hide hf
  have HFL := hide hfl
  have HFN := hide hfn
  have HU := hide hu
  have HUL := hide hul
  have HUN := hide hun
  have HL := hide hL
  have HBD := hide hbd
  have tok1 : True := trivial
  have tok2 : True := trivial
  have hd0 : decide ((262144 : Int) < (l0 : Int)) = false := by simp; omega
  have hd1 : decide ((262144 : Int) < (l1 : Int)) = false := by simp; omega
  have hdK : decide ((4096 : Int) < (K : Int)) = false := by simp; omega
  clear hf hfl hfn hu hul hun hL hbd
  go_enter Try.func6, Try.ntmps6
  go_wp2_with fail
  refine (bytes21 a0 l0 c0 a1 l1 c1 _ K c2 _ K c3 _ K c4 w (by unfold maxLen; omega) (by unfold maxLen; omega) (by unfold maxLen; omega) (by unfold maxLen; omega) (by unfold maxLen; omega)).mono ?_
  rintro e w' ⟨⟨b, rfl⟩, hw⟩
  obtain rfl := hw.symm
  cases b
  · go_wp2_with fail
    go_ret
    exact ⟨rfl, Below.refl _ _⟩
  go_wp2_with fail
  refine (spans18 l0 l1 _ _ _ K c2 K c3 K c4 fs w (by omega) (by omega) hK hK hK (fun _ => HL.out.h2) (fun _ => HL.out.h3) HBD.out).mono ?_
  rintro e w0 ⟨b, rfl, hw0, hsp⟩
  have HBw0 : Hid (Below w.heap.size w w0) := by obtain ⟨n, rfl⟩ := hw0; exact below_drewN (Below.refl _ _) n
  have HSP := hide hsp
  clear hw0 hsp
  cases b
  · go_wp2_with fail
    go_ret
    exact ⟨rfl, HBw0.out⟩
  have HFit : Hid (∀ i, i < K → (fs i).1 + (fs i).2.1 ≤ l0 ∨ (l0 ≤ (fs i).1 ∧ (fs i).1 + (fs i).2.1 ≤ l0 + l1)) := fun i hi => span_or' ((HSP.out rfl).2.2 i hi)
  clear HSP
  go_wp2_with (first
    | (at_make; have _t := tok1; refine wpList_make_full _ rfl _ _ 30 rfl w.heap.size 23 p0 (.int .u32 0) 1 Try.underlying30 pi pz0 pz1 .i64 .i64 _ _ K rfl rfl rfl rfl ?_ ?_ ?_ ?_; rw [pz2]; omega; unfold maxLen; omega; exact HBw0.out.size; intro w1 hown hgrow; have hb1 : Below w0.heap.size w0 w1 := (Below.refl _ _).grown hgrow (Nat.le_refl _) (by simp); obtain ⟨wA, hcpwA, hs2, hb2⟩ := copy_made 30 23 3 Try.underlying30 Try.size23 w1 w.heap.size w0.heap.size K c2 ⟨b2, o2, none⟩ (c2L K fs) _ (by simp [c2L]) (one2 K fs) hown ((HL.out.h2.below HBw0.out).below hb1); have HBwA := hide (hb2 w.heap.size w (HBw0.out.trans (hb1.mono HBw0.out.size)) HBw0.out.size); have HPwA := hide (hb2 w0.heap.size w0 hb1 (Nat.le_refl _)); have HSwA := hide hs2; clear hb2 hown hgrow hb1 hs2 tok1)
    | (at_make; have _t := tok2; refine wpList_make_full _ rfl _ _ 30 rfl w.heap.size 23 p0 (.int .u32 0) 1 Try.underlying30 pi pz0 pz1 .i64 .i64 _ _ K rfl rfl rfl rfl ?_ ?_ ?_ ?_; rw [pz2]; omega; unfold maxLen; omega; exact HBwA.out.size; intro w1 hown hgrow; have hb1 : Below wA.heap.size wA w1 := (Below.refl _ _).grown hgrow (Nat.le_refl _) (by simp); obtain ⟨wB, hcpwB, hs2, hb2⟩ := copy_made 30 23 3 Try.underlying30 Try.size23 w1 w.heap.size wA.heap.size K c3 ⟨b3, o3, none⟩ (c3L K fs) _ (by simp [c3L]) (one3 K fs) hown ((HL.out.h3.below HBwA.out).below hb1); have HBwB := hide (hb2 w.heap.size w (HBwA.out.trans (hb1.mono HBwA.out.size)) HBwA.out.size); have HPwB := hide (hb2 wA.heap.size wA hb1 (Nat.le_refl _)); have HSwB := hide hs2; clear hb2 hown hgrow hb1 hs2 tok2)
    | (at_make; refine wpList_make_full _ rfl _ _ 31 rfl w.heap.size 4 q0 (.bool false) 1 Try.underlying31 qi qz0 qz1 .i64 .i64 _ _ K rfl rfl rfl rfl ?_ ?_ ?_ ?_; rw [qz2]; omega; unfold maxLen; omega; exact HBwB.out.size; intro w1 hown hgrow; have hb1 : Below wB.heap.size wB w1 := (Below.refl _ _).grown hgrow (Nat.le_refl _) (by simp); obtain ⟨wC, hcpwC, hs2, hb2⟩ := copy_made 31 4 3 Try.underlying31 Try.size4 w1 w.heap.size wB.heap.size K c4 ⟨b4, o4, none⟩ (c4L K fs) _ (by simp [c4L]) (one4 K fs) hown ((HL.out.h4.below HBwB.out).below hb1); have HBwC := hide (hb2 w.heap.size w (HBwB.out.trans (hb1.mono HBwB.out.size)) HBwB.out.size); have HPwC := hide (hb2 wB.heap.size wB hb1 (Nat.le_refl _)); have HSwC := hide hs2; clear hb2 hown hgrow hb1 hs2))
  have HL2 : Hid (Lists wC (some ⟨w0.heap.size, 0, none⟩) (some ⟨wA.heap.size, 0, none⟩) (some ⟨wB.heap.size, 0, none⟩) K fs) := ⟨(HSwA.out.below HPwB.out).below HPwC.out, HSwB.out.below HPwC.out, HSwC.out⟩
  clear hcpwA hcpwB hcpwC HSwA HSwB HSwC HPwA HPwB HPwC HBwA HBwB HBw0
  obtain ⟨gA, hgA⟩ : ∃ g, w0.heap.size = g := ⟨_, rfl⟩
  obtain ⟨gB, hgB⟩ : ∃ g, wA.heap.size = g := ⟨_, rfl⟩
  obtain ⟨gC, hgC⟩ : ∃ g, wB.heap.size = g := ⟨_, rfl⟩
  rw [hgA, hgB, hgC] at HL2
  rw [hgA, hgB, hgC]
  clear hgA hgB hgC
  refine (join10 a0 l0 c0 a1 l1 c1 fbs ubs wC h0 h1 (HF.out.below HBwC.out) HFL.out HFN.out (HU.out.below HBwC.out) HUL.out HUN.out).mono ?_
  rintro e w1 ⟨rfl, hs1, hb1⟩
  have HTx1 := hide hs1
  have HB1 : Hid (Below w.heap.size w w1) := HBwC.out.trans (hb1.mono HBwC.out.size)
  have HL3 := hide (HL2.out.below hb1)
  obtain ⟨tb, htb⟩ : ∃ tb, wC.heap.size = tb := ⟨_, rfl⟩
  rw [htb] at HTx1 ⊢
  clear hs1 hb1 htb HL2 HBwC HL
  have HLen : Hid ((fbs ++ ubs).length = l0 + l1) := by show (fbs ++ ubs).length = l0 + l1; rw [List.length_append, HFL.out, HUL.out]
  go_wp2_with fail
  refine (distinct22 tb (l0 + l1) gA K gB K K fs fbs ubs w1 hK hK0 (by omega) HTx1.out HLen.out HL3.out.h2 HL3.out.h3 (fun i hi => by have := HFit.out i hi; omega)).mono ?_
  rintro e w2 ⟨b, rfl, hb2, hnd⟩
  have HB2 := hide (HB1.out.trans (hb2.mono HB1.out.size))
  have HTx2 := hide (HTx1.out.below hb2)
  have HL4 := hide (HL3.out.below hb2)
  have HND := hide hnd
  clear hb2 hnd HB1 HTx1 HL3
  cases b
  · go_wp2_with fail
    go_ret
    exact ⟨rfl, HB2.out⟩
  have HND2 := hide (HND.out rfl)
  clear HND
  go_wp2_with fail
  refine (clone9m a0 l0 c0 fbs w2 HFL.out (by omega) (fun h => (HFN.out h).1) (HF.out.below HB2.out)).mono ?_
  rintro e w3 ⟨fa, fc, rfl, hs3, hb3, hl3, hm3, hfa, hfo⟩
  have HFO := hide hfo
  clear hfo
  have HS3 := hide hs3
  have HFA := hide hfa
  have HB3 := hide (HB2.out.trans (hb3.mono HB2.out.size))
  have HTx3 := hide (HTx2.out.below hb3)
  have HL5 := hide (HL4.out.below hb3)
  clear hs3 hb3 hfa HB2 HTx2 HL4
  go_wp2_with fail
  refine (clone9m a1 l1 c1 ubs w3 HUL.out (by omega) (fun h => (HUN.out h).1) (HU.out.below HB3.out)).mono ?_
  rintro e w4 ⟨ua, uc, rfl, hs4, hb4, hl4, hm4, hua, huo⟩
  have HFO4 : Hid (∀ x, fa = some x → x.block < w4.heap.size) := fun x hx => Nat.lt_of_lt_of_le (HFO.out x hx) hb4.size
  have HUO4 := hide huo
  clear huo HFO
  have HT4 : Hid (Texts w4 fa l0 fc ua l1 uc fbs ubs) :=
    ⟨HS3.out.below hb4, hs4, HFL.out, HUL.out, fun h => (HFA.out h).1, fun h => (hua h).1, hl3, hm3, hl4, hm4⟩
  have HB4 := hide (HB3.out.trans (hb4.mono HB3.out.size))
  have HTx4 := hide (HTx3.out.below hb4)
  have HL6 := hide (HL5.out.below hb4)
  clear hs4 hb4 hua HS3 HB3 HTx3 HL5 HFA
  go_wp2_with fail
  refine (table11 _ _ _ _ _ _ fa ua l0 fc l1 uc K fs w4 hK HL6.out).mono ?_
  rintro e w5 ⟨T, rfl, hTab, hMade, hb5, eK, efs, efa, efl, efc, eua, eul, euc⟩
  have hdbw : w4.heap.size ≤ T.db ∧ T.db < w5.heap.size := ⟨by obtain ⟨m1, m2, m3, m4, m5, _⟩ := hMade; omega, hTab.hdb⟩
  have HStat : Hid (Stat w5 T fbs ubs) := by
    obtain ⟨m1, m2, m3, m4, m5, m6, m7⟩ := hMade
    refine ⟨hTab, ⟨m2, m3, m4, m5⟩, ?_, ?_, ?_, ?_, ?_, .inr (.inl ⟨m6, m7⟩)⟩
    · intro i hi
      rw [eK] at hi
      rw [efs, efl, eul]; exact HFit.out i hi
    · rw [efa, efl, efc, eua, eul, euc]; exact HT4.out.below hb5
    · rw [efa]; intro x hx; have := HFO4.out x hx; omega
    · rw [eua]; intro x hx; have := HUO4.out x hx; omega
    · rw [efs, eK]; exact HND2.out
  have HEK : Hid (T.K = K) := eK
  have HEF : Hid (T.fs = fs) := efs
  have HB5 := hide (HB4.out.trans (hb5.mono HB4.out.size))
  have HP5 := hide hb5
  have HD4 : Hid (w4.heap.size ≤ T.db ∧ w.heap.size ≤ T.db ∧ T.db < w5.heap.size) := by have := HB4.out.size; exact ⟨hdbw.1, by omega, hdbw.2⟩
  clear hTab hMade hb5 eK efs efa efl efc eua eul euc HT4 HB4 hdbw HND2 HFO4 HUO4
  go_wp2_with fail
  refine (keys19 T fbs ubs w5 HStat.out.tab HStat.out.fits HStat.out.texts).mono ?_
  rintro e w6 ⟨v, rfl, hb6, hg6⟩
  rw [untaken_eq, HEK.out, HEF.out] at hg6
  obtain ⟨ga, gc, rfl, hsg, hgo⟩ := own_shape2 hg6
  have HSG := hide hsg
  have HGO : Hid (Off T.db ga) := fun x hx => by have := hgo x hx; have := HD4.out.2.2; omega
  have HP6 : Hid (Below w4.heap.size w4 w6) := HP5.out.trans (hb6.mono HP5.out.size)
  have HB6 : Hid (Below w.heap.size w w6) := HB5.out.trans (hb6.mono HB5.out.size)
  have HSt6 := hide (HStat.out.below hb6)
  clear hg6 hb6 hsg hgo HStat HB5 HP5
  have hul := untF_len fs fbs ubs K
  obtain ⟨n, hn⟩ : ∃ n, (untF fs fbs ubs K).length = n := ⟨_, rfl⟩
  rw [hn] at hul ⊢
  have HNL := hide hn
  clear hn
  go_wp2_with fail
  go_loopw [17, 18] (fun c i wr => ∃ k : Nat, k ≤ K ∧ i = .int .i64 k ∧ c = .int .i64 ((untF fs fbs ubs k).length : Nat) ∧ Hid (Bel T.db w6 wr) ∧ Hid (Stat wr T fbs ubs)) (fun _ i _ => K - (intOf i).toNat)
  case atStart => exact ⟨0, Nat.zero_le _, rfl, rfl, Bel.refl _ _, HSt6⟩
  case round =>
    obtain ⟨k, hk, rfl, rfl, hbel, hst⟩ := hrel
    by_cases hlt : k < K
    · have hP : Below w4.heap.size w4 wr := hbel.out.below HP6.out HP6.out.size HD4.out.1
      have HLr := hide (HL6.out.below hP)
      have HTr := hide (HTx4.out.below hP)
      clear hP
      have hm := untF_len fs fbs ubs k
      obtain ⟨m, hme⟩ : ∃ m, (untF fs fbs ubs k).length = m := ⟨_, rfl⟩
      rw [hme] at hm ⊢
      have HM := hide hme
      clear hme
      have g4 : wr.cell? ⟨gC, k, none⟩ = some (.bool (fs k).2.2) := by have := HLr.out.h4.cell k (by simpa using hlt); simpa using this
      have g2 : wr.cell? ⟨gA, k, none⟩ = some (.int .u32 (fs k).1) := by have := HLr.out.h2.cell k (by simpa using hlt); simpa using this
      have g3 : wr.cell? ⟨gB, k, none⟩ = some (.int .u32 (fs k).2.1) := by have := HLr.out.h3.cell k (by simpa using hlt); simpa using this
      have HgC : Hid (gC < wr.heap.size ∧ gC ≠ T.db) := by
        have q3 := sc_lt HL6.out.h4 (by simpa using hK0)
        have q4 := HP6.out.size
        have q5 := hbel.out.size
        have q6 := HD4.out.1
        exact ⟨by omega, by omega⟩
      have hgv := given_key HSt6.out.nd k (by rw [HEK.out]; exact hlt)
      rw [HEF.out] at hgv
      obtain ⟨x, hxe⟩ : ∃ x, (fs k).1 = x := ⟨_, rfl⟩
      obtain ⟨y, hye⟩ : ∃ y, (fs k).2.1 = y := ⟨_, rfl⟩
      obtain ⟨kk, hkk⟩ : ∃ kk, keyB fbs ubs x y = kk := ⟨_, rfl⟩
      rw [hxe] at g2
      rw [hye] at g3
      rw [hxe, hye, hkk] at hgv
      have hxy := HFit.out k hlt
      rw [hxe, hye] at hxy
      have HXY : Hid (x + y ≤ l0 + l1) := by show x + y ≤ l0 + l1; omega
      have HX := hide hxe
      have HY := hide hye
      have HKL : Hid (kk.length = y) := by rw [← hkk]; exact keyB_len _ _ _ _ (by rw [HFL.out, HUL.out]; exact HXY.out)
      have HKK := hide hkk
      have hyb : y ≤ 1048576 := by have := HXY.out; omega
      clear hxe hye hkk hxy
      cases htk : (fs k).2.2
      · rw [htk] at g4 hgv
        have HGV : Hid (givenB T (findFrom T fbs ubs kk T.K 0) = true) := hgv
        have HTK := hide htk
        clear htk hgv
        go_wp2
        go_region_law (first
          | (refine step_call rfl 16 #[.pointer (some ⟨T.tb, 0, none⟩), .string ⟨kk.toArray⟩] ?_ ?_; (focus (go_simp; done)); refine (given16 T fbs ubs kk wr.drew (hst.out.below (Below.refl _ _).drew) (by have := HKL.out; unfold maxLen; omega)).mono ?_; rintro e w7 ⟨rfl, hb7, hst7⟩; rw [HGV.out]; have HB7 : Hid (Bel T.db w6 w7) := hbel.out.trans ((Bel.of_below (Below.refl wr.heap.size wr).drew hst.out.tab.hdb).trans hb7); have HST7 := hide hst7; have g4' : w7.cell? ⟨gC, k, none⟩ = some (.bool false) := (hb7.cellAt HgC.out.1 HgC.out.2).trans g4; clear hb7 hst7; refine ⟨_, rfl, ?_⟩)
          | (refine step_call rfl 14 #[.slice (some ⟨tb, 0, none⟩) (l0 + l1) (l0 + l1), .int .u32 x, .int .u32 y] ?_ ?_; (focus (go_simp; done)); refine (keyAt14 x y (l0 + l1) (l0 + l1) (some ⟨tb, 0, none⟩) (fbs ++ ubs) wr.drew (Nat.le_refl _) (by omega) HXY.out (by rw [List.length_append, HFL.out, HUL.out]) (HTr.out.below (Below.refl _ _).drew)).mono ?_; rintro e w' ⟨a', c', ⟨rfl, hw⟩, hss, hnn⟩; obtain rfl := hw.symm; have hcv := conv_str wr.drew a' y c' kk HKL.out hnn (by rw [← HKK.out]; exact hss); clear hss hnn; refine ⟨_, rfl, ?_⟩))
        all_goals
          go_wp2
          go_roundw
          case rel =>
            refine ⟨k + 1, by omega, by go_num, ?_, HB7, HST7⟩
            have e : untF fs fbs ubs (k + 1) = untF fs fbs ubs k ++ [kk] := by
              show untF fs fbs ubs k ++ _ = _
              rw [HTK.out, HX.out, HY.out, HKK.out]; rfl
            rw [e, List.length_append, HM.out]
            go_num
          case measure => simp [intOf]; omega
      · rw [htk] at g4 hgv
        have HGV : Hid (givenB T (findFrom T fbs ubs kk T.K 0) = false) := hgv
        have HTK := hide htk
        clear htk hgv
        go_wp2
        go_region_law (first
          | (refine step_call rfl 16 #[.pointer (some ⟨T.tb, 0, none⟩), .string ⟨kk.toArray⟩] ?_ ?_; (focus (go_simp; done)); refine (given16 T fbs ubs kk wr.drew (hst.out.below (Below.refl _ _).drew) (by have := HKL.out; unfold maxLen; omega)).mono ?_; rintro e w7 ⟨rfl, hb7, hst7⟩; rw [HGV.out]; have HB7 : Hid (Bel T.db w6 w7) := hbel.out.trans ((Bel.of_below (Below.refl wr.heap.size wr).drew hst.out.tab.hdb).trans hb7); have HST7 := hide hst7; have g4' : w7.cell? ⟨gC, k, none⟩ = some (.bool true) := (hb7.cellAt HgC.out.1 HgC.out.2).trans g4; clear hb7 hst7; refine ⟨_, rfl, ?_⟩)
          | (refine step_call rfl 14 #[.slice (some ⟨tb, 0, none⟩) (l0 + l1) (l0 + l1), .int .u32 x, .int .u32 y] ?_ ?_; (focus (go_simp; done)); refine (keyAt14 x y (l0 + l1) (l0 + l1) (some ⟨tb, 0, none⟩) (fbs ++ ubs) wr.drew (Nat.le_refl _) (by omega) HXY.out (by rw [List.length_append, HFL.out, HUL.out]) (HTr.out.below (Below.refl _ _).drew)).mono ?_; rintro e w' ⟨a', c', ⟨rfl, hw⟩, hss, hnn⟩; obtain rfl := hw.symm; have hcv := conv_str wr.drew a' y c' kk HKL.out hnn (by rw [← HKK.out]; exact hss); clear hss hnn; refine ⟨_, rfl, ?_⟩))
        all_goals
          go_wp2
          go_roundw
          case rel =>
            refine ⟨k + 1, by omega, by go_num, ?_, HB7, HST7⟩
            have e : untF fs fbs ubs (k + 1) = untF fs fbs ubs k := by
              show untF fs fbs ubs k ++ _ = _
              rw [HTK.out]; simp
            rw [e, HM.out]
          case measure => simp [intOf]; omega
    · obtain rfl : k = K := by omega
      rw [HNL.out]
      by_cases hn0 : n = 0
      · subst hn0
        go_wp2_with fail
        refine wp_loop_rounds 1 ?_
        rw [rounds_succ]
        go_wp2_with fail
        refine (keys19 T fbs ubs wr hst.out.tab hst.out.fits hst.out.texts).mono ?_
        rintro e w8 ⟨v, rfl, hb8, hg8⟩
        rw [untaken_eq, HEK.out, HEF.out, HNL.out] at hg8
        obtain ⟨gb, gd, rfl, _⟩ := own_shape2 hg8
        have HB8 : Hid (Below w.heap.size w w8) := by
          have q := hbel.out.below HB6.out HB6.out.size HD4.out.2.1
          exact q.trans (hb8.mono q.size)
        clear hg8 hb8
        go_wp2_with fail
        refine wp_loop_rounds 1 ?_
        rw [rounds_succ]
        go_wp2
        go_ret
        exact ⟨rfl, HB8.out⟩
      · obtain ⟨gl, hgl⟩ : ∃ gl, (untF fs fbs ubs k).mergeSort (fun x y => decide (x ≤ y)) = gl := ⟨_, rfl⟩
        rw [hgl] at HSG
        have HGLn : Hid (gl.length = n) := by rw [← hgl]; show (List.mergeSort _ _).length = n; rw [List.length_mergeSort]; exact HNL.out
        have HMem : Hid (∀ x ∈ gl, x ∈ untF fs fbs ubs k) := fun x hx => by rw [← hgl] at hx; exact (List.mergeSort_perm _ _).mem_iff.1 hx
        have HGL := hide hgl
        clear hgl
        rcases id HSG.out with e | ⟨bg, og, rfl, _⟩
        · exact absurd (by have := HGLn.out; simp at e; subst e; simpa using this.symm) hn0
        go_wp2_with fail
        go_loopw [19] (fun i wr => ∃ j : Nat, j ≤ n ∧ i = .int .i64 j ∧ Hid (Bel T.db w6 wr) ∧ Hid (Stat wr T fbs ubs)) (fun i _ => n - (intOf i).toNat)
        case atStart => exact ⟨0, by omega, rfl, hbel, hst⟩
        case round =>
          clear hbel hst
          obtain ⟨j, hjn, rfl, hbel, hst⟩ := hrel
          by_cases hlt2 : j < n
          · have hjl : j < gl.length := by have := HGLn.out; omega
            have q1 := (SC.bel HSG.out hbel.out HGO.out).strs j hjl
            have hgv := given_unt HSt6.out.nd gl[j] (by rw [HEF.out, HEK.out]; exact HMem.out _ (List.getElem_mem _))
            have hlen : gl[j].length ≤ 1048576 := by
              obtain ⟨i, h1, h2, h3⟩ := untF_mem _ _ _ _ _ (HMem.out _ (List.getElem_mem hjl))
              rw [← h3]
              have := HFit.out i h1
              rw [keyB_len _ _ _ _ (by rw [HFL.out, HUL.out]; omega)]
              omega
            obtain ⟨kk, hkk⟩ : ∃ kk, gl[j] = kk := ⟨_, rfl⟩
            rw [hkk] at q1 hgv hlen
            have HGV := hide hgv
            clear hkk hgv
            go_wp2_with fail
            refine (given16 T fbs ubs kk _ hst.out (by unfold maxLen; omega)).mono ?_
            rintro e w7 ⟨rfl, hb7, hst7⟩
            rw [HGV.out]
            have HB7 := hide (hbel.out.trans hb7)
            have HST7 := hide hst7
            clear hb7 hst7
            go_wp2
            go_roundw
            case rel => exact ⟨j + 1, by omega, by go_num, HB7, HST7⟩
            case measure => simp [intOf]; omega
          · obtain rfl : j = n := by omega
            go_wp2_with fail
            refine (keys19 T fbs ubs _ hst.out.tab hst.out.fits hst.out.texts).mono ?_
            rintro e w8 ⟨v, rfl, hb8, hg8⟩
            rw [untaken_eq, HEK.out, HEF.out, HNL.out, HGL.out] at hg8
            obtain ⟨gb, gd, rfl, hs8, _⟩ := own_shape2 hg8
            have HB8 : Hid (Below w.heap.size w w8) := by
              have q := hbel.out.below HB6.out HB6.out.size HD4.out.2.1
              exact q.trans (hb8.mono q.size)
            have HS8 := hide hs8
            have HS7 := hide ((SC.bel HSG.out hbel.out HGO.out).below hb8)
            clear hg8 hb8 hs8
            rcases id HS8.out with e | ⟨bh, oh, rfl, _⟩
            · exact absurd (by have := HGLn.out; simp at e; subst e; simpa using this.symm) hn0
            go_wp2_with fail
            go_loopw [21] (fun i wr => ∃ q : Nat, q ≤ j ∧ i = .int .i64 q ∧ Hid (Below w8.heap.size w8 wr)) (fun i _ => j - (intOf i).toNat)
            case atStart => exact ⟨0, by omega, rfl, Below.refl _ _⟩
            case round =>
              obtain ⟨q, hq, rfl, hb9⟩ := hrel
              by_cases hlt3 : q < j
              · have hql : q < gl.length := by have := HGLn.out; omega
                have q1 := (HS7.out.below hb9.out).strs q hql
                have q2 := (HS8.out.below hb9.out).strs q hql
                obtain ⟨x1, hx1⟩ : ∃ x1, gl[q] = x1 := ⟨_, rfl⟩
                rw [hx1] at q1 q2
                clear hx1
                go_wp2
                go_quiet (fail)
                go_wp2
                go_roundw
                case rel => exact ⟨q + 1, by omega, by go_num, below_drewN hb9.out _⟩
                case measure => simp [intOf]; omega
              · go_wp2
                go_ret
                exact ⟨rfl, HB8.out.trans (hb9.out.mono HB8.out.size)⟩
end Go.Proofs.Qxb6605987a
