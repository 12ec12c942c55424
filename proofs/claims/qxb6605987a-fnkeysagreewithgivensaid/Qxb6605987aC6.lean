import Derived.Test.Qxb6605987aC5
import Derived.Test.Qxb6605987aM1
import Derived.Deep.DeepCutAuto
namespace Go.Proofs.Qxb6605987a
open Go.RowKit
set_option linter.unusedVariables false
set_option linter.unusedSimpArgs false

theorem bytesLess_eq : ∀ (x y : List UInt8), Op.bytesLess x y = decide (x < y)
  | [], [] => by simp [Op.bytesLess]
  | _ :: _, [] => by simp [Op.bytesLess]
  | [], _ :: _ => by simp [Op.bytesLess]
  | a :: x, b :: y => by
    rw [Op.bytesLess, bytesLess_eq x y]
    simp only [List.cons_lt_cons_iff]
    by_cases h1 : a < b <;> by_cases h2 : a = b <;> by_cases h3 : x < y <;> simp [h1, h2, h3]

theorem leq_eq (x y : List UInt8) : (Op.bytesLess x y || x == y) = Plain.le x y := by
  rw [bytesLess_eq, Plain.le, Bool.eq_iff_iff]
  simp only [Bool.or_eq_true, decide_eq_true_eq, beq_iff_eq]
  constructor
  · rintro (h | h)
    · exact List.le_of_lt h
    · subst h; exact List.le_refl _
  · intro h
    by_cases hl : x < y
    · exact .inl hl
    · exact .inr (List.le_antisymm h (List.not_lt.1 hl))

theorem Try.size9 : (Try.prog.info? 9).map (·.size) = some 1 := by kernel_rfl

theorem oneS (ss : List (List UInt8)) : ∀ v ∈ ss.map encStr, v.oneCell' = true := by
  intro v hv
  obtain ⟨b, _, rfl⟩ := List.mem_map.1 hv
  rfl

/-- copy of cells into a row that was just made: the equation for the walk, and what is owned behind it. -/
theorem copy_own (sT elem ty : TypeId) (hu : Try.prog.underlying sT = some (.slice elem)) (hz : (Try.prog.info? elem).map (·.size) = some 1)
    (w : World) (base g l c : Nat) (x : Addr) (cs : List Value) (zs : List Value) (hl : cs.length = l) (h1 : ∀ v ∈ cs, v.oneCell' = true)
    (hown : w.ownsRow base elem 1 (.slice (some ⟨g, 0, none⟩) l l) l zs) (hs : SC w (some x) cs) :
    ∃ w2, (Builtin.copy_ #[sT, sT] ty #[.slice (some ⟨g, 0, none⟩) l l, .slice (some x) l c]).run Try.prog w = .ok (goInt l) w2 ∧
      w2.ownsRow base elem 1 (.slice (some ⟨g, 0, none⟩) l l) l cs ∧ (∀ B w0, Below B w0 w → B ≤ g → Below B w0 w2) := by
  subst hl
  obtain ⟨hzz, hh⟩ := hown
  rcases hh with ⟨hh, _⟩ | ⟨g', cap, cur, hv, hb, hg, h1', h2, h3, h4⟩
  · cases hh
  cases hv
  have hrun := run_copy_row (P := Try.prog) w sT sT ty elem g 0 cs.length cs.length x cs.length c cur elem cs hu hz hg (by simp) hs.at (by simp [h3]) h1
  refine ⟨_, hrun, ⟨by simp, .inr ⟨g, cs.length, _, rfl, hb, setRow_heap w g _ _ elem _ hg, Nat.le_refl _, h2, ?_, ?_⟩⟩, fun B w0 h hB => below_setRow h hB _⟩
  · simp [h3]
  · simp

/-- The two rows of the sort. -/
def Sorting (w0 wr : World) (n gs gd : Nat) (S : List (List UInt8)) (D : List Value) : Prop :=
  Below w0.heap.size w0 wr ∧ gs ≠ gd ∧ wr.ownsRow w0.heap.size 9 1 (.slice (some ⟨gs, 0, none⟩) n n) n (S.map encStr) ∧ wr.ownsRow w0.heap.size 9 1 (.slice (some ⟨gd, 0, none⟩) n n) n D

theorem Sorting.lenS {w0 wr : World} {n gs gd : Nat} {S : List (List UInt8)} {D : List Value} (h : Sorting w0 wr n gs gd S D) : S.length = n := by have := h.2.2.1.1; simpa using this
theorem Sorting.lenD {w0 wr : World} {n gs gd : Nat} {S : List (List UInt8)} {D : List Value} (h : Sorting w0 wr n gs gd S D) : D.length = n := by have := h.2.2.2.1; simpa using this

theorem Sorting.drewN {w0 wr : World} {n gs gd : Nat} {S : List (List UInt8)} {D : List Value} (h : Sorting w0 wr n gs gd S D) (m : Nat) : Sorting w0 (wr.drewN m) n gs gd S D :=
  ⟨below_drewN h.1 m, h.2.1, owns_below h.2.2.1 (below_drewN (Below.refl _ _) m), owns_below h.2.2.2 (below_drewN (Below.refl _ _) m)⟩

theorem Sorting.src {w0 wr : World} {n gs gd : Nat} {S : List (List UInt8)} {D : List Value} (h : Sorting w0 wr n gs gd S D) (i : Nat) (hi : i < S.length) : wr.cell? ⟨gs, i, none⟩ = some (.string ⟨S[i].toArray⟩) := by
  have hl := h.lenS
  rw [h.2.2.1.cellAt i (by omega), List.getElem?_map, List.getElem?_eq_getElem hi]
  rfl

theorem Sorting.step {w0 wr : World} {n gs gd : Nat} {S : List (List UInt8)} {D : List Value} (h : Sorting w0 wr n gs gd S D) (k : Nat) (v : Value) : Sorting w0 (wr.setCell ⟨gd, k, none⟩ v) n gs gd S (D.set k v) := by
  obtain ⟨hb, hne, hs, hd⟩ := h
  obtain ⟨h1, h2⟩ := hd.stored k v
  refine ⟨hb.setCell (by exact (hd.lt gd rfl).1) _, hne, hs.kept h2 (.inr (by simp [Value.ownBlock]; exact hne)), h1⟩

theorem Sorting.swap {w0 wr : World} {n gs gd : Nat} {S S' : List (List UInt8)} {D : List Value} (h : Sorting w0 wr n gs gd S D) (e : D = S'.map encStr) : Sorting w0 wr n gd gs S' (S.map encStr) := by
  subst e
  exact ⟨h.1, Ne.symm h.2.1, h.2.2.2, h.2.2.1⟩

/-- What is laid so far. -/
def Laid (D : List Value) (Dp : List (List UInt8)) (k : Nat) : Prop := D.take k = Dp.map encStr ∧ Dp.length = k

theorem Laid.snoc {D : List Value} {Dp : List (List UInt8)} {k : Nat} (h : Laid D Dp k) (x : List UInt8) (hk : k < D.length) : Laid (D.set k (.string ⟨x.toArray⟩)) (Dp ++ [x]) (k + 1) :=
  ⟨by rw [Plain.take_set_succ D k _ hk, h.1]; simp, by simp [h.2]⟩

set_option maxRecDepth 100000 in
set_option maxHeartbeats 2000000 in
theorem mergeSort20_pos (x : Addr) (n c : Nat) (aL : List (List UInt8)) (w : World) (hn : aL.length = n) (hm : n ≤ 4096) (hs : SC w (some x) (aL.map encStr)) :
    Calls Try.prog 20 #[.slice (some x) n c] w fun e w' => ∃ g, e = .returned (.slice (some ⟨g, 0, none⟩) n n) ∧ Below w.heap.size w w' ∧ w'.ownsRow w.heap.size 9 1 (.slice (some ⟨g, 0, none⟩) n n) n ((aL.mergeSort Plain.le).map encStr) := by
  obtain ⟨i0, hi, hz0, hz1, hz2⟩ := info_parts Try.info9
  have HN := hide hn
  have HS := hide hs
  have tok1 : True := trivial
  clear hn hs
  go_enter Try.func20, Try.ntmps20
  go_wp2_with (first
    | (at_make; have _t := tok1; refine wpList_make_full _ rfl _ _ 39 rfl w.heap.size 9 i0 (.string ByteArray.empty) 1 Try.underlying39 hi hz0 hz1 .i64 .i64 _ _ n rfl rfl rfl rfl ?_ ?_ ?_ ?_; rw [hz2]; omega; unfold maxLen; omega; exact Nat.le_refl _; intro w1 hown hgrow; have hb1 : Below w.heap.size w w1 := (Below.refl _ _).grown hgrow (Nat.le_refl _) (by simp); obtain ⟨w2, hcp, hown2, hb2⟩ := copy_own 39 9 3 Try.underlying39 Try.size9 w1 w.heap.size w.heap.size n c x (aL.map encStr) _ (by rw [List.length_map]; exact HN.out) (oneS aL) hown (HS.out.below hb1); have HB2 := hide (hb2 w.heap.size w hb1 (Nat.le_refl _)); have HO2 := hide hown2; clear hb2 hown hgrow hb1 hown2 tok1)
    | (at_make; refine wpList_make_full _ rfl _ _ 39 rfl w.heap.size 9 i0 (.string ByteArray.empty) 1 Try.underlying39 hi hz0 hz1 .i64 .i64 _ _ n rfl rfl rfl rfl ?_ ?_ ?_ ?_; rw [hz2]; omega; unfold maxLen; omega; exact HB2.out.size; intro w3 hown3 hgrow3; have HB3 := hide (HB2.out.grown hgrow3 HB2.out.size (by simp)); have HO3 := hide hown3; have HO4 := hide (HO2.out.kept hgrow3 (.inr (by simp [Value.ownBlock]))); have HG3 := hide (HO2.out.lt w.heap.size rfl).2; clear hown3 hgrow3))
  have HP : Hid (Sorting w w3 n w.heap.size w2.heap.size aL _) := ⟨HB3.out, by have := HG3.out; omega, HO4.out, HO3.out⟩
  clear HB3 HG3 HO4 HO3 HB2 HO2
  go_loopw [4, 5, 6] (fun v4 v5 v6 wr => ∃ (gs gd W : Nat) (S : List (List UInt8)) (D : List Value), v4 = .slice (some ⟨gs, 0, none⟩) n n ∧ v5 = .slice (some ⟨gd, 0, none⟩) n n ∧ v6 = .int .i64 W ∧ 1 ≤ W ∧ W ≤ 8192 ∧ Hid (Sorting w wr n gs gd S D) ∧ Hid (Plain.runs W S ∧ S.Perm aL)) (fun _ _ v6 _ => n - (intOf v6).toNat)
  case atStart => exact ⟨_, _, 1, aL, _, rfl, rfl, rfl, by omega, by omega, HP, Plain.runs_one aL, List.Perm.refl _⟩
  case round =>
    clear HP hcp
    obtain ⟨gs, gd, W, S, D, rfl, rfl, rfl, hW1, hW2, hso, hru⟩ := hrel
    by_cases hlt : W < n
    · obtain ⟨wo, hwo⟩ : ∃ wo : World, wo = wr := ⟨_, rfl⟩
      subst hwo
      go_wp2
      go_loopw [7] (fun v7 wr => ∃ (lo : Nat) (D : List Value) (Dp : List (List UInt8)), v7 = .int .i64 lo ∧ lo ≤ n + 2 * W ∧ Hid (Sorting w wr n gs gd S D) ∧ Hid (Laid D Dp (min lo n)) ∧ Hid (Dp ++ Plain.mpass W n (S.drop lo) = Plain.mpass W n S)) (fun v7 _ => n - (intOf v7).toNat)
      case atStart => exact ⟨0, D, [], rfl, by omega, hso, ⟨by simp, by simp⟩, by show _ = _; simp⟩
      case round =>
        obtain ⟨lo, D1, Dp1, rfl, hlo, hso1, hla1, hmp1⟩ := hrel
        by_cases hln : lo < n
        · obtain ⟨w5, hw5⟩ : ∃ wo : World, wo = wr := ⟨_, rfl⟩
          subst hw5
          go_upto_if 39 with (fail)
          go_cut [8] (fun v8 w' => v8 = .int .i64 (min (lo + W) n : Nat) ∧ w' = w5)
          case first =>
            by_cases hmn : lo + W ≤ n
            · go_wp2
              go_meet
              case rel => exact ⟨by rw [Nat.min_eq_left hmn]; go_num, rfl⟩
            · go_wp2
              go_meet
              case rel => exact ⟨by rw [Nat.min_eq_right (by omega)], rfl⟩
          case rest =>
            obtain ⟨rfl, hwc⟩ := hcut
            obtain rfl := hwc.symm
            obtain ⟨mid, hmid⟩ : ∃ mid, min (lo + W) n = mid := ⟨_, rfl⟩
            rw [hmid]
            have hm1 : lo < mid := by omega
            have hm2 : mid ≤ n := by omega
            have HM := hide hmid
            clear hmid
            go_upto_if 47 with (fail)
            go_cut [9] (fun v9 w' => v9 = .int .i64 (min (lo + 2 * W) n : Nat) ∧ w' = w5)
            case first =>
              by_cases hmn : lo + 2 * W ≤ n
              · go_wp2
                go_meet
                case rel => exact ⟨by rw [Nat.min_eq_left hmn]; go_num, rfl⟩
              · go_wp2
                go_meet
                case rel => exact ⟨by rw [Nat.min_eq_right (by omega)], rfl⟩
            case rest =>
              obtain ⟨rfl, hwc⟩ := hcut
              obtain rfl := hwc.symm
              obtain ⟨hi2, hhi⟩ : ∃ hi2, min (lo + 2 * W) n = hi2 := ⟨_, rfl⟩
              rw [hhi]
              have hh1 : mid ≤ hi2 := by have := HM.out; omega
              have hh2 : hi2 ≤ n := by omega
              have HH := hide hhi
              clear hhi
              have HAT : Hid (Plain.At W n S Dp1 lo mid mid hi2) := by
                have := Plain.at_start W n lo hW1 S Dp1 hso1.out.lenS hln hmp1.out
                rw [HM.out, HH.out] at this
                exact this
              have HL1 : Hid (Laid D1 Dp1 lo) := by have := hla1.out; rwa [Nat.min_eq_left (by omega)] at this
              go_wp2
              go_loopw [10, 11, 12] (fun v10 v11 v12 wr => ∃ (i j k : Nat) (D : List Value) (Dp : List (List UInt8)), v10 = .int .i64 i ∧ v11 = .int .i64 j ∧ v12 = .int .i64 k ∧ lo ≤ i ∧ i ≤ mid ∧ mid ≤ j ∧ j ≤ hi2 ∧ Hid (k + mid = i + j) ∧ Hid (Sorting w wr n gs gd S D) ∧ Hid (Laid D Dp k) ∧ Hid (Plain.At W n S Dp i mid j hi2)) (fun _ _ v12 _ => n - (intOf v12).toNat)
              case atStart => exact ⟨lo, mid, lo, D1, Dp1, rfl, rfl, rfl, by omega, by omega, by omega, by omega, rfl, hso1, HL1, HAT⟩
              case round =>
                clear HAT HL1 hso1 hla1
                obtain ⟨i, j, k, D2, Dp2, rfl, rfl, rfl, hi1, hi2', hj1, hj2, hkk, hso2, hla2, hat2⟩ := hrel
                by_cases hkh : k < hi2
                · have hkn : k < n := by omega
                  have HlenS := hide hso2.out.lenS
                  have HlenD := hide hso2.out.lenD
                  have hkD : k < D2.length := by have := HlenD.out; omega
                  obtain ⟨vd, hcd⟩ := own_cell hso2.out.2.2.2 k (by omega)
                  have hfd := hso2.out.2.2.2.frozenAt k
                  by_cases him : i < mid
                  · have hg1 : decide ((i : Int) < (mid : Int)) = true := by simp; omega
                    have hin : (i : Int) < (n : Int) := by omega
                    have hiS : i < S.length := by have := HlenS.out; omega
                    have hci := hso2.out.src i hiS
                    obtain ⟨x1, hx1⟩ : ∃ x1, S[i] = x1 := ⟨_, rfl⟩
                    rw [hx1] at hci
                    have HX1 := hide hx1
                    clear hx1
                    by_cases hjh : j < hi2
                    · have hg2 : decide ((hi2 : Int) ≤ (j : Int)) = false := by simp; omega
                      have hjn : (j : Int) < (n : Int) := by omega
                      have hjS : j < S.length := by have := HlenS.out; omega
                      have hcj := hso2.out.src j hjS
                      obtain ⟨x2, hx2⟩ : ∃ x2, S[j] = x2 := ⟨_, rfl⟩
                      rw [hx2] at hcj
                      have HX2 := hide hx2
                      clear hx2
                      cases hle : (Op.bytesLess x1 x2 || x1 == x2)
                      · have HLE := hide hle
                        go_wp2
                        go_quiet (fail)
                        go_wp2
                        go_roundw
                        case rel =>
                          refine ⟨i, j + 1, k + 1, _, _, rfl, by go_num, by go_num, by omega, by omega, by omega, by omega, ?_, (hso2.out.drewN _).step k _, hla2.out.snoc x2 hkD, ?_⟩
                          · have := hkk.out
                            show k + 1 + mid = i + (j + 1)
                            omega
                          · have := Plain.at_right W n S Dp2 i mid j hi2 HlenS.out hm2 hh2 hjh hjS hi2' (.inr ⟨hiS, by rw [HX1.out, HX2.out, ← leq_eq]; exact HLE.out⟩) hat2.out
                            rw [HX2.out] at this
                            exact this
                        case measure => simp [intOf]; omega
                      · have HLE := hide hle
                        go_wp2
                        go_quiet (fail)
                        go_wp2
                        go_roundw
                        case rel =>
                          refine ⟨i + 1, j, k + 1, _, _, by go_num, rfl, by go_num, by omega, by omega, by omega, by omega, ?_, (hso2.out.drewN _).step k _, hla2.out.snoc x1 hkD, ?_⟩
                          · have := hkk.out
                            show k + 1 + mid = i + 1 + j
                            omega
                          · have := Plain.at_left W n S Dp2 i mid j hi2 HlenS.out hm2 hh2 him hiS (.inr ⟨hjS, by rw [HX1.out, HX2.out, ← leq_eq]; exact HLE.out⟩) hj2 hat2.out
                            rw [HX1.out] at this
                            exact this
                        case measure => simp [intOf]; omega
                    · have hg2 : decide ((hi2 : Int) ≤ (j : Int)) = true := by simp; omega
                      go_wp2
                      go_quiet (fail)
                      go_wp2
                      go_roundw
                      case rel =>
                        refine ⟨i + 1, j, k + 1, _, _, by go_num, rfl, by go_num, by omega, by omega, by omega, by omega, ?_, (hso2.out.drewN _).step k _, hla2.out.snoc x1 hkD, ?_⟩
                        · have := hkk.out
                          show k + 1 + mid = i + 1 + j
                          omega
                        · have := Plain.at_left W n S Dp2 i mid j hi2 HlenS.out hm2 hh2 him hiS (.inl (by omega)) hj2 hat2.out
                          rw [HX1.out] at this
                          exact this
                      case measure => simp [intOf]; omega
                  · have hg1 : decide ((i : Int) < (mid : Int)) = false := by simp; omega
                    have hjh : j < hi2 := by have := hkk.out; omega
                    have hjn : (j : Int) < (n : Int) := by omega
                    have hjS : j < S.length := by have := HlenS.out; omega
                    have hcj := hso2.out.src j hjS
                    obtain ⟨x2, hx2⟩ : ∃ x2, S[j] = x2 := ⟨_, rfl⟩
                    rw [hx2] at hcj
                    have HX2 := hide hx2
                    clear hx2
                    go_wp2
                    go_quiet (fail)
                    go_wp2
                    go_roundw
                    case rel =>
                      refine ⟨i, j + 1, k + 1, _, _, rfl, by go_num, by go_num, by omega, by omega, by omega, by omega, ?_, (hso2.out.drewN _).step k _, hla2.out.snoc x2 hkD, ?_⟩
                      · have := hkk.out
                        show k + 1 + mid = i + (j + 1)
                        omega
                      · have := Plain.at_right W n S Dp2 i mid j hi2 HlenS.out hm2 hh2 hjh hjS hi2' (.inl (by omega)) hat2.out
                        rw [HX2.out] at this
                        exact this
                    case measure => simp [intOf]; omega
                · have hkk' := hkk.out
                  obtain rfl : i = mid := by omega
                  obtain rfl : j = hi2 := by omega
                  obtain rfl : k = j := by omega
                  have HE : Hid (Dp2 ++ Plain.mpass W n (S.drop (lo + 2 * W)) = Plain.mpass W n S) := Plain.at_end W n lo S Dp2 hso2.out.lenS i k HH.out.symm hat2.out
                  have HL2 : Hid (Laid D2 Dp2 (min (lo + 2 * W) n)) := by have := hla2.out; rw [HH.out]; exact this
                  clear hkk'
                  go_wp2
                  go_roundw
                  case rel => exact ⟨lo + 2 * W, D2, Dp2, by go_num, by omega, hso2, HL2, HE⟩
                  case measure => simp [intOf]; omega
        · have HD : Hid (D1 = (Plain.mpass W n S).map encStr) := by
            have h1 := hmp1.out
            have h2 := hla1.out
            rw [List.drop_eq_nil_of_le (by rw [hso1.out.lenS]; omega), Plain.mpass_nil, List.append_nil] at h1
            rw [Nat.min_eq_right (by omega)] at h2
            have h3 := h2.1
            rw [List.take_of_length_le (by rw [hso1.out.lenD]; omega), h1] at h3
            exact h3
          have HS2 := hide (hso1.out.swap HD.out)
          have HR2 : Hid (Plain.runs (2 * W) (Plain.mpass W n S) ∧ (Plain.mpass W n S).Perm aL) :=
            ⟨Plain.runs_double W n hW1 S (by rw [hso1.out.lenS]; omega) hru.out.1, (Plain.mpass_perm W hW1 n S (by rw [hso1.out.lenS]; omega)).trans hru.out.2⟩
          go_wp2
          go_roundw
          case rel => exact ⟨gd, gs, 2 * W, _, _, rfl, rfl, by go_num, by omega, by omega, HS2, HR2⟩
          case measure => simp [intOf]; omega
    · have HE : Hid (S = aL.mergeSort Plain.le) := Plain.runs_end W S aL (by rw [hso.out.lenS]; omega) hru.out.1 hru.out.2
      go_wp2
      go_ret
      refine ⟨gs, rfl, hso.out.1, ?_⟩
      rw [← HE.out]
      exact hso.out.2.2.1
end Go.Proofs.Qxb6605987a
