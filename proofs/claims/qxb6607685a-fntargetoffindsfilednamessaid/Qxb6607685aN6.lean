import Derived.Test.Qxb6607685aN5
namespace Go.Proofs.Qxb6607685a
open Go.RowKit Go.Maps Go.WideMaps
set_option linter.unusedVariables false
set_option linter.unusedSimpArgs false

theorem frz_drewN (w : World) (n : Nat) (a : Addr) (h : w.frozen? a = false) : (w.drewN n).frozen? a = false := h
theorem cell_drewN (w : World) (n : Nat) (a : Addr) : (w.drewN n).cell? a = w.cell? a := rfl

theorem drewN_add (w : World) (n m : Nat) : (w.drewN n).drewN m = w.drewN (n + m) := by
  simp [World.drewN, Nat.add_assoc]

theorem str_ne {x y : List UInt8} (h : x ≠ y) : decide ((⟨x.toArray⟩ : ByteArray) = ⟨y.toArray⟩) = false := by
  simp; exact h

set_option maxRecDepth 100000 in
set_option maxHeartbeats 2000000 in
theorem first26 (a : Option Addr) (l c : Nat) (names : List (List UInt8)) (w : World) (hl : names.length = l) (hm : l ≤ 65536) (hs : SN w a names) :
    Calls Try.prog 26 #[.slice a l c] w fun e w' => ∃ gb, e = .returned (.tuple #[.slice (some ⟨gb, 0, none⟩) l l, .int .u32 (filed names l).length]) ∧ SC w' (some ⟨gb, 0, none⟩) (numsV names) ∧ Below w.heap.size w w' := by
  obtain ⟨i0, hi, hz0, hz1, hz2⟩ := info_parts Try.info23
  have HL := hide hl
  have HS := hide hs
  clear hl hs
  go_enter Try.func26, Try.ntmps26
  go_wp2_with (first
    | (at_make; refine wpList_make_full _ rfl _ _ 24 rfl w.heap.size 23 i0 (.int .u32 0) 1 Try.underlying24 hi hz0 hz1 .i64 .i64 _ _ l rfl rfl rfl rfl ?_ ?_ ?_ ?_; rw [hz2]; omega; unfold maxLen; omega; exact Nat.le_refl _; intro w1 hown hgrow; have HB1 : Hid (Below w.heap.size w w1) := (Below.refl _ _).grown hgrow (by simp) (by simp); have HO1 : Hid (∃ D, w1.ownsRow w.heap.size 23 1 (.slice (some ⟨w.heap.size, 0, none⟩) l l) l D) := ⟨_, hown⟩; clear hown hgrow))
  obtain ⟨gb, hgb⟩ : ∃ gb, w.heap.size = gb := ⟨_, rfl⟩
  rw [hgb] at HO1
  rw [hgb]
  have HGB : Hid (w.heap.size ≤ gb) := by rw [hgb]; exact Nat.le_refl gb
  clear hgb
  go_loopw [5, 13] (fun c i wr => ∃ (k : Nat) (D : List Value), k ≤ l ∧ c = .int .u32 (filed names k).length ∧ i = .int .i64 k ∧ Hid (Below w.heap.size w wr) ∧ Hid (wr.ownsRow gb 23 1 (.slice (some ⟨gb, 0, none⟩) l l) l D) ∧ Hid (LaidU D names k)) (fun _ i _ => l - (intOf i).toNat)
  case atStart =>
    obtain ⟨D, hD⟩ := HO1.out
    exact ⟨0, D, Nat.zero_le _, rfl, rfl, HB1, hD, fun i _ h => absurd h (Nat.not_lt_zero i)⟩
  case round =>
    clear HB1 HO1
    obtain ⟨k, D, hk, rfl, rfl, hb, hrow, hlaid⟩ := hrel
    have hLk := filed_len names k
    by_cases hlt : k < l
    · have hkn : k < names.length := by have := HL.out; omega
      obtain ⟨b, off, rfl, _⟩ := HS.out.some (by omega)
      have hsu := filed_succ names k hkn
      have hD : D.length = names.length := by have := hrow.out.1; have := HL.out; omega
      have hsn := hlaid.out.snoc hD hkn
      have hnew := rk_new names k hkn
      have hql := rk_lt names k hkn
      obtain ⟨x, hx⟩ : ∃ x, names[k] = x := ⟨_, rfl⟩
      rw [hx] at hsu hsn hnew hql
      obtain ⟨m, hme⟩ : ∃ m, (filed names k).length = m := ⟨_, rfl⟩
      rw [hme] at hLk hnew ⊢
      have HSU := hide hsu
      have HSN := hide hsn
      have HNEW := hide hnew
      have HX := hide hx
      have HME := hide hme
      clear hsu hsn hnew hx hme hD
      obtain ⟨wo, hwo⟩ : ∃ w' : World, w' = wr := ⟨_, rfl⟩
      subst hwo
      go_wp2_with fail
      go_loopw [7] (fun i wr' => ∃ j : Nat, j ≤ k ∧ i = .int .i64 j ∧ Hid (∃ n, wr' = wo.drewN n) ∧ Hid (∀ i (h : i < names.length), i < j → names[i] ≠ x)) (fun i _ => k - (intOf i).toNat)
      case atStart => exact ⟨0, Nat.zero_le _, rfl, ⟨0, rfl⟩, fun i _ h => absurd h (Nat.not_lt_zero i)⟩
      case round =>
        obtain ⟨j, hj, rfl, hwr, hne⟩ := hrel
        have HBr : Hid (Below w.heap.size w wr) := by obtain ⟨n, rfl⟩ := hwr.out; exact below_drewN hb.out n
        have HRr : Hid (wr.ownsRow gb 23 1 (.slice (some ⟨gb, 0, none⟩) l l) l D) := by obtain ⟨n, rfl⟩ := hwr.out; exact owns_below hrow.out (below_drewN (Below.refl _ _) n)
        have g2 := (HS.out.below HBr.out).cell k hkn
        rw [HX.out] at g2
        obtain ⟨vd, hcd⟩ : ∃ vd, wr.cell? ⟨gb, k, none⟩ = some vd := by
          have h1 := HRr.out.cellAt k (by omega)
          have h2 := HRr.out.1
          rw [List.getElem?_eq_getElem (by omega)] at h1
          exact ⟨_, h1⟩
        have hfd := HRr.out.frozenAt k
        have HGw : Hid (w.heap.size ≤ gb) := HGB
        by_cases hjk : j < k
        · have hjn : j < names.length := by omega
          have g1 := (HS.out.below HBr.out).cell j hjn
          have h3 : wr.cell? ⟨gb, j, none⟩ = some (.int .u32 (rk names names[j] : Nat)) := by
            have h1 := HRr.out.cellAt j (by omega)
            rw [h1]; exact hlaid.out j hjn hjk
          obtain ⟨y, hy⟩ : ∃ y, names[j] = y := ⟨_, rfl⟩
          rw [hy] at g1 h3
          by_cases hyx : y = x
          · subst hyx
            obtain ⟨q, hq⟩ : ∃ q, rk names y = q := ⟨_, rfl⟩
            rw [hq] at h3 hql HSN
            have HMm : Hid (y ∈ filed names k) := by rw [← hy]; exact filed_mem names k j hjn hjk
            clear hy hq
            go_wp2
            go_quiet (fail)
            have h3' : (wr.drewN nq).cell? ⟨gb, j, none⟩ = some (.int .u32 (q : Nat)) := h3
            have hcd' : (wr.drewN nq).cell? ⟨gb, k, none⟩ = some vd := hcd
            have hfd' : (wr.drewN nq).frozen? ⟨gb, k, none⟩ = false := hfd
            have HB2 : Hid (Below w.heap.size w (wr.drewN nq)) := below_drewN HBr.out _
            have HR2 : Hid ((wr.drewN nq).ownsRow gb 23 1 (.slice (some ⟨gb, 0, none⟩) l l) l D) := owns_below HRr.out (below_drewN (Below.refl _ _) _)
            generalize wr.drewN nq = w2 at h3' hcd' hfd' HB2 HR2 ⊢
            go_wp2
            go_roundw
            case rel =>
              obtain ⟨o1, o2⟩ := HR2.out.stored k (.int .u32 (q : Nat))
              refine ⟨k + 1, _, by omega, ?_, by go_num, HB2.out.setCell (by exact HGw.out) _, o1, HSN⟩
              rw [HSU.out, addName_old HMm.out, HME.out]
            case measure => simp [intOf]; omega
          · have HNE2 : Hid (∀ i (h : i < names.length), i < j + 1 → names[i] ≠ x) := by
              intro i h hij
              by_cases e : i = j
              · subst e; rw [hy]; exact hyx
              · exact hne.out i h (by omega)
            clear hy h3
            have hbe : (y == x) = false := by simpa using hyx
            go_wp2
            go_quiet (fail)
            go_wp2
            go_roundw
            case rel =>
              obtain ⟨n, hn⟩ := hwr.out
              exact ⟨j + 1, by omega, by go_num, ⟨n + nq, by rw [hn]; exact drewN_add wo n nq⟩, HNE2⟩
            case measure => simp [intOf]; omega
        · obtain rfl : j = k := by omega
          have hgd : decide ((j : Int) < (j : Int)) = false := by simp
          go_wp2
          go_quiet (fail)
          go_wp2
          go_roundw
          case rel =>
            have hno : x ∉ filed names j := by
              intro h
              obtain ⟨i, h1, h2, h3⟩ := filed_from names x j h
              exact hne.out i h1 h2 h3
            have hsn := HSN.out
            rw [HNEW.out hno] at hsn
            obtain ⟨o1, o2⟩ := World.ownsRow.stored (owns_below HRr.out (below_drewN (Below.refl _ _) nq)) j (.int .u32 (m : Nat))
            refine ⟨j + 1, _, by omega, ?_, by go_num, (below_drewN HBr.out _).setCell (by exact HGw.out) _, o1, hsn⟩
            rw [HSU.out, addName_new hno, List.length_append, HME.out]
            go_num
          case measure => simp [intOf]; omega
    · obtain rfl : k = l := by omega
      go_wp2
      go_ret2
      refine ⟨gb, rfl, ?_, hb.out⟩
      obtain ⟨a', c', e, h⟩ := own_shape hrow.out
      cases e
      have hll := HL.out
      have hD : D.length = names.length := by have := hrow.out.1; omega
      rw [← LaidU.all (by have := hlaid.out; rwa [← hll] at this) hD]
      exact h
end Go.Proofs.Qxb6607685a
