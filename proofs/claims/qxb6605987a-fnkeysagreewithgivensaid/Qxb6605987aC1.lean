import Derived.Test.Qxb6605987aB8
import Derived.Test.Qxb6605987aShelf
import Derived.Sort.OwnSorted
import Derived.WalkSpells
namespace Go.Proofs.Qxb6605987a
open Go.RowKit
set_option linter.unusedVariables false
set_option linter.unusedSimpArgs false

theorem Try.info9 : (Try.prog.info? 9).map (fun i => (i.zero, i.size, i.bytes)) = some (some (.string ByteArray.empty), 1, 16) := by kernel_rfl

/-- The keys of the untaken fields among the first k. -/
def untaken (T : TabD) (fbs ubs : List UInt8) : Nat → List (List UInt8)
  | 0 => []
  | k + 1 => untaken T fbs ubs k ++ (if (T.fs k).2.2 then [] else [keyAt T fbs ubs k])

theorem untaken_len (T : TabD) (fbs ubs : List UInt8) : ∀ k, (untaken T fbs ubs k).length ≤ k
  | 0 => Nat.le_refl _
  | k + 1 => by
    have := untaken_len T fbs ubs k
    unfold untaken
    rw [List.length_append]
    split <;> simp <;> omega

theorem one_str (l : List UInt8) : ∀ u ∈ [encStr l], u.oneCell' = true := by intro u hu; simp at hu; subst hu; rfl

theorem grown_of_below {w w' : World} (hb : Below w.heap.size w w') : w.grownBy w' none := ⟨hb.os, hb.tape, hb.output, hb.size, fun k hk _ => hb.block k hk⟩

theorem owns_below {w w' : World} {base e size n : Nat} {v : Value} {xs : List Value} (h : w.ownsRow base e size v n xs) (hb : Below w.heap.size w w') : w'.ownsRow base e size v n xs :=
  h.kept (grown_of_below hb) (by cases hv : v.ownBlock <;> simp)

set_option maxRecDepth 100000 in
set_option maxHeartbeats 1000000 in
theorem keys19 (T : TabD) (fbs ubs : List UInt8) (w : World) (h : Tab w T) (hF : Fits T) (hT : Texts w T.fa T.fl T.fc T.ua T.ul T.uc fbs ubs) :
    Calls Try.prog 19 #[.pointer (some ⟨T.tb, 0, none⟩)] w fun e w' => ∃ v, e = .returned v ∧ Below w.heap.size w w' ∧
      w'.ownsRow w.heap.size 9 1 v (untaken T fbs ubs T.K).length (((untaken T fbs ubs T.K).mergeSort fun x y => decide (x ≤ y)).map encStr) := by
  obtain ⟨i0, hi, hz0, hz1, hz2⟩ := info_parts Try.info9
  have hK := h.hK
  have H := hide h
  have HT := hide hT
  have HF := hide hF
  clear h hT hF
  go_enter Try.func19, Try.ntmps19
  go_wp2_with fail
  refine (fields24 T w H.out).mono ?_
  rintro e w' ⟨rfl, nd, rfl⟩
  go_wp2_with fail
  go_loopw [3, 11] (fun v i wr => ∃ k : Nat, k ≤ T.K ∧ i = .int .i64 k ∧ Below w.heap.size w wr ∧ Hid (wr.ownsRow w.heap.size 9 1 v (untaken T fbs ubs k).length ((untaken T fbs ubs k).map encStr))) (fun _ i _ => T.K - (intOf i).toNat)
  case atStart => exact ⟨0, Nat.zero_le _, rfl, below_drewN (Below.refl _ _) _, World.ownsRow_nil _ _ _ _⟩
  case round =>
    obtain ⟨k, hk, rfl, hnx, hrow⟩ := hrel
    by_cases hlt : k < T.K
    · have g7 : wr.cell? ⟨T.fb, k * 8 + 7, none⟩ = some (.bool (T.fs k).2.2) := by rw [hnx.cell (by exact H.out.hfb)]; exact H.out.f7 k hlt
      have HR := hide (H.out.below hnx)
      have HTR := hide (HT.out.below hnx)
      cases htk : (T.fs k).2.2
      · rw [htk] at g7
        have HTK := hide htk
        clear htk
        go_wp2_with fail
        refine (keyOf23 T k fbs ubs wr HR.out hlt HTR.out (HF.out k hlt)).mono ?_
        rintro e w1 ⟨a', c', rfl, hb, hs, hn⟩
        have hcv := conv_str w1 a' _ c' _ (keyAt_len HT.out HF.out k hlt) hn hs
        have HB1 := hide hb
        clear hb hs hn
        obtain ⟨kk, hkk⟩ : ∃ kk, keyB fbs ubs (T.fs k).1 (T.fs k).2.1 = kk := ⟨_, rfl⟩
        rw [show keyAt T fbs ubs k = kk from hkk] at hcv
        have HKK := hide (show keyAt T fbs ubs k = kk from hkk)
        clear hkk
        have HO1 : Hid (w1.ownsRow w.heap.size 9 1 u3 (untaken T fbs ubs k).length ((untaken T fbs ubs k).map encStr)) := owns_below hrow.out HB1.out
        have hsz1 : w.heap.size ≤ w1.heap.size := Nat.le_trans hnx.size HB1.out.size
        have hul := untaken_len T fbs ubs k
        go_wp2_with (first
          | (at_builtin; refine wpList_append_own _ rfl _ _ 39 rfl w.heap.size 9 i0 (.string ByteArray.empty) 1 16 Try.underlying39 hi hz0 hz1 hz2 rfl (by decide) u3 _ _ rfl (HO1.out.alloc _) ⟨w1.heap.size, 0, none⟩ 1 1 [encStr kk] rfl rfl (cell_one_new _ _ _) (one_str kk) ?_ ?_ ?_ ?_; unfold maxLen; omega; omega; simp; omega; intro v2 w2 hown2 hgrow2 _; have HO2 := hide hown2; have HG2 := hide hgrow2; clear hown2 hgrow2))
        go_roundw
        case rel =>
          refine ⟨k + 1, by omega, by go_num, ?_, ?_⟩
          · refine ((hnx.trans (HB1.out.mono hnx.size)).alloc hsz1 _).grown HG2.out (by simp; omega) (fun j hj => ?_)
            exact (HO1.out.lt j hj).1
          · have e : untaken T fbs ubs (k + 1) = untaken T fbs ubs k ++ [kk] := by
              show untaken T fbs ubs k ++ _ = _
              rw [HTK.out, HKK.out]; rfl
            show w2.ownsRow _ _ _ _ _ _
            rw [e]
            simpa using HO2.out
        case measure => simp [intOf]; omega
      · rw [htk] at g7
        have HTK := hide htk
        clear htk
        go_wp2_with fail
        go_roundw
        case rel =>
          refine ⟨k + 1, by omega, by go_num, hnx, ?_⟩
          have e : untaken T fbs ubs (k + 1) = untaken T fbs ubs k := by
            show untaken T fbs ubs k ++ _ = _
            rw [HTK.out]; simp
          show wr.ownsRow _ _ _ _ _ _
          rw [e]
          exact hrow.out
        case measure => simp [intOf]; omega
    · obtain rfl : k = T.K := by omega
      have hul := untaken_len T fbs ubs T.K
      rcases hrow.out.2 with ⟨hnil, hn0⟩ | ⟨g, cap, cur, hv, hbase, hb, h1, h2, h3, h4⟩
      · have e0 : untaken T fbs ubs T.K = [] := List.eq_nil_of_length_eq_zero hn0
        have HE := hide e0
        clear e0 hn0
        rw [hnil]
        have HN := hide hnil
        clear hnil
        go_wp2_with fail
        refine (Try.slices_Sort_string_none none 0 wr).mono ?_
        rintro e w1 ⟨rfl, hw⟩
        obtain rfl := hw.symm
        go_wp2
        go_ret
        refine ⟨_, rfl, hnx, ?_⟩
        rw [HE.out, show ([] : List (List UInt8)).mergeSort (fun x y => decide (x ≤ y)) = [] by simp]
        exact World.ownsRow_nil _ _ _ _
      · have hH : Sort.Holds encStr wr g 0 (untaken T fbs ubs T.K).toArray := holds_of_block hb (by simpa using h4)
        have hgl := (Array.getElem?_eq_some_iff.1 hb).1
        have hc := Try.slices_Sort_string g 0 cap (untaken T fbs ubs T.K) wr hH hgl (by omega)
        have hO2 : ∀ n os, _ := fun n os => ownsRow_sorted (n := n) (os := os) (ts := (untaken T fbs ubs T.K).mergeSort fun x y => decide (x ≤ y)) (ss := untaken T fbs ubs T.K) (by simp) hbase hb h1 h2 h3
        have HO2 := hide hO2
        have HC := hide hc
        have HBase := hide hbase
        clear hH hc hb h1 h2 h3 h4 hO2 hbase
        rw [hv]
        have HV := hide hv
        clear hv
        go_wp2_with fail
        refine HC.out.mono ?_
        rintro e w1 ⟨rfl, n, os, rfl⟩
        have HO3 := hide (HO2.out n os)
        have HB3 := hide (hnx.grown (grownBy_sorted (n := n) (os := os) (g := g) ((untaken T fbs ubs T.K).mergeSort fun x y => decide (x ≤ y)).toArray) hnx.size (fun j hj => by cases hj; exact HBase.out))
        clear HO2
        go_wp2
        go_ret
        exact ⟨_, rfl, HB3.out, HO3.out⟩
end Go.Proofs.Qxb6605987a
