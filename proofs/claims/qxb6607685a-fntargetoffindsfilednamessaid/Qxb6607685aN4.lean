import Derived.Test.Qxb6607685aN3
import Derived.Maps.AppendAt
import Derived.Deep.RegionLaw
import Derived.BigQuiet
import Derived.WalkSmall
namespace Go.Proofs.Qxb6607685a
open Go.RowKit Go.Maps Go.WideMaps
set_option linter.unusedVariables false
set_option linter.unusedSimpArgs false

theorem Try.info9 : (Try.prog.info? 9).map (fun i => (i.zero, i.size, i.bytes)) = some (some (.string ByteArray.empty), 1, 16) := by kernel_rfl

theorem one_str (l : List UInt8) : ∀ u ∈ [sV l], u.oneCell' = true := by intro u hu; simp at hu; subst hu; rfl

theorem grown_of_below {w w' : World} (hb : Below w.heap.size w w') : w.grownBy w' none := ⟨hb.os, hb.tape, hb.output, hb.size, fun k hk _ => hb.block k hk⟩

theorem owns_below {w w' : World} {base e size n : Nat} {v : Value} {xs : List Value} (h : w.ownsRow base e size v n xs) (hb : Below w.heap.size w w') : w'.ownsRow base e size v n xs :=
  h.kept (grown_of_below hb) (by cases hv : v.ownBlock <;> simp)

theorem MapN.below {w w' : World} {b n : Nat} {L : List (List UInt8)} (h : MapN w b n L) (hb : Below w.heap.size w w') : MapN w' b n L := h.kept (grown_of_below hb) (by simp)

theorem own_shape {w : World} {base e n : Nat} {v : Value} {xs : List Value} (h : w.ownsRow base e 1 v n xs) : ∃ a c, v = .slice a n c ∧ SC w a xs := by
  have hl := h.1
  rcases id h.2 with ⟨rfl, rfl⟩ | ⟨g, cap, cur, rfl, hb, hg, r⟩
  · exact ⟨none, 0, rfl, .inl (List.eq_nil_of_length_eq_zero (by simpa using hl))⟩
  · refine ⟨some ⟨g, 0, none⟩, cap, rfl, .inr ⟨g, 0, rfl, (h.lt g rfl).2, fun i hi => ?_⟩⟩
    rw [Nat.zero_add, h.cellAt i (by omega), List.getElem?_eq_getElem hi]

/-- The names filed, one after another. -/
def filed (names : List (List UInt8)) : Nat → List (List UInt8)
  | 0 => []
  | k + 1 => match names[k]? with
    | some x => addName (filed names k) x
    | none => filed names k

theorem filed_succ (names : List (List UInt8)) (k : Nat) (h : k < names.length) : filed names (k + 1) = addName (filed names k) names[k] := by
  show (match names[k]? with | some x => addName (filed names k) x | none => filed names k) = _
  rw [List.getElem?_eq_getElem h]

theorem addName_len (L : List (List UInt8)) (x : List UInt8) : (addName L x).length ≤ L.length + 1 := by
  unfold addName; split
  · omega
  · simp

theorem addName_old {L : List (List UInt8)} {x : List UInt8} (h : x ∈ L) : addName L x = L := by unfold addName; rw [if_pos (by simpa using h)]
theorem addName_new {L : List (List UInt8)} {x : List UInt8} (h : x ∉ L) : addName L x = L ++ [x] := by unfold addName; rw [if_neg (by simpa using h)]
theorem addName_mem {L : List (List UInt8)} {x y : List UInt8} (h : y ∈ L) : y ∈ addName L x := by unfold addName; split; exact h; simp [h]

theorem filed_len (names : List (List UInt8)) : ∀ k, (filed names k).length ≤ k
  | 0 => Nat.le_refl _
  | k + 1 => by
    have ih := filed_len names k
    rcases Nat.lt_or_ge k names.length with h | h
    · rw [filed_succ names k h]; have := addName_len (filed names k) names[k]; omega
    · show (match names[k]? with | some x => addName (filed names k) x | none => filed names k).length ≤ _
      rw [List.getElem?_eq_none h]
      show (filed names k).length ≤ _
      omega

theorem filed_mem (names : List (List UInt8)) : ∀ k i (h : i < names.length), i < k → names[i] ∈ filed names k
  | 0, i, h, hi => absurd hi (Nat.not_lt_zero _)
  | k + 1, i, h, hi => by
    rcases Nat.lt_or_ge k names.length with hk | hk
    · rw [filed_succ names k hk]
      rcases Nat.lt_or_ge i k with h' | h'
      · exact addName_mem (filed_mem names k i h h')
      · obtain rfl : i = k := by omega
        exact mem_addName _ _
    · show names[i] ∈ (match names[k]? with | some x => addName (filed names k) x | none => filed names k)
      rw [List.getElem?_eq_none hk]
      exact filed_mem names k i h (by omega)

theorem wrap64 (n : Nat) (h : n < 4294967296) : IntKind.u64.wrap (n : Int) = n := by
  simp [IntKind.wrap, IntKind.signed, IntKind.bits]
  omega

set_option maxRecDepth 100000 in
set_option maxHeartbeats 4000000 in
theorem law9 (a : Option Addr) (l c : Nat) (names : List (List UInt8)) (w : World) (hl : names.length = l) (hm : l ≤ maxLen) (hs : SN w a names) (hk : ∀ x ∈ names, x.length ≤ maxLen) :
    Calls Try.prog 9 #[.slice a l c] w fun e w' => e = .returned (.bool true) ∧ Below w.heap.size w w' := by
  have hmm := @run_makeMap Try.prog
  obtain ⟨i0, hi, hz0, hz1, hz2⟩ := info_parts Try.info9
  have HL := hide hl
  have HM := hide hm
  have HS := hide hs
  have HK := hide hk
  clear hl hs hk hm
  by_cases hbig : 65536 < l
  · have hd : decide ((65536 : Int) < (l : Int)) = true := by simp; omega
    go_enter Try.func9, Try.ntmps9
    go_wp2_with fail
    refine (bytes30 a l c names w HL.out HM.out HS.out HK.out).mono ?_
    rintro e w' ⟨⟨b, rfl⟩, hw⟩
    obtain rfl := hw.symm
    cases b <;> go_wp2_with fail
    all_goals
      go_ret
      exact ⟨rfl, Below.refl _ _⟩
  have hd : decide ((65536 : Int) < (l : Int)) = false := by simp; omega
  go_enter Try.func9, Try.ntmps9
  go_wp2_with fail
  refine (bytes30 a l c names w HL.out HM.out HS.out HK.out).mono ?_
  rintro e w' ⟨⟨b, rfl⟩, hw⟩
  obtain rfl := hw.symm
  cases b
  · go_wp2_with fail
    go_ret
    exact ⟨rfl, Below.refl _ _⟩
  go_wp2_with fail
  refine (names22 a l c names w HL.out (by omega) HS.out HK.out).mono ?_
  rintro e w' ⟨⟨t, ht, rfl⟩, hw⟩
  obtain rfl := hw.symm
  by_cases htb : 1048576 < t
  · have hd2 : decide ((1048576 : Int) < (t : Int)) = true := by simp; omega
    go_wp2_with fail
    go_ret
    exact ⟨rfl, Below.refl _ _⟩
  have hd2 : decide ((1048576 : Int) < (t : Int)) = false := by simp; omega
  go_wp2_with (first
    | (at_make; refine wpList_make_full _ rfl _ _ 60 rfl (w.heap.size + 1) 9 i0 (.string ByteArray.empty) 1 Try.underlying60 hi hz0 hz1 .i64 .i64 _ _ 0 rfl rfl rfl rfl ?_ ?_ ?_ ?_; omega; unfold maxLen; omega; simp; intro w1 hown hgrow; have HB1 : Hid (Below w.heap.size w w1) := ((Below.refl _ _).alloc (Nat.le_refl _) _).grown hgrow (by simp) (by simp); have HO1 := hide hown; have HN1 := hide ((mapN_made w).kept hgrow (by simp)); clear hown hgrow))
  obtain ⟨mb, hmb⟩ : ∃ mb, w.heap.size = mb := ⟨_, rfl⟩
  have HO2 : Hid (w1.ownsRow (mb + 1) 9 1 (.slice (some ⟨mb + 1, 0, none⟩) 0 0) 0 []) := by
    have h := HO1.out
    rw [show (w.alloc (Obj.map #[] 0)).heap.size = mb + 1 by simp [hmb], hmb] at h
    generalize (madeCells (Value.string ByteArray.empty).cells (0 * 1)).toList = zs at h
    obtain rfl : zs = [] := List.eq_nil_of_length_eq_zero (by simpa using h.1)
    exact h
  rw [hmb] at HN1
  rw [hmb]
  have HMB : Hid (w.heap.size ≤ mb) := by rw [hmb]; exact Nat.le_refl mb
  clear hmb ht htb hd2
  go_loopw [4, 22] (fun v i wr => ∃ k : Nat, k ≤ l ∧ i = .int .i64 k ∧ Hid (Below w.heap.size w wr) ∧ Hid (MapN wr mb k (filed names k)) ∧ Hid (wr.ownsRow (mb + 1) 9 1 v (filed names k).length ((filed names k).map sV))) (fun _ i _ => l - (intOf i).toNat)
  case atStart => exact ⟨0, Nat.zero_le _, rfl, HB1, HN1, HO2⟩
  case round =>
    clear HB1 HN1 HO1 HO2
    obtain ⟨k, hk, rfl, hb, hmap, hrow⟩ := hrel
    by_cases hlt : k < l
    · have hkn : k < names.length := by have := HL.out; omega
      obtain ⟨b, off, rfl, _⟩ := HS.out.some (by omega)
      have g := (HS.out.below hb.out).cell k hkn
      have hxl := HK.out _ (List.getElem_mem hkn)
      have hsu := filed_succ names k hkn
      have hLk := filed_len names k
      obtain ⟨x, hx⟩ : ∃ x, names[k] = x := ⟨_, rfl⟩
      obtain ⟨L, hL⟩ : ∃ L, filed names k = L := ⟨_, rfl⟩
      rw [hx] at g hxl hsu
      rw [hL] at hsu hmap hrow hLk
      have HSU := hide hsu
      have HX := hide hx
      clear hx hL hsu
      go_wp2_with fail
      refine (ZZnumberOf31 mb k L x wr hmap.out (by omega) hxl).mono ?_
      rintro e w1 ⟨rfl, hm1, hg1⟩
      have HM1 := hide hm1
      have HR1 := hide (hrow.out.kept hg1 (.inr fun h => by have := (hrow.out.lt _ h).1; omega))
      have HB1 := hide (hb.out.grown hg1 hb.out.size (fun j hj => by cases hj; exact HMB.out))
      clear hm1 hg1 hmap hrow hb
      by_cases hx : x ∈ L
      · rw [addName_old hx]
        rw [addName_old hx] at HM1 HSU
        have hq := List.idxOf_lt_length_of_mem hx
        have hgq : L[L.idxOf x] = x := List.getElem_idxOf hq
        obtain ⟨va, vc, hv, hsc⟩ := own_shape HR1.out
        rw [hv] at HR1 ⊢
        obtain ⟨vb, vo, rfl, _⟩ := SN.some (names := L) hsc (by omega)
        have q1 := SN.cell (names := L) hsc _ hq
        rw [hgq] at q1
        obtain ⟨q, hqe⟩ : ∃ q, L.idxOf x = q := ⟨_, rfl⟩
        obtain ⟨n, hn⟩ : ∃ n, L.length = n := ⟨_, rfl⟩
        have HN := hide hn
        have HR2 : Hid (w1.ownsRow (mb + 1) 9 1 (.slice (some ⟨vb, vo, none⟩) L.length vc) L.length (L.map sV)) := HR1
        rw [hqe] at q1 hq ⊢
        rw [hn] at hq hLk ⊢
        have g1 := (HS.out.below HB1.out).cell k hkn
        rw [HX.out] at g1
        clear hqe hn hgq hsc hv hx HR1
        have hqk : q < 65536 := by omega
        have hnk : n ≤ 65536 := by omega
        have hne : (decide ((q : Int) = (n : Int))) = false := by simp; omega
        have hls : (decide ((q : Int) < (n : Int))) = true := by simp; omega
        go_wp2
        go_quiet (fail)
        go_wp2
        go_roundw
        case rel =>
          refine ⟨k + 1, by omega, by go_num, below_drewN HB1.out _, ?_, ?_⟩
          · show MapN _ _ _ (filed names (k + 1))
            rw [HSU.out]
            exact HM1.out.below (below_drewN (Below.refl _ _) _)
          · show World.ownsRow _ _ _ _ _ (filed names (k + 1)).length ((filed names (k + 1)).map sV)
            rw [HSU.out]
            rw [HN.out] at HR2 ⊢
            exact owns_below HR2.out (below_drewN (Below.refl _ _) _)
        case measure => simp [intOf]; omega
      · have e2 : (L ++ [x]).idxOf x = L.length := by rw [List.idxOf_append]; simp [hx]
        rw [addName_new hx, e2]
        rw [addName_new hx] at HM1 HSU
        obtain ⟨va, vc, hv, _⟩ := own_shape HR1.out
        rw [hv] at HR1 ⊢
        have g1 := (HS.out.below HB1.out).cell k hkn
        rw [HX.out] at g1
        obtain ⟨n, hn⟩ : ∃ n, L.length = n := ⟨_, rfl⟩
        have HN := hide hn
        have HR2 : Hid (w1.ownsRow (mb + 1) 9 1 (.slice va n vc) n (L.map sV)) := by rw [← hn]; exact HR1
        rw [hn] at hLk ⊢
        clear hn hv e2 HR1 hx
        have hnk : n ≤ 65536 := by omega
        have hsz := HB1.out.size
        have HMW : Hid (mb + 1 ≤ w1.heap.size) := by
          obtain ⟨D, ho, _⟩ := HM1.out
          exact ho.lt
        go_wp2_with (first
          | (at_builtin; refine wpList_append_own _ rfl _ _ 60 rfl (mb + 1) 9 i0 (.string ByteArray.empty) 1 16 Try.underlying60 hi hz0 hz1 hz2 rfl (by decide) (.slice va n vc) _ _ rfl (HR2.out.alloc _) ⟨w1.heap.size, 0, none⟩ 1 1 [sV x] rfl rfl (cell_one_new _ _ _) (one_str x) ?_ ?_ ?_ ?_; unfold maxLen; omega; omega; (have := HMW.out; simp; omega); intro v2 w2 hown2 hgrow2 _; have HO2 := hide hown2; have HG2 := hide hgrow2; clear hown2 hgrow2))
        go_roundw
        case rel =>
          have hin : ∀ j, (Value.slice va n vc).ownBlock = some j → mb + 1 ≤ j := fun j hj => (HR2.out.lt j hj).1
          have hbA : Below w1.heap.size w1 (w1.alloc (.cells #[sV x] 9)) := (Below.refl _ _).alloc (Nat.le_refl _) _
          refine ⟨k + 1, by omega, by go_num, ?_, ?_, ?_⟩
          · exact (HB1.out.trans (hbA.mono hsz)).grown HG2.out (by simp; omega) (fun j hj => by have := hin j hj; have := HMB.out; omega)
          · show MapN _ _ _ (filed names (k + 1))
            rw [HSU.out]
            exact (HM1.out.below hbA).kept HG2.out (fun h => by have := hin mb h.symm; omega)
          · show World.ownsRow _ _ _ _ _ (filed names (k + 1)).length ((filed names (k + 1)).map sV)
            rw [HSU.out, List.length_append, List.map_append, HN.out]
            exact HO2.out
        case measure => simp [intOf]; omega
    · obtain rfl : k = l := by omega
      have hLk := filed_len names k
      have HMem : Hid (∀ i (h : i < names.length), names[i] ∈ filed names k) := fun i h => filed_mem names k i h (by have := HL.out; omega)
      obtain ⟨L, hL⟩ : ∃ L, filed names k = L := ⟨_, rfl⟩
      rw [hL] at hmap hrow hLk HMem
      obtain ⟨va, vc, rfl, _⟩ := own_shape hrow.out
      obtain ⟨n, hn⟩ : ∃ n, L.length = n := ⟨_, rfl⟩
      have HN := hide hn
      have HR2 : Hid (wr.ownsRow (mb + 1) 9 1 (.slice va n vc) n (L.map sV)) := by rw [← hn]; exact hrow
      have hlen : ∀ ty, (Builtin.len_ #[63] ty #[.map (some mb)]).run Try.prog wr = .ok (.int .i64 (n : Int)) wr := fun ty => by rw [← hn]; exact hmap.out.len ty
      rw [hn] at hLk ⊢
      clear hL hn hrow
      have hnk : n ≤ 65536 := by omega
      go_wp2_with fail
      clear hlen
      go_loopw [67] (fun i wr => ∃ j : Nat, j ≤ k ∧ i = .int .i64 j ∧ Hid (Below w.heap.size w wr) ∧ Hid (MapN wr mb (k + j) L) ∧ Hid (wr.ownsRow (mb + 1) 9 1 (.slice va n vc) n (L.map sV))) (fun i _ => k - (intOf i).toNat)
      case atStart => exact ⟨0, Nat.zero_le _, rfl, hb, hmap, HR2⟩
      case round =>
        clear hb hmap HR2
        obtain ⟨j, hj, rfl, hb, hmap, hrow⟩ := hrel
        by_cases hlt2 : j < k
        · have hkn : j < names.length := by have := HL.out; omega
          obtain ⟨b, off, rfl, _⟩ := HS.out.some (by omega)
          have g := (HS.out.below hb.out).cell j hkn
          have hxl := HK.out _ (List.getElem_mem hkn)
          have hx := HMem.out j hkn
          obtain ⟨x, hxe⟩ : ∃ x, names[j] = x := ⟨_, rfl⟩
          rw [hxe] at g hxl hx
          have HX := hide hxe
          clear hxe
          go_wp2_with fail
          refine (ZZnumberOf31 mb (k + j) L x _ hmap.out (by omega) hxl).mono ?_
          rintro e w1 ⟨rfl, hm1, hg1⟩
          rw [addName_old hx] at hm1 ⊢
          have HM1 := hide hm1
          have HR1 := hide (hrow.out.kept hg1 (.inr fun h => by have := (hrow.out.lt _ h).1; omega))
          have HB1 := hide (hb.out.grown hg1 hb.out.size (fun j hj => by cases hj; exact HMB.out))
          clear hm1 hg1 hmap hrow hb
          have hq := List.idxOf_lt_length_of_mem hx
          have hgq : L[L.idxOf x] = x := List.getElem_idxOf hq
          obtain ⟨va', vc', hv, hsc⟩ := own_shape HR1.out
          cases hv
          obtain ⟨vb, vo, rfl, _⟩ := SN.some (names := L) hsc (by omega)
          have q1 := SN.cell (names := L) hsc _ hq
          rw [hgq] at q1
          obtain ⟨q, hqe⟩ : ∃ q, L.idxOf x = q := ⟨_, rfl⟩
          rw [hqe] at q1 hq ⊢
          rw [HN.out] at hq
          have g1 := (HS.out.below HB1.out).cell j hkn
          rw [HX.out] at g1
          clear hqe hgq hsc hx
          have hqk : q < 65536 := by omega
          have hge : decide (IntKind.u64.wrap (n : Int) ≤ IntKind.u64.wrap (q : Int)) = false := by rw [wrap64 n (by omega), wrap64 q (by omega)]; simp; omega
          go_wp2
          go_quiet (fail)
          go_wp2
          go_roundw
          case rel =>
            refine ⟨j + 1, by omega, by go_num, below_drewN HB1.out _, ?_, ?_⟩
            · exact HM1.out.below (below_drewN (Below.refl _ _) _)
            · exact owns_below HR1.out (below_drewN (Below.refl _ _) _)
          case measure => simp [intOf]; omega
        · have hlen : ∀ ty, (Builtin.len_ #[63] ty #[.map (some mb)]).run Try.prog wr = .ok (.int .i64 (n : Int)) wr := fun ty => by rw [← HN.out]; exact hmap.out.len ty
          go_wp2
          go_ret
          exact ⟨rfl, hb.out⟩
end Go.Proofs.Qxb6607685a
