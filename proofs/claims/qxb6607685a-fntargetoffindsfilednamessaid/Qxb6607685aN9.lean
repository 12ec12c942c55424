import Derived.Test.Qxb6607685aN8
import Derived.Deep.RegionHeld3
namespace Go.Proofs.Qxb6607685a
open Go.RowKit Go.Maps Go.WideMaps
set_option linter.unusedVariables false
set_option linter.unusedSimpArgs false

/-- The service, its two maps filed. -/
structure Svc (w : World) (sb ma mr : Nat) (A R : List (List UInt8)) : Prop where
  lt : sb < w.heap.size
  c3 : w.cell? ⟨sb, 3, none⟩ = some (.map (some mr))
  c4 : w.cell? ⟨sb, 4, none⟩ = some (.map (some ma))
  mA : MapN w ma A.length (filed A A.length)
  mR : MapN w mr R.length (filed R R.length)

theorem Svc.below {w w' : World} {sb ma mr : Nat} {A R : List (List UInt8)} (h : Svc w sb ma mr A R) (hb : Below w.heap.size w w') : Svc w' sb ma mr A R :=
  ⟨Nat.lt_of_lt_of_le h.lt hb.size, by rw [hb.cell (by exact h.lt)]; exact h.c3, by rw [hb.cell (by exact h.lt)]; exact h.c4, h.mA.below hb, h.mR.below hb⟩

theorem svc_ask {w : World} {sb ma mr : Nat} {A R : List (List UInt8)} (h : Svc w sb ma mr A R) (x y : List UInt8) (hx : x.length ≤ maxLen) (hy : y.length ≤ maxLen) (q r : Nat) (b : Bool)
    (hq : numOf (filed A A.length) x = q) (hr : (if (filed A A.length).contains x then numOf (filed R R.length) y else 0) = r) (hb : ((filed A A.length).contains x && (filed R R.length).contains y) = b) :
    Calls Try.prog 25 #[.pointer (some ⟨sb, 0, none⟩), .string ⟨x.toArray⟩, .string ⟨y.toArray⟩] w fun e w' => e = .returned (.tuple #[.int .u32 (q : Nat), .int .u32 (r : Nat), .bool b]) ∧ Below w.heap.size w w' := by
  subst hq hr hb
  exact ZZtargetOf25 sb ma mr _ _ _ _ x y w h.lt h.c3 h.c4 h.mA h.mR hx hy

theorem has_filed (names : List (List UInt8)) (i : Nat) (hi : i < names.length) : (filed names names.length).contains names[i] = true := by
  simpa using filed_mem names names.length i hi hi

theorem svc_both {w : World} {sb ma mr : Nat} {A R : List (List UInt8)} (h : Svc w sb ma mr A R) (i j : Nat) (hi : i < A.length) (hj : j < R.length) (hx : A[i].length ≤ maxLen) (hy : R[j].length ≤ maxLen) :
    Calls Try.prog 25 #[.pointer (some ⟨sb, 0, none⟩), .string ⟨A[i].toArray⟩, .string ⟨R[j].toArray⟩] w fun e w' => e = .returned (.tuple #[.int .u32 (rk A A[i] : Nat), .int .u32 (rk R R[j] : Nat), .bool true]) ∧ Below w.heap.size w w' :=
  svc_ask h _ _ hx hy _ _ _ (numOf_filed A i hi) (by rw [has_filed A i hi, if_pos rfl, numOf_filed R j hj]) (by rw [has_filed A i hi, has_filed R j hj]; rfl)

theorem svc_noR {w : World} {sb ma mr : Nat} {A : List (List UInt8)} (h : Svc w sb ma mr A []) (i : Nat) (hi : i < A.length) (hx : A[i].length ≤ maxLen) :
    Calls Try.prog 25 #[.pointer (some ⟨sb, 0, none⟩), .string ⟨A[i].toArray⟩, .string ⟨#[]⟩] w fun e w' => e = .returned (.tuple #[.int .u32 (rk A A[i] : Nat), .int .u32 0, .bool false]) ∧ Below w.heap.size w w' :=
  svc_ask h _ [] hx (Nat.zero_le _) _ 0 _ (numOf_filed A i hi) (by rw [has_filed A i hi]; rfl) (by rw [has_filed A i hi]; rfl)

theorem svc_noA {w : World} {sb ma mr : Nat} {R : List (List UInt8)} (h : Svc w sb ma mr [] R) (j : Nat) (hj : j < R.length) (hy : R[j].length ≤ maxLen) :
    Calls Try.prog 25 #[.pointer (some ⟨sb, 0, none⟩), .string ⟨#[]⟩, .string ⟨R[j].toArray⟩] w fun e w' => e = .returned (.tuple #[.int .u32 0, .int .u32 0, .bool false]) ∧ Below w.heap.size w w' :=
  svc_ask h [] _ (Nat.zero_le _) hy 0 0 _ rfl rfl rfl

set_option maxRecDepth 100000 in
set_option maxHeartbeats 4000000 in
theorem law7 (a : Option Addr) (l c : Nat) (A : List (List UInt8)) (a2 : Option Addr) (l2 c2 : Nat) (R : List (List UInt8)) (w : World) (hl : A.length = l) (hm : l ≤ maxLen) (hs : SN w a A) (hk : ∀ x ∈ A, x.length ≤ maxLen)
    (hl2 : R.length = l2) (hm2 : l2 ≤ maxLen) (hs2 : SN w a2 R) (hk2 : ∀ x ∈ R, x.length ≤ maxLen) :
    Calls Try.prog 7 #[.slice a l c, .slice a2 l2 c2] w fun e w' => e = .returned (.bool true) ∧ Below w.heap.size w w' := by
  have HL := hide hl
  have HM := hide hm
  have HS := hide hs
  have HK := hide hk
  have HL2 := hide hl2
  have HM2 := hide hm2
  have HS2 := hide hs2
  have HK2 := hide hk2
  clear hl hs hk hm hl2 hs2 hk2 hm2
  by_cases hbig : 65536 < l ∨ 65536 < l2
  · by_cases hb1 : 65536 < l
    · have hd : decide ((65536 : Int) < (l : Int)) = true := by simp; omega
      go_enter Try.func7, Try.ntmps7
      go_wp2_with fail
      refine (bytes28 a l c A a2 l2 c2 R w HL.out HM.out HS.out HK.out HL2.out HM2.out HS2.out HK2.out).mono ?_
      rintro e w' ⟨⟨b, rfl⟩, hw⟩
      obtain rfl := hw.symm
      cases b <;> go_wp2_with fail
      all_goals
        go_ret
        exact ⟨rfl, Below.refl _ _⟩
    · have hd : decide ((65536 : Int) < (l : Int)) = false := by simp; omega
      have hd2 : decide ((65536 : Int) < (l2 : Int)) = true := by simp; omega
      clear hbig
      go_enter Try.func7, Try.ntmps7
      go_wp2_with fail
      refine (bytes28 a l c A a2 l2 c2 R w HL.out HM.out HS.out HK.out HL2.out HM2.out HS2.out HK2.out).mono ?_
      rintro e w' ⟨⟨b, rfl⟩, hw⟩
      obtain rfl := hw.symm
      cases b <;> go_wp2_with fail
      all_goals
        go_ret
        exact ⟨rfl, Below.refl _ _⟩
  have hd : decide ((65536 : Int) < (l : Int)) = false := by simp; omega
  have hd2 : decide ((65536 : Int) < (l2 : Int)) = false := by simp; omega
  have hb1 : l ≤ 65536 := by omega
  have hb2 : l2 ≤ 65536 := by omega
  clear hbig
  go_enter Try.func7, Try.ntmps7
  go_wp2_with fail
  refine (bytes28 a l c A a2 l2 c2 R w HL.out HM.out HS.out HK.out HL2.out HM2.out HS2.out HK2.out).mono ?_
  rintro e w' ⟨⟨b, rfl⟩, hw⟩
  obtain rfl := hw.symm
  cases b
  · go_wp2_with fail
    go_ret
    exact ⟨rfl, Below.refl _ _⟩
  go_wp2_with fail
  refine (names22 a l c A w HL.out (by omega) HS.out HK.out).mono ?_
  rintro e w' ⟨⟨t, ht, rfl⟩, hw⟩
  obtain rfl := hw.symm
  go_wp2_with fail
  refine (names22 a2 l2 c2 R w HL2.out (by omega) HS2.out HK2.out).mono ?_
  rintro e w' ⟨⟨t2, ht2, rfl⟩, hw⟩
  obtain rfl := hw.symm
  by_cases htb : 1048576 < t + t2
  · have hd3 : decide ((1048576 : Int) < (t : Int) + (t2 : Int)) = true := by simp; omega
    go_wp2_with fail
    go_ret
    exact ⟨rfl, Below.refl _ _⟩
  have hd3 : decide ((1048576 : Int) < (t : Int) + (t2 : Int)) = false := by simp; omega
  go_wp2_with fail
  refine (fileAll23 a l c A w HL.out hb1 HS.out HK.out).mono ?_
  rintro e w1 ⟨ma, ga, rfl, hmA, hnA, hbw1, _, _, _⟩
  have HMA := hide hmA
  have HNA := hide hnA
  have HB1 := hide hbw1
  clear hmA hnA hbw1 ht ht2 htb hd3
  go_wp2_with fail
  refine (fileAll23 a2 l2 c2 R w1 HL2.out hb2 (HS2.out.below HB1.out) HK2.out).mono ?_
  rintro e w2 ⟨mr, gr, rfl, hmR, hnR, hbw2, _, _, _⟩
  have HMA2 := hide (HMA.out.below hbw2)
  have HNA2 := hide (HNA.out.below hbw2)
  have HB2 := hide (HB1.out.trans (hbw2.mono HB1.out.size))
  have HMR := hide hmR
  have HNR := hide hnR
  clear hmR hnR hbw2 HMA HNA HB1
  go_wp2_with fail
  refine (newService24 ma mr w2).mono ?_
  rintro e w3 ⟨sb, rfl, hsb, hc3, hc4, hbw3⟩
  have HSv : Hid (Svc w3 sb ma mr A R) := by
    refine ⟨hsb, hc3, hc4, ?_, ?_⟩
    · rw [HL.out]; exact HMA2.out.below hbw3
    · rw [HL2.out]; exact HMR.out.below hbw3
  have HNA3 := hide (HNA2.out.below hbw3)
  have HNR3 := hide (HNR.out.below hbw3)
  have HB3 := hide (HB2.out.trans (hbw3.mono HB2.out.size))
  clear hsb hc3 hc4 hbw3 HMA2 HNA2 HMR HNR HB2
  go_wp2_with fail
  go_loopw [57] (fun i wr => ∃ k : Nat, k ≤ l ∧ i = .int .i64 k ∧ Hid (Below w3.heap.size w3 wr)) (fun i _ => l - (intOf i).toNat)
  case atStart => exact ⟨0, Nat.zero_le _, rfl, Below.refl _ _⟩
  case round =>
    obtain ⟨k, hk, rfl, hbr⟩ := hrel
    by_cases hlt : k < l
    · have hkn : k < A.length := by have := HL.out; omega
      have HBr := hide (HB3.out.trans (hbr.out.mono HB3.out.size))
      obtain ⟨b, off, rfl, hbl⟩ := HS.out.some (by omega)
      have g := (HS.out.below HBr.out).cell k hkn
      have g1 := (HNA3.out.below hbr.out).nums k hkn
      have HSr := hide (HSv.out.below hbr.out)
      have hxl := HK.out _ (List.getElem_mem hkn)
      have hql := rk_lt A k hkn
      by_cases h0 : l2 = 0
      · have hR : R = [] := List.eq_nil_of_length_eq_zero (by rw [HL2.out]; exact h0)
        have HC := hide (svc_noR (by have := HSr.out; rwa [hR] at this) k hkn hxl)
        obtain ⟨x, hx⟩ : ∃ x, A[k] = x := ⟨_, rfl⟩
        rw [hx] at g g1 hql HC
        obtain ⟨q, hq⟩ : ∃ q, rk A x = q := ⟨_, rfl⟩
        rw [hq] at g1 hql HC
        have HG1 := hide g1
        clear hx hq hR hxl g1
        have hz1 : ((l2 : Int) == 0) = true := by simp [h0]
        clear h0
        go_wp2_with fail
        refine HC.out.mono ?_
        rintro e w4 ⟨rfl, hb4⟩
        have g1' : w4.cell? ⟨ga, k, none⟩ = some (.int .u32 (q : Nat)) := by
          rw [hb4.cell (by exact World.block_lt_of_cell? _ _ HG1.out)]; exact HG1.out
        have HB4 := hide (hbr.out.trans (hb4.mono hbr.out.size))
        clear hb4 HC
        go_wp2
        go_roundw
        case rel => exact ⟨k + 1, by omega, by go_num, HB4⟩
        case measure => simp [intOf]; omega
      · have hz1 : ((l2 : Int) == 0) = false := by simp [h0]
        have hjn : 0 < R.length := by have := HL2.out; omega
        have h2p : 0 < l2 := by omega
        obtain ⟨b2, off2, rfl, hbl2⟩ := HS2.out.some hjn
        have g2 := (HS2.out.below HBr.out).cell 0 hjn
        have g3 := (HNR3.out.below hbr.out).nums 0 hjn
        have hyl := HK2.out _ (List.getElem_mem hjn)
        have hrl := rk_lt R 0 hjn
        have HC := hide (svc_both (HSr.out.below (Below.refl wr.heap.size wr).drew) k 0 hkn hjn hxl hyl)
        obtain ⟨x, hx⟩ : ∃ x, A[k] = x := ⟨_, rfl⟩
        obtain ⟨y, hy⟩ : ∃ y, R[0] = y := ⟨_, rfl⟩
        rw [hx] at g g1 hql HC
        rw [hy] at g2 g3 hrl HC
        rw [Nat.add_zero] at g2
        obtain ⟨q, hq⟩ : ∃ q, rk A x = q := ⟨_, rfl⟩
        obtain ⟨r, hr⟩ : ∃ r, rk R y = r := ⟨_, rfl⟩
        rw [hq] at g1 hql HC
        rw [hr] at g3 hrl HC
        have HG := hide g
        have HG1 := hide g1
        have HG2 := hide g2
        have HG3 := hide g3
        clear hx hy hq hr hxl hyl g1 g3 h0 hbl hbl2
        go_wp2_with fail
        go_region_held3 (fun w' => w'.cell? ⟨b, off + k, none⟩ = some (.string ⟨x.toArray⟩) ∧ w'.cell? ⟨b2, off2, none⟩ = some (.string ⟨y.toArray⟩)) (go_keep)
          (first
          | (go_at_call 25; refine HC.out.mono ?_; rintro e w4 ⟨rfl, hb4⟩; have hb5 : Below wr.heap.size wr w4 := (Below.refl _ _).drew.trans hb4; have g' := (hb5.cell (by exact World.block_lt_of_cell? _ _ HG.out)).trans HG.out; have g1' := (hb5.cell (by exact World.block_lt_of_cell? _ _ HG1.out)).trans HG1.out; have g2' := (hb5.cell (by exact World.block_lt_of_cell? _ _ HG2.out)).trans HG2.out; have g3' := (hb5.cell (by exact World.block_lt_of_cell? _ _ HG3.out)).trans HG3.out; have HB4 := hide (hbr.out.trans (hb5.mono hbr.out.size)); clear hb4 hb5))
        go_wp2
        go_roundw
        case rel => exact ⟨k + 1, by omega, by go_num, HB4⟩
        case measure => simp [intOf]; omega
    · obtain rfl : k = l := by omega
      have HB5 := hide (HB3.out.trans (hbr.out.mono HB3.out.size))
      have HSv5 := hide (HSv.out.below hbr.out)
      have HNA5 := hide (HNA3.out.below hbr.out)
      have HNR5 := hide (HNR3.out.below hbr.out)
      clear HB3 HSv HNA3 HNR3 hbr
      obtain ⟨w5, hw5⟩ : ∃ w' : World, w' = wr := ⟨_, rfl⟩
      subst hw5
      go_wp2_with fail
      go_loopw [119] (fun i wr => ∃ j : Nat, j ≤ l2 ∧ i = .int .i64 j ∧ Hid (Below w5.heap.size w5 wr)) (fun i _ => l2 - (intOf i).toNat)
      case atStart => exact ⟨0, Nat.zero_le _, rfl, Below.refl _ _⟩
      case round =>
        obtain ⟨j, hj, rfl, hbr⟩ := hrel
        by_cases hlt2 : j < l2
        · have hjn : j < R.length := by have := HL2.out; omega
          have HBr := hide (HB5.out.trans (hbr.out.mono HB5.out.size))
          obtain ⟨b2, off2, rfl, hbl2⟩ := HS2.out.some (by omega)
          have g2 := (HS2.out.below HBr.out).cell j hjn
          have g3 := (HNR5.out.below hbr.out).nums j hjn
          have HSr := hide (HSv5.out.below hbr.out)
          have hyl := HK2.out _ (List.getElem_mem hjn)
          have hrl := rk_lt R j hjn
          by_cases h0 : k = 0
          · have hA : A = [] := List.eq_nil_of_length_eq_zero (by rw [HL.out]; exact h0)
            have HC := hide (svc_noA (by have := HSr.out; rwa [hA] at this) j hjn hyl)
            obtain ⟨y, hy⟩ : ∃ y, R[j] = y := ⟨_, rfl⟩
            rw [hy] at g2 HC
            have hz1 : ((k : Int) == 0) = true := by simp [h0]
            clear hy hA hyl g3 hrl h0
            go_wp2_with fail
            refine HC.out.mono ?_
            rintro e w6 ⟨rfl, hb6⟩
            have HB6 := hide (hbr.out.trans (hb6.mono hbr.out.size))
            clear hb6 HC
            go_wp2
            go_roundw
            case rel => exact ⟨j + 1, by omega, by go_num, HB6⟩
            case measure => simp [intOf]; omega
          · have hz1 : ((k : Int) == 0) = false := by simp [h0]
            have hkn : 0 < A.length := by have := HL.out; omega
            have h1p : 0 < k := by omega
            obtain ⟨b, off, rfl, hbl⟩ := HS.out.some hkn
            have g := (HS.out.below HBr.out).cell 0 hkn
            have g1 := (HNA5.out.below hbr.out).nums 0 hkn
            have hxl := HK.out _ (List.getElem_mem hkn)
            have hql := rk_lt A 0 hkn
            have HC := hide (svc_both (HSr.out.below (Below.refl wr.heap.size wr).drew) 0 j hkn hjn hxl hyl)
            obtain ⟨x, hx⟩ : ∃ x, A[0] = x := ⟨_, rfl⟩
            obtain ⟨y, hy⟩ : ∃ y, R[j] = y := ⟨_, rfl⟩
            rw [hx] at g g1 hql HC
            rw [hy] at g2 g3 hrl HC
            rw [Nat.add_zero] at g
            obtain ⟨q, hq⟩ : ∃ q, rk A x = q := ⟨_, rfl⟩
            obtain ⟨r, hr⟩ : ∃ r, rk R y = r := ⟨_, rfl⟩
            rw [hq] at g1 hql HC
            rw [hr] at g3 hrl HC
            have HG := hide g
            have HG1 := hide g1
            have HG2 := hide g2
            have HG3 := hide g3
            clear hx hy hq hr hxl hyl g1 g3 h0 hbl hbl2
            go_wp2_with fail
            go_region_held3 (fun w' => w'.cell? ⟨b, off, none⟩ = some (.string ⟨x.toArray⟩) ∧ w'.cell? ⟨b2, off2 + j, none⟩ = some (.string ⟨y.toArray⟩)) (go_keep)
              (first
              | (go_at_call 25; refine HC.out.mono ?_; rintro e w6 ⟨rfl, hb6⟩; have hb7 : Below wr.heap.size wr w6 := (Below.refl _ _).drew.trans hb6; have g' := (hb7.cell (by exact World.block_lt_of_cell? _ _ HG.out)).trans HG.out; have g1' := (hb7.cell (by exact World.block_lt_of_cell? _ _ HG1.out)).trans HG1.out; have g2' := (hb7.cell (by exact World.block_lt_of_cell? _ _ HG2.out)).trans HG2.out; have g3' := (hb7.cell (by exact World.block_lt_of_cell? _ _ HG3.out)).trans HG3.out; have HB6 := hide (hbr.out.trans (hb7.mono hbr.out.size)); clear hb6 hb7))
            go_wp2
            go_roundw
            case rel => exact ⟨j + 1, by omega, by go_num, HB6⟩
            case measure => simp [intOf]; omega
        · go_wp2
          go_ret
          exact ⟨rfl, HB5.out.trans (hbr.out.mono HB5.out.size)⟩
end Go.Proofs.Qxb6607685a
