import Derived.Test.Qxb6605987aB8
namespace Go.Proofs.Qxb6605987a
open Go.RowKit
set_option linter.unusedVariables false
set_option linter.unusedSimpArgs false

theorem SB.len0 {w : World} {a : Option Addr} {bs : List UInt8} (h : SB w a bs) (ha : a = none) : bs.length = 0 := by
  subst ha
  rcases h with h | ⟨b, off, e, _⟩
  · simpa using h
  · cases e

theorem cellsNew (W : World) (a b c : Array Value) (t1 t2 t3 : TypeId) (i : Nat) :
    (((W.alloc (.cells a t1)).alloc (.cells b t2)).alloc (.cells c t3)).cell? ⟨W.heap.size, i, none⟩ = a[i]? ∧ (((W.alloc (.cells a t1)).alloc (.cells b t2)).alloc (.cells c t3)).cell? ⟨W.heap.size + 1, i, none⟩ = b[i]? ∧
    (((W.alloc (.cells a t1)).alloc (.cells b t2)).alloc (.cells c t3)).cell? ⟨W.heap.size + 1 + 1, i, none⟩ = c[i]? :=
  ⟨(three W _ rfl a b c t1 t2 t3 i).1, (three W _ rfl a b c t1 t2 t3 i).2.1, (three W _ rfl a b c t1 t2 t3 i).2.2.1⟩

theorem beq_swap (a b : List UInt8) : (a == b) = (b == a) := by
  rw [Bool.eq_iff_iff]
  constructor <;> (intro h; have := eq_of_beq h; subst this; exact beq_self_eq_true _)

theorem conv_one (w : World) (z : Nat) (hz : z < 256) :
    (convert 22 9 (.slice (some ⟨w.heap.size, 0, none⟩) 1 1)).run Try.prog (w.alloc (.cells #[.int .u8 z] 5)) = .ok (.string ⟨[UInt8.ofNat z].toArray⟩) (w.alloc (.cells #[.int .u8 z] 5)) := by
  refine conv_str _ _ 1 1 [UInt8.ofNat z] rfl (by simp) (.inr ⟨w.heap.size, 0, rfl, by simp, fun i hi => ?_⟩)
  obtain rfl : i = 0 := by simp at hi; omega
  simp [cB]
  omega

theorem cat_one (key : List UInt8) (b : UInt8) : (({ data := key.toArray } : ByteArray) ++ { data := #[b] }) = { data := (key ++ [b]).toArray } := by
  apply ByteArray.ext
  simp [ByteArray.data_append]

theorem ne_snoc (key : List UInt8) (b : UInt8) : (key == key ++ [b]) = false := by
  rw [beq_eq_false_iff_ne]
  intro h
  have := congrArg List.length h
  simp at this

/-- A field table of one field. -/
theorem find1 (T : TabD) (fbs ubs key : List UInt8) (h : T.K = 1) : findFrom T fbs ubs key T.K 0 = if keyAt T fbs ubs 0 == key then some 0 else none := by
  rw [h]; rfl

theorem lists1 (w : World) (x y : Nat) (b1 b2 b3 : Nat) (h1 : b1 < w.heap.size) (h2 : b2 < w.heap.size) (h3 : b3 < w.heap.size) (c1 : w.cell? ⟨b1, 0, none⟩ = some (.int .u32 x)) (c2 : w.cell? ⟨b2, 0, none⟩ = some (.int .u32 y))
    (c3 : w.cell? ⟨b3, 0, none⟩ = some (.bool false)) : Lists w (some ⟨b1, 0, none⟩) (some ⟨b2, 0, none⟩) (some ⟨b3, 0, none⟩) 1 (fun _ => (x, y, false)) := by
  refine ⟨.inr ⟨b1, 0, rfl, h1, fun i hi => ?_⟩, .inr ⟨b2, 0, rfl, h2, fun i hi => ?_⟩, .inr ⟨b3, 0, rfl, h3, fun i hi => ?_⟩⟩
  · obtain rfl : i = 0 := by simp at hi; omega
    simpa using c1
  · obtain rfl : i = 0 := by simp at hi; omega
    simpa using c2
  · obtain rfl : i = 0 := by simp at hi; omega
    simpa using c3

theorem ZZkeyOf12_0 (T : TabD) (y : Nat) (fbs ubs : List UInt8) (w : World) (h : Tab w T) (hK : T.K = 1) (hT : Texts w T.fa T.fl T.fc T.ua T.ul T.uc fbs ubs) (hF : Fits T) (hy : (T.fs 0).2.1 = y) :
    Calls Try.prog 12 #[.pointer (some ⟨T.tb, 0, none⟩), .int .i64 0] w fun e w' => ∃ a' c', e = .returned (.slice a' y c') ∧ Below w.heap.size w w' ∧ SB w' a' (keyAt T fbs ubs 0) ∧ (a' = none → y = 0) := by
  subst hy
  exact ZZkeyOf12 T 0 fbs ubs w h (by omega) hT (hF 0 (by omega))

theorem given1 (T : TabD) (fbs ubs key : List UInt8) (q : Bool) (w : World) (h : Tab w T) (hF : Fits T) (hT : Texts w T.fa T.fl T.fc T.ua T.ul T.uc fbs ubs) (hK : T.K = 1) (htk : (T.fs 0).2.2 = false) (hq : (keyAt T fbs ubs 0 == key) = q) :
    Calls Try.prog 16 #[.pointer (some ⟨T.tb, 0, none⟩), .string ⟨key.toArray⟩] w fun e w' => e = .returned (.bool q) ∧ Below w.heap.size w w' := by
  have := given16_small T fbs ubs key w h hF hT (by omega)
  rw [find1 T fbs ubs key hK, hq] at this
  cases q
  · exact this
  · simpa [givenB, htk] using this

set_option maxRecDepth 100000 in
set_option maxHeartbeats 1000000 in
theorem law4_main (a0 : Option Addr) (l0 c0 : Nat) (a1 : Option Addr) (l1 c1 : Nat) (x y : Nat) (a4 : Option Addr) (l4 c4 : Nat) (z : Nat) (w : World) (fbs ubs obs : List UInt8)
    (h0 : l0 ≤ 262144) (h1 : l1 ≤ 262144) (h4 : l4 ≤ 262144) (hx : x < 4294967296) (hy : y < 4294967296) (hz : z < 256)
    (hf : SB w a0 fbs) (hfl : fbs.length = l0) (hfn : a0 = none → l0 = 0) (hu : SB w a1 ubs) (hul : ubs.length = l1) (hun : a1 = none → l1 = 0) (ho : SB w a4 obs) (hol : obs.length = l4) (hon : a4 = none → l4 = 0)
    (hsp : x + y ≤ l0 ∨ (l0 ≤ x ∧ x + y ≤ l0 + l1)) :
    Calls Try.prog 4 #[.slice a0 l0 c0, .slice a1 l1 c1, .int .u32 x, .int .u32 y, .slice a4 l4 c4, .int .u8 z] w fun e w' => e = .returned (.bool true) ∧ Below w.heap.size w w' := by
  have hspan : spanOk l0 l1 x y = true := by
    unfold spanOk
    rcases hsp with h | ⟨ha, hb⟩
    · simp; omega
    · simp; omega
  have HSP := hide hsp
  have HF := hide hf
  have HFL := hide hfl
  have HFN := hide hfn
  have HU := hide hu
  have HUL := hide hul
  have HUN := hide hun
  have HO := hide ho
  have HOL := hide hol
  have HON := hide hon
  clear hsp hf hfl hfn hu hul hun ho hol hon
  go_enter Try.func4, Try.ntmps4
  go_wp2_with fail
  refine (bytes15 a0 l0 c0 a1 l1 c1 x y a4 l4 c4 z w (by unfold maxLen; omega) (by unfold maxLen; omega) (by unfold maxLen; omega)).mono ?_
  rintro e w' ⟨⟨b, rfl⟩, hw⟩
  obtain rfl := hw.symm
  cases b
  · go_wp2_with fail
    go_ret
    exact ⟨rfl, Below.refl _ _⟩
  go_wp2_with fail
  refine (span8 l0 l1 x y w (by omega) (by omega) (by omega) (by omega) (by omega) (by omega)).mono ?_
  rintro e w' ⟨rfl, hw⟩
  obtain rfl := hw.symm
  go_wp2_with fail
  refine (clone9 a0 l0 c0 fbs w HFL.out (by omega) HFN.out HF.out).mono ?_
  rintro e w1 ⟨fa, fc, rfl, hs1, hb1, hl1, hm1⟩
  have HS1 := hide hs1
  have HB1 := hide hb1
  clear hs1 hb1
  go_wp2_with fail
  refine (clone9 a1 l1 c1 ubs w1 HUL.out (by omega) HUN.out (HU.out.below HB1.out)).mono ?_
  rintro e w2 ⟨ua, uc, rfl, hs2, hb2, hl2, hm2⟩
  have HT2 : Hid (Texts w2 fa l0 fc ua l1 uc fbs ubs) :=
    ⟨HS1.out.below hb2, hs2, HFL.out, HUL.out, fun h => by have := HS1.out.len0 h; have := HFL.out; omega, fun h => by have := hs2.len0 h; have := HUL.out; omega, hl1, hm1, hl2, hm2⟩
  have HB2 : Hid (Below w.heap.size w w2) := HB1.out.trans (hb2.mono HB1.out.size)
  clear hs2 hb2 HS1 HB1
  go_wp2_with fail
  have hcn := cellsNew w2 #[Value.int IntKind.u32 x] #[Value.int IntKind.u32 y] #[Value.bool false] 23 23 4 0
  have hLs : Lists (((w2.alloc (.cells #[.int .u32 x] 23)).alloc (.cells #[.int .u32 y] 23)).alloc (.cells #[.bool false] 4)) (some ⟨w2.heap.size, 0, none⟩) (some ⟨w2.heap.size + 1, 0, none⟩) (some ⟨w2.heap.size + 1 + 1, 0, none⟩) 1 (fun _ => (x, y, false)) :=
    lists1 _ x y _ _ _ (by simp; omega) (by simp) (by simp) hcn.1 hcn.2.1 hcn.2.2
  have hB3 : Below w2.heap.size w2 (((w2.alloc (.cells #[.int .u32 x] 23)).alloc (.cells #[.int .u32 y] 23)).alloc (.cells #[.bool false] 4)) := (((Below.refl _ _).alloc (Nat.le_refl _) _).alloc (by simp) _).alloc (by simp; omega) _
  have HT3 : Hid (Texts (((w2.alloc (.cells #[.int .u32 x] 23)).alloc (.cells #[.int .u32 y] 23)).alloc (.cells #[.bool false] 4)) fa l0 fc ua l1 uc fbs ubs) := HT2.out.below hB3
  have HB3 : Hid (Below w.heap.size w (((w2.alloc (.cells #[.int .u32 x] 23)).alloc (.cells #[.int .u32 y] 23)).alloc (.cells #[.bool false] 4))) := HB2.out.trans (hB3.mono HB2.out.size)
  have HLs := hide hLs
  clear hcn hLs hB3 HT2 HB2
  refine (table11_pos w2.heap.size 0 1 (w2.heap.size + 1) 0 1 (w2.heap.size + 1 + 1) 0 1 fa ua l0 fc l1 uc 1 (fun _ => (x, y, false)) _ (by omega) (by omega) HLs.out).mono ?_
  rintro e w3 ⟨T, rfl, hTab, hMade, hb3, eK, efs, efa, efl, efc, eua, eul, euc⟩
  have HT4 : Hid (Texts w3 T.fa T.fl T.fc T.ua T.ul T.uc fbs ubs) := by
    show Texts w3 T.fa T.fl T.fc T.ua T.ul T.uc fbs ubs
    rw [efa, efl, efc, eua, eul, euc]; exact HT3.out.below hb3
  have HF0 : Hid ((T.fs 0).1 = x ∧ (T.fs 0).2.1 = y ∧ (T.fs 0).2.2 = false) := by rw [efs]; exact ⟨rfl, rfl, rfl⟩
  have HFit : Hid (Fits T) := by
    intro i hi
    rw [eK] at hi
    obtain rfl : i = 0 := by omega
    rw [efs, efl, eul]; exact HSP.out
  have HK : Hid (T.K = 1) := eK
  have HTab := hide hTab
  have HB4 : Hid (Below w.heap.size w w3) := HB3.out.trans (hb3.mono HB3.out.size)
  clear hTab hMade hb3 eK efs efa efl efc eua eul euc HT3 HB3 HLs
  go_wp2_with fail
  refine (ZZkeyOf12_0 T y fbs ubs w3 HTab.out HK.out HT4.out HFit.out HF0.out.2.1).mono ?_
  rintro e w4 ⟨ka, kc, rfl, hb4, hks, hkn⟩
  have hkl : (keyAt T fbs ubs 0).length = y := (keyAt_len HT4.out HFit.out 0 (by rw [HK.out]; omega)).trans HF0.out.2.1
  obtain ⟨key, hkey⟩ : ∃ key, keyAt T fbs ubs 0 = key := ⟨_, rfl⟩
  have HKey := hide hkey
  rw [hkey] at hks hkl
  have hcv := conv_str w4 ka y kc key hkl hkn hks
  have HB5 : Hid (Below w.heap.size w w4) := HB4.out.trans (hb4.mono HB4.out.size)
  have HTab4 := hide (HTab.out.below hb4)
  have HT5 := hide (HT4.out.below hb4)
  have HKS := hide hks
  have HKL := hide hkl
  clear hb4 hks hkl hkn hkey HTab HT4 HB4
  go_wp2_with fail
  refine (given1 T fbs ubs key true w4 HTab4.out HFit.out HT5.out HK.out HF0.out.2.2 (by rw [HKey.out]; simp)).mono ?_
  rintro e w5 ⟨rfl, hb5⟩
  have HB6 : Hid (Below w.heap.size w w5) := HB5.out.trans (hb5.mono HB5.out.size)
  have HTab5 := hide (HTab4.out.below hb5)
  have HT6 := hide (HT5.out.below hb5)
  have HKS5 := hide (HKS.out.below hb5)
  have hcv5 := conv_str w5 a4 l4 c4 obs HOL.out HON.out (HO.out.below HB6.out)
  clear hb5 HTab4 HT5 HB5 HKS hcv
  obtain ⟨q, hq⟩ : ∃ q, (key == obs) = q := ⟨_, rfl⟩
  have HQ := hide hq
  clear hq
  go_wp2_with fail
  refine (given1 T fbs ubs obs q w5 HTab5.out HFit.out HT6.out HK.out HF0.out.2.2 (by rw [HKey.out]; exact HQ.out)).mono ?_
  rintro e w6 ⟨rfl, hb6⟩
  have HB7 : Hid (Below w.heap.size w w6) := HB6.out.trans (hb6.mono HB6.out.size)
  have HTab6 := hide (HTab5.out.below hb6)
  have HT7 := hide (HT6.out.below hb6)
  have HKS6 := hide (HKS5.out.below hb6)
  clear hb6 HTab5 HT6 HB6 HKS5 hcv5
  go_wp2_with fail
  refine (sameBytes13 w6 a4 ka l4 c4 y kc obs key (by omega) (by omega) HOL.out HKL.out (HO.out.below HB7.out) HKS6.out).mono ?_
  rintro e w7 ⟨rfl, hb7⟩
  have hqq : (obs == key) = q := by rw [← HQ.out]; exact beq_swap _ _
  rw [hqq]
  have HB8 : Hid (Below w.heap.size w w7) := HB7.out.trans (hb7.mono HB7.out.size)
  have HTab7 := hide (HTab6.out.below hb7)
  have HT8 := hide (HT7.out.below hb7)
  clear hb7 HTab6 HT7 HB7 HKS6 hqq
  have hnq : (q != q) = false := by simp
  have hcv7 := conv_one w7 z hz
  have hkb : key.length ≤ 1048576 := by have := HKL.out; have := HSP.out; omega
  go_wp2_with fail
  have hb8 : Below w7.heap.size w7 (w7.alloc (.cells #[.int .u8 z] 5)) := (Below.refl _ _).alloc (Nat.le_refl _) _
  rw [cat_one key (UInt8.ofNat z)]
  refine (given1 T fbs ubs (key ++ [UInt8.ofNat z]) false (w7.alloc (.cells #[.int .u8 z] 5)) (HTab7.out.below hb8) HFit.out (HT8.out.below hb8) HK.out HF0.out.2.2 (by rw [HKey.out]; exact ne_snoc _ _)).mono ?_
  rintro e w8 ⟨rfl, hb9⟩
  have HB9 : Hid (Below w.heap.size w w8) := HB8.out.trans ((hb8.trans (hb9.mono hb8.size)).mono HB8.out.size)
  clear hb8 hb9
  go_wp2_with fail
  go_ret
  exact ⟨rfl, HB9.out⟩
end Go.Proofs.Qxb6605987a
