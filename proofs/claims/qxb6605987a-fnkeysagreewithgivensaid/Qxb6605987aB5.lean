import Derived.Test.Qxb6605987aB4
namespace Go.Proofs.Qxb6605987a
open Go.RowKit
set_option linter.unusedVariables false
set_option linter.unusedSimpArgs false

/-- Every span of the table lies in one text. -/
def Fits (T : TabD) : Prop := ∀ i, i < T.K → (T.fs i).1 + (T.fs i).2.1 ≤ T.fl ∨ (T.fl ≤ (T.fs i).1 ∧ (T.fs i).1 + (T.fs i).2.1 ≤ T.fl + T.ul)

def keyAt (T : TabD) (fbs ubs : List UInt8) (i : Nat) : List UInt8 := keyB fbs ubs (T.fs i).1 (T.fs i).2.1

theorem keyAt_len {w : World} {T : TabD} {fbs ubs : List UInt8} (hT : Texts w T.fa T.fl T.fc T.ua T.ul T.uc fbs ubs) (hF : Fits T) (i : Nat) (hi : i < T.K) : (keyAt T fbs ubs i).length = (T.fs i).2.1 := by
  refine keyB_len _ _ _ _ ?_
  rw [hT.hfl, hT.hul]
  have := hF i hi
  omega

/-- The first field that holds the key, from i on. -/
def findFrom (T : TabD) (fbs ubs key : List UInt8) : Nat → Nat → Option Nat
  | 0, _ => none
  | n + 1, i => if keyAt T fbs ubs i == key then some i else findFrom T fbs ubs key n (i + 1)

def ptrOf (T : TabD) : Option Nat → Value
  | some i => .pointer (some ⟨T.fb, i * 8, none⟩)
  | none => .pointer none

set_option maxRecDepth 100000 in
set_option maxHeartbeats 400000 in
theorem find25_small (T : TabD) (fbs ubs key : List UInt8) (a : Option Addr) (l c : Nat) (w : World) (h : Tab w T) (hF : Fits T) (hT : Texts w T.fa T.fl T.fc T.ua T.ul T.uc fbs ubs) (hK : T.K ≤ 16)
    (hl : key.length = l) (hn : a = none → l = 0) (hs : SB w a key) :
    Calls Try.prog 25 #[.pointer (some ⟨T.db, 0, none⟩), .int .u32 1, .slice a l c] w fun e w' => e = .returned (ptrOf T (findFrom T fbs ubs key T.K 0)) ∧ Below w.heap.size w w' := by
  have k1 := h.k1
  have H : Hid (Tab w T) := h
  have HT : Hid (Texts w T.fa T.fl T.fc T.ua T.ul T.uc fbs ubs) := hT
  have HF : Hid (Fits T) := hF
  have HS : Hid (SB w a key) := hs
  have HN : Hid (a = none → l = 0) := hn
  have HL : Hid (key.length = l) := hl
  clear h hT hF hs hn hl
  have hd : decide ((T.K : Int) ≤ 16) = true := by simp; omega
  go_enter Try.func25, Try.ntmps25
  go_wp2_with fail
  refine (fields28 T w H.out).mono ?_
  rintro e w' ⟨rfl, hw⟩
  obtain rfl := hw.symm
  go_wp2_with fail
  go_loopw [22] (fun i wr => ∃ k : Nat, k ≤ T.K ∧ i = .int .i64 k ∧ Below w.heap.size w wr ∧ findFrom T fbs ubs key T.K 0 = findFrom T fbs ubs key (T.K - k) k)
    (fun i _ => T.K - (intOf i).toNat)
  case atStart => exact ⟨0, Nat.zero_le _, rfl, Below.refl _ _, rfl⟩
  case round =>
    obtain ⟨k, hk, rfl, hnx, hfd⟩ := hrel
    have HFD : Hid (findFrom T fbs ubs key T.K 0 = findFrom T fbs ubs key (T.K - k) k) := hfd
    clear hfd
    by_cases hlt : k < T.K
    · have g0 : wr.cell? ⟨T.fb, k * 8, none⟩ = some (.int .u32 (T.fs k).1) := by rw [hnx.cell (by exact H.out.hfb)]; exact H.out.f0 k hlt
      have g1 : wr.cell? ⟨T.fb, k * 8 + 1, none⟩ = some (.int .u32 (T.fs k).2.1) := by rw [hnx.cell (by exact H.out.hfb)]; exact H.out.f1 k hlt
      have HR : Hid (Tab wr T) := H.out.below hnx
      have HTR : Hid (Texts wr T.fa T.fl T.fc T.ua T.ul T.uc fbs ubs) := HT.out.below hnx
      have HSR : Hid (SB wr a key) := HS.out.below hnx
      have e1 : findFrom T fbs ubs key (T.K - k) k = if keyAt T fbs ubs k == key then some k else findFrom T fbs ubs key (T.K - (k + 1)) (k + 1) := by
        rw [show T.K - k = (T.K - (k + 1)) + 1 by omega]; rfl
      have HE : Hid (findFrom T fbs ubs key (T.K - k) k = if keyAt T fbs ubs k == key then some k else findFrom T fbs ubs key (T.K - (k + 1)) (k + 1)) := e1
      clear e1
      go_wp2_with fail
      refine (bytesOf27 T.db _ _ T.fl T.fc T.ul T.uc T.fa T.ua fbs ubs wr HR.out.hdb HR.out.d10 HR.out.d11 HTR.out (HF.out k hlt)).mono ?_
      rintro e w1 ⟨a', c', rfl, hb, hs, hn⟩
      have HB1 : Hid (Below w.heap.size w w1) := hnx.trans (hb.mono hnx.size)
      have HS1 : Hid (SB w1 a key) := HSR.out.below hb
      have HS2 : Hid (SB w1 a' (keyAt T fbs ubs k)) := hs
      have HN2 : Hid (a' = none → (T.fs k).2.1 = 0) := hn
      clear hb hs hn g0 g1
      go_wp2_with fail
      refine (equal29 w1 a' _ c' (keyAt T fbs ubs k) a l c key (keyAt_len HT.out HF.out k hlt) HN2.out HS2.out HL.out HN.out HS1.out).mono ?_
      rintro e w2 ⟨rfl, hw⟩
      obtain rfl := hw.symm
      cases hkey : (keyAt T fbs ubs k == key)
      · have HK : Hid ((keyAt T fbs ubs k == key) = false) := hkey
        clear hkey
        go_wp2
        go_roundw
        case rel => exact ⟨k + 1, by omega, by go_num, HB1.out, by rw [HFD.out, HE.out, HK.out]; rfl⟩
        case measure => simp [intOf]; omega
      · have HK : Hid ((keyAt T fbs ubs k == key) = true) := hkey
        clear hkey
        go_wp2
        go_ret
        exact ⟨by rw [HFD.out, HE.out, HK.out]; rfl, HB1.out⟩
    · go_wp2
      go_ret
      exact ⟨by rw [HFD.out, show T.K - k = 0 by omega]; rfl, hnx⟩
end Go.Proofs.Qxb6605987a
