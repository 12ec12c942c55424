import Derived.Test.Qxb6607685aN6
namespace Go.Proofs.Qxb6607685a
open Go.RowKit Go.Maps Go.WideMaps
set_option linter.unusedVariables false
set_option linter.unusedSimpArgs false

theorem SC.nums {w : World} {b : Nat} {names : List (List UInt8)} (h : SC w (some ⟨b, 0, none⟩) (numsV names)) (i : Nat) (hi : i < names.length) : w.cell? ⟨b, i, none⟩ = some (.int .u32 (rk names names[i] : Nat)) := by
  rcases h with h | ⟨b', off', e, _, hc⟩
  · simp [numsV] at h; subst h; simp at hi
  · cases e
    have := hc i (by simpa [numsV] using hi)
    simpa [numsV] using this

/-- The look-up of a filed name. -/
theorem MapN.found {w : World} {b n : Nat} {names : List (List UInt8)} (h : MapN w b n (filed names names.length)) (i : Nat) (hi : i < names.length) (hk : names[i].length ≤ maxLen) :
    (Instr.lookup 63 (.map (some b)) (.string ⟨names[i].toArray⟩) true).run Try.prog w = .ok (.tuple #[.int .u32 (rk names names[i] : Nat), .bool true]) w := by
  obtain ⟨c, h1, h2, _⟩ := h.look names[i] hk
  have hm := filed_mem names names.length i hi hi
  rw [h1, h2 hm, show (filed names names.length).contains names[i] = true by simpa using hm]
  rfl

set_option maxRecDepth 100000 in
set_option maxHeartbeats 4000000 in
theorem law8 (a : Option Addr) (l c : Nat) (names : List (List UInt8)) (w : World) (hl : names.length = l) (hm : l ≤ maxLen) (hs : SN w a names) (hk : ∀ x ∈ names, x.length ≤ maxLen) :
    Calls Try.prog 8 #[.slice a l c] w fun e w' => e = .returned (.bool true) ∧ Below w.heap.size w w' := by
  have HL := hide hl
  have HM := hide hm
  have HS := hide hs
  have HK := hide hk
  clear hl hs hk hm
  by_cases hbig : 4096 < l
  · have hd : decide ((4096 : Int) < (l : Int)) = true := by simp; omega
    go_enter Try.func8, Try.ntmps8
    go_wp2_with fail
    refine (bytes29 a l c names w HL.out HM.out HS.out HK.out).mono ?_
    rintro e w' ⟨⟨b, rfl⟩, hw⟩
    obtain rfl := hw.symm
    cases b <;> go_wp2_with fail
    all_goals
      go_ret
      exact ⟨rfl, Below.refl _ _⟩
  have hd : decide ((4096 : Int) < (l : Int)) = false := by simp; omega
  go_enter Try.func8, Try.ntmps8
  go_wp2_with fail
  refine (bytes29 a l c names w HL.out HM.out HS.out HK.out).mono ?_
  rintro e w' ⟨⟨b, rfl⟩, hw⟩
  obtain rfl := hw.symm
  cases b
  · go_wp2_with fail
    go_ret
    exact ⟨rfl, Below.refl _ _⟩
  go_wp2_with fail
  refine (names22 a l c names w HL.out (by omega) HS.out HK.out).mono ?_
  rintro e w' ⟨⟨t, ht, rfl⟩, hw⟩
  obtain rfl := hw.symm
  by_cases htb : 1048576 < t
  · have hd2 : decide ((1048576 : Int) < (t : Int)) = true := by simp; omega
    go_wp2_with fail
    go_ret
    exact ⟨rfl, Below.refl _ _⟩
  have hd2 : decide ((1048576 : Int) < (t : Int)) = false := by simp; omega
  go_wp2_with fail
  refine (fileAll23 a l c names w HL.out (by omega) HS.out HK.out).mono ?_
  rintro e w1 ⟨mb, gb, rfl, hmap, hnum, hb1, _, _, _⟩
  have HMap := hide hmap
  have HNum := hide hnum
  have HB1 := hide hb1
  clear hmap hnum hb1 ht htb hd2
  go_wp2_with fail
  refine (first26 a l c names w1 HL.out (by omega) (HS.out.below HB1.out)).mono ?_
  rintro e w2 ⟨hb, rfl, hnum2, hb2⟩
  have HMap2 := hide (HMap.out.below hb2)
  have HNum2 := hide (HNum.out.below hb2)
  have HWnt2 := hide hnum2
  have HB2 := hide (HB1.out.trans (hb2.mono HB1.out.size))
  clear hnum2 hb2 HMap HNum HB1
  have hLk := filed_len names l
  obtain ⟨m, hme⟩ : ∃ m, (filed names l).length = m := ⟨_, rfl⟩
  rw [hme] at hLk ⊢
  have HME := hide hme
  clear hme
  go_wp2_with fail
  go_loopw [31] (fun i wr => ∃ k : Nat, k ≤ l ∧ i = .int .i64 k ∧ Hid (Below w2.heap.size w2 wr)) (fun i _ => l - (intOf i).toNat)
  case atStart => exact ⟨0, Nat.zero_le _, rfl, Below.refl _ _⟩
  case round =>
    obtain ⟨k, hk, rfl, hbr⟩ := hrel
    by_cases hlt : k < l
    · have hkn : k < names.length := by have := HL.out; omega
      obtain ⟨b, off, rfl, _⟩ := HS.out.some (by omega)
      have HBr := hide (HB2.out.trans (hbr.out.mono HB2.out.size))
      have g := (HS.out.below HBr.out).cell k hkn
      have g1 := (HNum2.out.below hbr.out).nums k hkn
      have g2 := (HWnt2.out.below hbr.out).nums k hkn
      have hmr := HMap2.out.below hbr.out
      rw [← HL.out] at hmr
      have hlk := fun (wq : World) (hq : Below wr.heap.size wr wq) => (hmr.below hq).found k hkn (HK.out _ (List.getElem_mem hkn))
      have hql := rk_lt names k hkn
      rw [HL.out] at hql
      obtain ⟨x, hx⟩ : ∃ x, names[k] = x := ⟨_, rfl⟩
      obtain ⟨q, hq⟩ : ∃ q, rk names x = q := ⟨_, rfl⟩
      rw [hx] at g g1 g2 hql hlk
      rw [hq] at g1 g2 hql hlk
      have HLK := hide hlk
      clear hx hq hlk hmr
      go_wp2
      go_quiet (fail)
      have HB3 : Hid (Below w2.heap.size w2 (wr.drewN nq)) := below_drewN hbr.out _
      have g' : (wr.drewN nq).cell? ⟨b, off + k, none⟩ = some (.string ⟨x.toArray⟩) := g
      have g2' : (wr.drewN nq).cell? ⟨hb, k, none⟩ = some (.int .u32 (q : Nat)) := g2
      have hlk := HLK.out (wr.drewN nq) (below_drewN (Below.refl _ _) _)
      generalize wr.drewN nq = w3 at HB3 g' g2' hlk ⊢
      go_wp2
      go_roundw
      case rel => exact ⟨k + 1, by omega, by go_num, HB3⟩
      case measure => simp [intOf]; omega
    · obtain rfl : k = l := by omega
      have HBr := hide (HB2.out.trans (hbr.out.mono HB2.out.size))
      have hlen : ∀ ty, (Builtin.len_ #[63] ty #[.map (some mb)]).run Try.prog wr = .ok (.int .i64 (m : Int)) wr := fun ty => by rw [← HME.out]; exact (HMap2.out.below hbr.out).len ty
      go_wp2
      go_ret
      exact ⟨rfl, HBr.out⟩
end Go.Proofs.Qxb6607685a
