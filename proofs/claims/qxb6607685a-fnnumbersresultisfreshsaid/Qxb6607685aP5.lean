import Derived.Test.Qxb6607685aP4
namespace Go.Proofs.Qxb6607685a
open Go.RowKit
set_option linter.unusedVariables false
set_option linter.unusedSimpArgs false

def half : Value := .float .f64 4602678819172646912

def Halves (D : List Value) (k : Nat) : Prop := ∀ i, i < D.length → i < k → D[i]? = some half

theorem Halves.snoc {D : List Value} {k : Nat} (h : Halves D k) : Halves (D.set k half) (k + 1) := by
  intro i hi hik
  rw [List.length_set] at hi
  by_cases e : i = k
  · subst e; rw [List.getElem?_set_self (by omega)]
  · rw [List.getElem?_set_ne (by omega)]; exact h i hi (by omega)

theorem VA.kept {w w' : World} {g : Nat} {vs : List NV} {row : Option Nat} (h : VA w g vs) (hg : w.grownBy w' row) (hne : 0 < vs.length → some g ≠ row) : VA w' g vs := by
  obtain ⟨h0, h⟩ := h
  refine ⟨fun hp => Nat.lt_of_lt_of_le (h0 hp) hg.size, fun i hi => ?_⟩
  have hn := hne (by omega)
  obtain ⟨h1, h2, h3, h4, h5, h6, h7, h8, h9⟩ := h i hi
  exact ⟨hg.cell h1 hn, hg.cell h2 hn, hg.cell h3 hn, hg.cell h4 hn, hg.cell h5 hn, hg.cell h6 hn, hg.cell h7 hn, hg.cell h8 hn, hg.cell h9 hn⟩

set_option maxRecDepth 100000 in
set_option maxHeartbeats 4000000 in
theorem law5 (a : Option Addr) (l c : Nat) (vs : List NV) (w : World) (hl : vs.length = l) (hm : l ≤ maxLen) (hs : VS w a vs) (hk : ∀ x ∈ vs, x.s.size ≤ maxLen) (hfw : ∀ x ∈ vs, x.f < 18446744073709551616) :
    Calls Try.prog 5 #[.slice a l c] w fun e w' => e = .returned (.bool true) ∧ Below w.heap.size w w' := by
  have hsf := fun (w : World) (a : Addr) (m : Mode) (f : Nat) => run_store Try.prog w a (.float .f64 f) m rfl
  have HL := hide hl
  have HM := hide hm
  have HS := hide hs
  have HK := hide hk
  have HFW := hide hfw
  clear hl hs hk hm hfw
  by_cases hbig : 65536 < l
  · have hd : decide ((65536 : Int) < (l : Int)) = true := by simp; omega
    go_enter Try.func5, Try.ntmps5
    go_wp2_with fail
    refine (bytes15 a l c vs w HL.out HM.out HS.out HK.out).mono ?_
    rintro e w' ⟨⟨b, rfl⟩, hw⟩
    obtain rfl := hw.symm
    cases b <;> go_wp2_with fail
    all_goals
      go_ret
      exact ⟨rfl, Below.refl _ _⟩
  have hd : decide ((65536 : Int) < (l : Int)) = false := by simp; omega
  go_enter Try.func5, Try.ntmps5
  go_wp2_with fail
  refine (bytes15 a l c vs w HL.out HM.out HS.out HK.out).mono ?_
  rintro e w' ⟨⟨b, rfl⟩, hw⟩
  obtain rfl := hw.symm
  cases b
  · go_wp2_with fail
    go_ret
    exact ⟨rfl, Below.refl _ _⟩
  go_wp2_with fail
  refine (numBytes16 a l c vs w HL.out (by omega) HS.out HK.out).mono ?_
  rintro e w' ⟨⟨t, ht, rfl⟩, hw⟩
  obtain rfl := hw.symm
  by_cases htb : 1048576 < t
  · have hd2 : decide ((1048576 : Int) < (t : Int)) = true := by simp; omega
    go_wp2_with fail
    go_ret
    exact ⟨rfl, Below.refl _ _⟩
  have hd2 : decide ((1048576 : Int) < (t : Int)) = false := by simp; omega
  go_wp2_with fail
  refine (build17 a l c vs w HL.out (by omega) HS.out).mono ?_
  rintro e w1 ⟨g, rfl, hva, hb1⟩
  have HVA := hide hva
  have HB1 := hide hb1
  clear hva hb1 ht htb hd2
  go_wp2_with fail
  refine (ZZnumbers18 g l l vs w1 HL.out (by omega) HVA.out).mono ?_
  rintro e w2 ⟨ob, D0, rfl, hown, _, hb2⟩
  have HVA2 := hide (HVA.out.below hb2)
  have HB2 := hide (HB1.out.trans (hb2.mono HB1.out.size))
  have HGO : Hid (w.heap.size ≤ ob ∧ (0 < vs.length → g ≠ ob)) := by
    have h1 := (hown.lt ob rfl).1
    have h2 := HB1.out.size
    exact ⟨by omega, fun hp => by have := HVA.out.1 hp; omega⟩
  have HO2 : Hid (w2.ownsRow ob 49 1 (.slice (some ⟨ob, 0, none⟩) l l) l D0) := by
    obtain ⟨q1, q2⟩ := hown
    refine ⟨q1, ?_⟩
    rcases q2 with ⟨q2, _⟩ | ⟨g', cap, cur, hv, q⟩
    · cases q2
    · cases hv
      exact .inr ⟨ob, l, cur, rfl, Nat.le_refl _, q.2⟩
  clear hown hb2 HVA HB1
  go_wp2_with fail
  go_loopw [28] (fun i wr => ∃ (k : Nat) (D : List Value), k ≤ l ∧ i = .int .i64 k ∧ Hid (Below w.heap.size w wr) ∧ Hid (wr.ownsRow ob 49 1 (.slice (some ⟨ob, 0, none⟩) l l) l D) ∧ Hid (Halves D k) ∧ Hid (VA wr g vs)) (fun i _ => l - (intOf i).toNat)
  case atStart => exact ⟨0, D0, Nat.zero_le _, rfl, HB2, HO2, fun i _ h => absurd h (Nat.not_lt_zero i), HVA2⟩
  case round =>
    clear HB2 HO2 HVA2
    obtain ⟨k, D, hk, rfl, hb, hrow, hhalf, hva⟩ := hrel
    by_cases hlt : k < l
    · obtain ⟨vd, hcd⟩ : ∃ vd, wr.cell? ⟨ob, k, none⟩ = some vd := by
        have h1 := hrow.out.cellAt k (by omega)
        have h2 := hrow.out.1
        rw [List.getElem?_eq_getElem (by omega)] at h1
        exact ⟨_, h1⟩
      have hfd := hrow.out.frozenAt k
      go_wp2
      go_roundw
      case rel =>
        obtain ⟨o1, o2⟩ := hrow.out.stored k half
        refine ⟨k + 1, D.set k half, by omega, by go_num, hb.out.setCell (by exact HGO.out.1) _, o1, hhalf.out.snoc, hva.out.kept o2 (fun hp e => HGO.out.2 hp (by cases e; rfl))⟩
      case measure => simp [intOf]; omega
    · obtain rfl : k = l := by omega
      go_wp2_with fail
      refine (ZZnumbers18 g k k vs wr HL.out (by omega) hva.out).mono ?_
      rintro e w4 ⟨nb, D4, rfl, hown4, hlf, hb4⟩
      have HVA4 := hide (hva.out.below hb4)
      have HO4 := hide (owns_below hrow.out hb4)
      have HB4 := hide (hb.out.trans (hb4.mono hb.out.size))
      have HN4 := hide hown4
      have HLF := hide hlf
      clear hown4 hlf hb4 hva hrow hb
      go_wp2_with fail
      go_loopw [44] (fun i wr => ∃ j : Nat, j ≤ k ∧ i = .int .i64 j ∧ Hid (Below w4.heap.size w4 wr)) (fun i _ => k - (intOf i).toNat)
      case atStart => exact ⟨0, Nat.zero_le _, rfl, Below.refl _ _⟩
      case round =>
        obtain ⟨j, hj, rfl, hbr⟩ := hrel
        by_cases hlt2 : j < k
        · have hjn : j < vs.length := by have := HL.out; omega
          obtain ⟨b, off, rfl, hbl⟩ := HS.out.there (by omega)
          have HBw := hide (HB4.out.trans (hbr.out.mono HB4.out.size))
          have v2 := ((HS.out.below HBw.out).cells j hjn).2.1
          obtain ⟨c0, c1, c2, c3, c4, c5, c6, c7, c8⟩ := (HVA4.out.below hbr.out).2 j hjn
          have hgl := (HVA4.out.below hbr.out).1 (by omega)
          have hol := (HO4.out.lt ob rfl).2
          have hnl := (HN4.out.lt nb rfl).2
          have n1 : wr.cell? ⟨nb, j, none⟩ = some (.float .f64 vs[j].f) := by
            rw [hbr.out.cell (by exact hnl), HN4.out.cellAt j (by omega)]; exact HLF.out j hjn hlt2
          have o1 : wr.cell? ⟨ob, j, none⟩ = some half := by
            rw [hbr.out.cell (by exact hol), HO4.out.cellAt j (by omega)]; exact hhalf.out j (by have := HO4.out.1; omega) hlt2
          have hf := HFW.out _ (List.getElem_mem hjn)
          obtain ⟨x, hx⟩ : ∃ x, vs[j] = x := ⟨_, rfl⟩
          rw [hx] at v2 c0 c1 c2 c3 c8 n1 hf
          obtain ⟨xk, xf, xs, xb, xt⟩ := x
          simp only [] at v2 c0 c1 c2 c3 c8 n1 hf
          unfold half at o1
          have HF := hide hf
          have hszr := hbr.out.size
          have hszw := HBw.out.size
          have HLt0 : Hid (g < wr.heap.size ∧ b < wr.heap.size ∧ ob < wr.heap.size) := ⟨hgl, by omega, by omega⟩
          clear hx hf hgl hol hnl hbl hszr hszw
          go_wp2
          go_quiet ((go_at_call 19; exact Calls.quiet_of_same (same19 xf _ HF.out)))
          have HB5 : Hid (Below w4.heap.size w4 (wr.drewN nq)) := below_drewN hbr.out _
          have HLt : Hid (g < (wr.drewN nq).heap.size ∧ b < (wr.drewN nq).heap.size ∧ ob < (wr.drewN nq).heap.size) := HLt0
          have hcc : ∀ p, (wr.drewN nq).cell? p = wr.cell? p := fun p => rfl
          rw [← hcc] at v2 c0 c1 c2 c3 c4 c5 c6 c7 c8 o1
          clear hcc n1 HLt0
          generalize wr.drewN nq = w5 at HB5 HLt v2 c0 c1 c2 c3 c4 c5 c6 c7 c8 o1 ⊢
          go_wp2
          go_region_held3 (fun w' => w'.cell? ⟨g, j * 9, none⟩ = some (.int .i64 xk) ∧ w'.cell? ⟨g, j * 9 + 1, none⟩ = some (.float .f64 xf) ∧ w'.cell? ⟨g, j * 9 + 2, none⟩ = some (.string xs) ∧ w'.cell? ⟨g, j * 9 + 3, none⟩ = some (.bool xb) ∧ w'.cell? ⟨g, j * 9 + 4, none⟩ = some (.int .u64 0) ∧ w'.cell? ⟨g, j * 9 + 5, none⟩ = some (.int .i64 0) ∧ w'.cell? ⟨g, j * 9 + 6, none⟩ = some (.pointer none) ∧ w'.cell? ⟨g, j * 9 + 7, none⟩ = some (.slice none 0 0) ∧ w'.cell? ⟨g, j * 9 + 8, none⟩ = some (.bool xt) ∧ w'.cell? ⟨b, off + j * 5 + 1, none⟩ = some (.float .f64 xf)) (go_keep)
            (first
            | (go_at_call 20; refine (valueNum20 xk xf xs xb xt w5.drew).mono ?_; rintro e w6 ⟨rfl, hb6⟩; have hb7 : Below w5.heap.size w5 w6 := (Below.refl _ _).drew.trans hb6; have c0' := (hb7.cell (p := ⟨g, j * 9, none⟩) (by exact HLt.out.1)).trans c0; have c1' := (hb7.cell (p := ⟨g, j * 9 + 1, none⟩) (by exact HLt.out.1)).trans c1; have c2' := (hb7.cell (p := ⟨g, j * 9 + 2, none⟩) (by exact HLt.out.1)).trans c2; have c3' := (hb7.cell (p := ⟨g, j * 9 + 3, none⟩) (by exact HLt.out.1)).trans c3; have c4' := (hb7.cell (p := ⟨g, j * 9 + 4, none⟩) (by exact HLt.out.1)).trans c4; have c5' := (hb7.cell (p := ⟨g, j * 9 + 5, none⟩) (by exact HLt.out.1)).trans c5; have c6' := (hb7.cell (p := ⟨g, j * 9 + 6, none⟩) (by exact HLt.out.1)).trans c6; have c7' := (hb7.cell (p := ⟨g, j * 9 + 7, none⟩) (by exact HLt.out.1)).trans c7; have c8' := (hb7.cell (p := ⟨g, j * 9 + 8, none⟩) (by exact HLt.out.1)).trans c8; have v2' := (hb7.cell (p := ⟨b, off + j * 5 + 1, none⟩) (by exact HLt.out.2.1)).trans v2; have o1' := (hb7.cell (p := ⟨ob, j, none⟩) (by exact HLt.out.2.2)).trans o1; have HB7 := hide hb7; clear hb6 hb7)
            | (go_at_call 19; refine (same19 xf w6 HF.out).mono ?_; rintro e w' ⟨rfl, hw⟩; obtain rfl := hw.symm))
          have hoh : (FloatKind.f64.format.order 4602678819172646912 4602678819172646912 != some .eq) = false := by simp [ord_half]
          go_wp2
          go_roundw
          case rel => exact ⟨j + 1, by omega, by go_num, HB5.out.trans (HB7.out.mono HB5.out.size)⟩
          case measure => simp [intOf]; omega
        · go_wp2
          go_ret
          exact ⟨rfl, HB4.out.trans (hbr.out.mono HB4.out.size)⟩
end Go.Proofs.Qxb6607685a
