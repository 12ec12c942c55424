import Derived.Test.Qxb6607685aP2
namespace Go.Proofs.Qxb6607685a
open Go.RowKit
set_option linter.unusedVariables false
set_option linter.unusedSimpArgs false

theorem Try.info49 : (Try.prog.info? 49).map (fun i => (i.zero, i.size, i.bytes)) = some (some (.float .f64 0), 1, 8) := by kernel_rfl

/-- The values built lie at block g, nine cells each. -/
def VA (w : World) (g : Nat) (vs : List NV) : Prop :=
  (0 < vs.length → g < w.heap.size) ∧ ∀ i (h : i < vs.length),
    w.cell? ⟨g, i * 9, none⟩ = some (.int .i64 vs[i].k) ∧ w.cell? ⟨g, i * 9 + 1, none⟩ = some (.float .f64 vs[i].f) ∧ w.cell? ⟨g, i * 9 + 2, none⟩ = some (.string vs[i].s) ∧
    w.cell? ⟨g, i * 9 + 3, none⟩ = some (.bool vs[i].b) ∧ w.cell? ⟨g, i * 9 + 4, none⟩ = some (.int .u64 0) ∧ w.cell? ⟨g, i * 9 + 5, none⟩ = some (.int .i64 0) ∧ w.cell? ⟨g, i * 9 + 6, none⟩ = some (.pointer none) ∧
    w.cell? ⟨g, i * 9 + 7, none⟩ = some (.slice none 0 0) ∧ w.cell? ⟨g, i * 9 + 8, none⟩ = some (.bool vs[i].t)

theorem VA.below {w w' : World} {g : Nat} {vs : List NV} (h : VA w g vs) (hb : Below w.heap.size w w') : VA w' g vs := by
  obtain ⟨h0, h⟩ := h
  refine ⟨fun hp => Nat.lt_of_lt_of_le (h0 hp) hb.size, fun i hi => ?_⟩
  have hg := h0 (by omega)
  obtain ⟨h1, h2, h3, h4, h5, h6, h7, h8, h9⟩ := h i hi
  refine ⟨?_, ?_, ?_, ?_, ?_, ?_, ?_, ?_, ?_⟩ <;> rw [hb.cell (by exact hg)] <;> assumption

def LaidF (D : List Value) (vs : List NV) (k : Nat) : Prop := ∀ i (h : i < vs.length), i < k → D[i]? = some (.float .f64 vs[i].f)

theorem LaidF.snoc {D : List Value} {vs : List NV} {k : Nat} (h : LaidF D vs k) (hD : D.length = vs.length) (hk : k < vs.length) : LaidF (D.set k (.float .f64 vs[k].f)) vs (k + 1) := by
  intro i hi hik
  by_cases e : i = k
  · subst e; rw [List.getElem?_set_self (by omega)]
  · rw [List.getElem?_set_ne (by omega)]; exact h i hi (by omega)

set_option maxRecDepth 100000 in
set_option maxHeartbeats 1000000 in
theorem numbers34 (g l c : Nat) (vs : List NV) (w : World) (hl : vs.length = l) (hm : l ≤ 65536) (hs : VA w g vs) :
    Calls Try.prog 34 #[.slice (some ⟨g, 0, none⟩) l c] w fun e w' => ∃ hb D, e = .returned (.slice (some ⟨hb, 0, none⟩) l l) ∧ w'.ownsRow w.heap.size 49 1 (.slice (some ⟨hb, 0, none⟩) l l) l D ∧ LaidF D vs l ∧ Below w.heap.size w w' := by
  obtain ⟨i0, hi, hz0, hz1, hz2⟩ := info_parts Try.info49
  have hsf := fun (w : World) (a : Addr) (m : Mode) (f : Nat) => run_store Try.prog w a (.float .f64 f) m rfl
  have HL := hide hl
  have HS := hide hs
  clear hl hs
  go_enter Try.func34, Try.ntmps34
  go_wp2_with (first
    | (at_make; refine wpList_make_full _ rfl _ _ 47 rfl w.heap.size 49 i0 (.float .f64 0) 1 Try.underlying47 hi hz0 hz1 .i64 .i64 _ _ l rfl rfl rfl rfl ?_ ?_ ?_ ?_; rw [hz2]; omega; unfold maxLen; omega; exact Nat.le_refl _; intro w1 hown hgrow; have HB1 : Hid (Below w.heap.size w w1) := (Below.refl _ _).grown hgrow (by simp) (by simp); have HO1 : Hid (∃ D, w1.ownsRow w.heap.size 49 1 (.slice (some ⟨w.heap.size, 0, none⟩) l l) l D) := ⟨_, hown⟩; clear hown hgrow))
  obtain ⟨gb, hgb⟩ : ∃ gb, w.heap.size = gb := ⟨_, rfl⟩
  have HGB : Hid (w.heap.size = gb) := hgb
  rw [hgb] at HO1
  rw [hgb]
  clear hgb
  go_loopw [11] (fun i wr => ∃ (k : Nat) (D : List Value), k ≤ l ∧ i = .int .i64 k ∧ Hid (Below w.heap.size w wr) ∧ Hid (wr.ownsRow gb 49 1 (.slice (some ⟨gb, 0, none⟩) l l) l D) ∧ Hid (LaidF D vs k)) (fun i _ => l - (intOf i).toNat)
  case atStart =>
    obtain ⟨D, hD⟩ := HO1.out
    exact ⟨0, D, Nat.zero_le _, rfl, HB1, hD, fun i _ h => absurd h (Nat.not_lt_zero i)⟩
  case round =>
    clear HB1 HO1
    obtain ⟨k, D, hk, rfl, hb, hrow, hlaid⟩ := hrel
    by_cases hlt : k < l
    · have hkn : k < vs.length := by have := HL.out; omega
      obtain ⟨h1, h2, h3, h4, h5, h6, h7, h8, h9⟩ := (HS.out.below hb.out).2 k hkn
      have hD : D.length = vs.length := by have := hrow.out.1; have := HL.out; omega
      have hsn := hlaid.out.snoc hD hkn
      obtain ⟨x, hx⟩ : ∃ x, vs[k] = x := ⟨_, rfl⟩
      rw [hx] at h1 h2 h3 h4 h9 hsn
      obtain ⟨xk, xf, xs, xb, xt⟩ := x
      simp only [] at h1 h2 h3 h4 h9 hsn
      have HSN := hide hsn
      clear hx hsn hD
      obtain ⟨vd, hcd⟩ : ∃ vd, wr.cell? ⟨gb, k, none⟩ = some vd := by
        have h1 := hrow.out.cellAt k (by omega)
        have h2 := hrow.out.1
        rw [List.getElem?_eq_getElem (by omega)] at h1
        exact ⟨_, h1⟩
      have hfd := hrow.out.frozenAt k
      have hgw := (hrow.out.lt gb rfl).2
      go_wp2
      go_roundw
      case rel =>
        obtain ⟨o1, o2⟩ := hrow.out.stored k (.float .f64 xf)
        have hsz := hb.out.size
        refine ⟨k + 1, D.set k (.float .f64 xf), by omega, by go_num, (hb.out.setCell (by have := HGB.out; show w.heap.size ≤ gb; omega) _).alloc (by simpa using hsz) _, o1.alloc _, HSN⟩
      case measure => simp [intOf]; omega
    · obtain rfl : k = l := by omega
      go_wp2
      go_ret
      refine ⟨gb, D, rfl, ?_, hlaid.out, hb.out⟩
      rw [HGB.out]; exact hrow.out

set_option maxRecDepth 100000 in
theorem ZZnumbers18 (g l c : Nat) (vs : List NV) (w : World) (hl : vs.length = l) (hm : l ≤ 65536) (hs : VA w g vs) :
    Calls Try.prog 18 #[.slice (some ⟨g, 0, none⟩) l c] w fun e w' => ∃ hb D, e = .returned (.slice (some ⟨hb, 0, none⟩) l l) ∧ w'.ownsRow w.heap.size 49 1 (.slice (some ⟨hb, 0, none⟩) l l) l D ∧ LaidF D vs l ∧ Below w.heap.size w w' := by
  have HL := hide hl
  have HS := hide hs
  clear hl hs
  go_enter Try.func18, Try.ntmps18
  go_wp2_with fail
  refine (numbers34 g l c vs w HL.out hm HS.out).mono ?_
  rintro e w' ⟨hb, D, rfl, h⟩
  have H := hide h
  clear h
  go_wp2_with fail
  go_ret
  exact ⟨hb, D, rfl, H.out⟩
end Go.Proofs.Qxb6607685a
