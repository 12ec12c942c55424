import Derived.Test.Qxb6607685aP3
import Derived.Deep.MidRow
import Derived.Deep.RegionHeld3
namespace Go.Proofs.Qxb6607685a
open Go.RowKit
set_option linter.unusedVariables false
set_option linter.unusedSimpArgs false

theorem step_call {P : Program} {ops : Array Oper} {o : Oper} {a : Act} {w : World} {K : Act → World → Prop} {Q : Exit → Act → World → Prop} {E : Prop} (hgd : o.guard = none) (f : FuncId) (args : Array Value)
    (hrun : (execOp a.eval o).run P w = .ok (.enter f args) w) (h : Calls P f args w fun e w' => ∃ v, e = .returned v ∧ K (a.put o.dst v) w') :
    if Region.wanted o (yielded ops a.tmps) = true then Oper.wp P o a w K Q else E := by
  have hw : Region.wanted o (yielded ops a.tmps) = true := by simp [Region.wanted, hgd]
  rw [if_pos hw]
  unfold Oper.wp
  rw [hrun, Oper.upon_enter]
  refine h.mono ?_
  rintro e w' ⟨v, rfl, hK⟩
  exact hK

/-- The zero value, as it lies. -/
def zeroC : Array Value := #[.int .i64 0, .float .f64 0, .string ByteArray.empty, .bool false, .int .u64 0, .int .i64 0, .pointer none, .slice none 0 0, .bool false]
theorem Try.info59 : (Try.prog.info? 59).map (fun i => (i.zero, i.size, i.bytes)) = some (some (.agg zeroC), 9, 96) := by kernel_rfl

theorem Try.size59 : (Try.prog.info? 59).map (·.size) = some 9 := by kernel_rfl

theorem step_store {P : Program} {ops : Array Oper} {o : Oper} {a : Act} {w : World} {K : Act → World → Prop} {Q : Exit → Act → World → Prop} {E : Prop} (hgd : o.guard = none) (ty : TypeId) (x y : Operand) (ho : o.op = .store ty x y)
    (b off : Nat) (cells : Array Value) (hx : a.eval x = .pointer (some ⟨b, off, none⟩)) (hy : a.eval y = .agg cells)
    (ht : w.there b off cells.size) (hi : (P.info? ty).map (·.size) = some cells.size) (h1 : cells.all (·.oneCell') = true)
    (h : K (a.put o.dst undef) (w.setCells b off cells.toList)) :
    if Region.wanted o (yielded ops a.tmps) = true then Oper.wp P o a w K Q else E := by
  have hw : Region.wanted o (yielded ops a.tmps) = true := by simp [Region.wanted, hgd]
  rw [if_pos hw]
  exact wp_store_mid ty x y ho b off cells hx hy ht hi h1 h

theorem below_sets {B b : Nat} {a : World} (hb : B ≤ b) : ∀ (vs : List Value) (o : Nat) (w : World), Below B a w → Below B a (w.setCells b o vs)
  | [], _, _, h => h
  | v :: r, o, w, h => below_sets hb r (o + 1) _ (h.setCell (p := ⟨b, o, none⟩) hb v)

theorem there_below {w w' : World} {b o n : Nat} (h : w.there b o n) (hb : Below w.heap.size w w') (hlt : b < w.heap.size) : w'.there b o n := fun j hj =>
  ⟨by rw [hb.cell (by exact hlt)]; exact (h j hj).1, by rw [hb.frozen (by exact hlt)]; exact (h j hj).2⟩

theorem range_below {w w' : World} {b o : Nat} {cs : List Value} (h : w.rangeAt b o cs) (hb : Below w.heap.size w w') (hlt : b < w.heap.size) : w'.rangeAt b o cs := fun j v hj => by
  rw [hb.cell (by exact hlt)]; exact h j v hj

theorem valC_one (k : Int) (f : Nat) (s : ByteArray) (b t : Bool) : (valC k f s b t).all (·.oneCell') = true := by simp [valC, Value.oneCell']

theorem sc_run (w : World) (b o : Nat) (k : Int) (f : Nat) (s : ByteArray) (bb t : Bool) (ht : w.there b o 9) :
    (storeCells ⟨b, o, none⟩ (valC k f s bb t).toList).run Try.prog w = .ok () (w.setCells b o (valC k f s bb t).toList) := by
  have := run_storeCells_cells (P := Try.prog) b o (valC k f s bb t).toList 0 w (fun j hj => by simpa using (ht j hj).1) (fun j hj => by simpa using (ht j hj).2)
    (fun v hv => (Array.all_eq_true_iff_forall_mem.1 (valC_one k f s bb t)) v (by simpa using hv))
  simpa only [Nat.add_zero] using this

def valL (x : NV) : List Value := (valC x.k x.f x.s x.b x.t).toList
theorem valL_len (x : NV) : (valL x).length = 9 := rfl

/-- The first k values are laid. -/
def LaidA (w : World) (g : Nat) (vs : List NV) (k : Nat) : Prop := ∀ i (h : i < vs.length), i < k → w.rangeAt g (i * 9) (valL vs[i])

theorem LaidA.va {w : World} {g : Nat} {vs : List NV} (h : LaidA w g vs vs.length) (hg : g < w.heap.size) : VA w g vs := by
  refine ⟨fun _ => hg, fun i hi => ?_⟩
  have h := h i hi hi
  exact ⟨h 0 _ rfl, h 1 _ rfl, h 2 _ rfl, h 3 _ rfl, h 4 _ rfl, h 5 _ rfl, h 6 _ rfl, h 7 _ rfl, h 8 _ rfl⟩

set_option maxRecDepth 100000 in
set_option maxHeartbeats 4000000 in
theorem build17 (a : Option Addr) (l c : Nat) (vs : List NV) (w : World) (hl : vs.length = l) (hm : l ≤ 65536) (hs : VS w a vs) :
    Calls Try.prog 17 #[.slice a l c] w fun e w' => ∃ g, e = .returned (.slice (some ⟨g, 0, none⟩) l l) ∧ VA w' g vs ∧ Below w.heap.size w w' := by
  obtain ⟨i0, hi, hz0, hz1, hz2⟩ := info_parts Try.info59
  have HL := hide hl
  have HS := hide hs
  clear hl hs
  go_enter Try.func17, Try.ntmps17
  go_wp2_with (first
    | (at_make; refine wpList_make_full _ rfl _ _ 45 rfl w.heap.size 59 i0 (.agg zeroC) 9 Try.underlying45 hi hz0 hz1 .i64 .i64 _ _ l rfl rfl rfl rfl ?_ ?_ ?_ ?_; rw [hz2]; omega; unfold maxLen; omega; exact Nat.le_refl _; intro w1 hown hgrow; have HB1 : Hid (Below w.heap.size w w1) := (Below.refl _ _).grown hgrow (by simp) (by simp); have HO1 : Hid (∃ D, w1.ownsRow w.heap.size 59 9 (.slice (some ⟨w.heap.size, 0, none⟩) l l) l D) := ⟨_, hown⟩; clear hown hgrow))
  obtain ⟨gb, hgb⟩ : ∃ gb, w.heap.size = gb := ⟨_, rfl⟩
  have HGB : Hid (w.heap.size ≤ gb) := by rw [hgb]; exact Nat.le_refl gb
  rw [hgb] at HO1
  rw [hgb]
  have HT1 : Hid (gb < w1.heap.size ∧ w1.there gb 0 (l * 9)) := by
    obtain ⟨D, hD⟩ := HO1.out
    refine ⟨(hD.lt gb rfl).2, fun j hj => ?_⟩
    rw [Nat.zero_add]
    have h1 := hD.cellAt j hj
    have h2 := hD.1
    rw [List.getElem?_eq_getElem (by omega)] at h1
    exact ⟨by rw [h1]; rfl, hD.frozenAt j⟩
  clear hgb HO1 hi hz0 hz1 hz2
  go_loopw [10] (fun i wr => ∃ k : Nat, k ≤ l ∧ i = .int .i64 k ∧ Hid (Below w.heap.size w wr) ∧ Hid (gb < wr.heap.size ∧ wr.there gb 0 (l * 9)) ∧ Hid (LaidA wr gb vs k)) (fun i _ => l - (intOf i).toNat)
  case atStart => exact ⟨0, Nat.zero_le _, rfl, HB1, HT1, fun i _ h => absurd h (Nat.not_lt_zero i)⟩
  case round =>
    clear HB1 HT1
    obtain ⟨k, hk, rfl, hb, hth, hlaid⟩ := hrel
    by_cases hlt : k < l
    · have hkn : k < vs.length := by have := HL.out; omega
      obtain ⟨b, off, rfl, hbl⟩ := HS.out.there (by omega)
      have HBlt : Hid (b < wr.heap.size) := Nat.lt_of_lt_of_le hbl hb.out.size
      have HBne : Hid (b ≠ gb) := by have := HGB.out; show b ≠ gb; omega
      clear hbl
      obtain ⟨h1, h2, h3, h4, h5⟩ := (HS.out.below hb.out).cells k hkn
      obtain ⟨x, hx⟩ : ∃ x, vs[k] = x := ⟨_, rfl⟩
      rw [hx] at h1 h2 h3 h4 h5
      obtain ⟨xk, xf, xs, xb, xt⟩ := x
      simp only [] at h1 h2 h3 h4 h5
      have HX := hide hx
      clear hx
      go_wp2
      go_region_held3 (fun w' => w'.cell? ⟨b, off + k * 5, none⟩ = some (.int .i64 xk) ∧ w'.cell? ⟨b, off + k * 5 + 1, none⟩ = some (.float .f64 xf) ∧ w'.cell? ⟨b, off + k * 5 + 2, none⟩ = some (.string xs) ∧ w'.cell? ⟨b, off + k * 5 + 3, none⟩ = some (.bool xb) ∧ w'.cell? ⟨b, off + k * 5 + 4, none⟩ = some (.bool xt)) (go_keep)
        (first
        | (go_at_call 33; refine (numValue33 xk xf xs xb xt wr.drew).mono ?_; rintro e w2 ⟨rfl, hb2⟩; have HB2 : Hid (Below wr.heap.size wr w2) := (Below.refl _ _).drew.trans hb2; have HT2 : Hid (w2.there gb (k * 9) 9) := (fun j hj => by have h := there_below hth.out.2 HB2.out hth.out.1 (k * 9 + j) (by omega); rwa [Nat.zero_add] at h); have hsc := sc_run w2 gb (k * 9) xk xf xs xb xt HT2.out; have hvs : (valC xk xf xs xb xt).size = 9 := rfl; have h1' := (HB2.out.cell (p := ⟨b, off + k * 5, none⟩) (by exact HBlt.out)).trans h1; have h2' := (HB2.out.cell (p := ⟨b, off + k * 5 + 1, none⟩) (by exact HBlt.out)).trans h2; have h3' := (HB2.out.cell (p := ⟨b, off + k * 5 + 2, none⟩) (by exact HBlt.out)).trans h3; have h4' := (HB2.out.cell (p := ⟨b, off + k * 5 + 3, none⟩) (by exact HBlt.out)).trans h4; have h5' := (HB2.out.cell (p := ⟨b, off + k * 5 + 4, none⟩) (by exact HBlt.out)).trans h5; have hout := fun o => World.cell?_setCells_out gb (valC xk xf xs xb xt).toList (k * 9) w2 ⟨b, o, none⟩ (fun e => absurd e HBne.out); clear hb2))
      clear hsc hvs h1' h2' h3' h4' h5' hout
      go_wp2
      go_roundw
      case rel =>
        have hth2 := there_below hth.out.2 HB2.out hth.out.1
        refine ⟨k + 1, by omega, by go_num, ?_, ?_, ?_⟩
        · exact below_sets HGB.out _ _ _ (hb.out.trans (HB2.out.mono hb.out.size))
        · refine ⟨?_, World.there_setCells hth2 _ _ _⟩
          have q1 := (below_sets (a := w2) (Nat.zero_le gb) (valC xk xf xs xb xt).toList (k * 9) w2 (Below.refl 0 w2)).size
          have q2 := HB2.out.size
          have q3 := hth.out.1
          omega
        · intro i hi hik
          by_cases e : i = k
          · subst e
            rw [HX.out]
            exact World.rangeAt_setCells_same w2 gb (i * 9) (valL ⟨xk, xf, xs, xb, xt⟩) HT2.out
          · exact World.rangeAt_setCells_apart (range_below (hlaid.out i hi (by omega)) HB2.out hth.out.1) _ _ _ (.inr (.inl (by rw [valL_len]; omega)))
      case measure => simp [intOf]; omega
    · obtain rfl : k = l := by omega
      go_wp2
      go_ret
      have hll := HL.out
      exact ⟨gb, rfl, LaidA.va (by have := hlaid.out; rwa [← hll] at this) hth.out.1, hb.out⟩
end Go.Proofs.Qxb6607685a
