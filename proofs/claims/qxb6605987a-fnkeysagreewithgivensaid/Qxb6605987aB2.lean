import Derived.Test.Qxb6605987aB1
namespace Go.Proofs.Qxb6605987a
open Go.RowKit
set_option linter.unusedVariables false
set_option linter.unusedSimpArgs false

theorem Try.info5 : (Try.prog.info? 5).map (fun i => (i.zero, i.size, i.bytes)) = some (some (.int .u8 0), 1, 1) := by kernel_rfl
theorem Try.size5 : (Try.prog.info? 5).map (·.size) = some 1 := by kernel_rfl

/-- The cell of a byte. -/
def cB (b : UInt8) : Value := .int .u8 (b.toNat : Int)

/-- The slice at 'a' reads the cells 'cs' (one cell an element). -/
def SC (w : World) (a : Option Addr) (cs : List Value) : Prop :=
  cs = [] ∨ ∃ b off, a = some ⟨b, off, none⟩ ∧ b < w.heap.size ∧ ∀ i (h : i < cs.length), w.cell? ⟨b, off + i, none⟩ = some cs[i]

theorem SC.below {w w' : World} {a : Option Addr} {cs : List Value} (h : SC w a cs) (hb : Below w.heap.size w w') : SC w' a cs := by
  rcases h with h | ⟨b, off, rfl, hlt, hc⟩
  · exact .inl h
  · exact .inr ⟨b, off, rfl, Nat.lt_of_lt_of_le hlt hb.size, fun i hi => by rw [hb.cell (by exact hlt)]; exact hc i hi⟩

theorem addr_add0 (b off j : Nat) : (⟨b, off, none⟩ : Addr).add j = ⟨b, off + j, none⟩ := by unfold Addr.add; split <;> simp_all

/-- The slice at 'a' reads the bytes 'bs'. -/
def SB (w : World) (a : Option Addr) (bs : List UInt8) : Prop := SC w a (bs.map cB)

theorem SB.below {w w' : World} {a : Option Addr} {bs : List UInt8} (h : SB w a bs) (hb : Below w.heap.size w w') : SB w' a bs := SC.below h hb
theorem SB.nil (w : World) (a : Option Addr) : SB w a [] := .inl rfl

theorem SB.cell {w : World} {b off : Nat} {bs : List UInt8} (h : SB w (some ⟨b, off, none⟩) bs) (i : Nat) (hi : i < bs.length) : w.cell? ⟨b, off + i, none⟩ = some (cB bs[i]) := by
  rcases h with h | ⟨b', off', e, _, hc⟩
  · simp at h; subst h; simp at hi
  · cases e
    have := hc i (by simpa using hi)
    simpa using this

theorem oneB (bs : List UInt8) : ∀ v ∈ bs.map cB, v.oneCell' = true := by
  intro v hv
  obtain ⟨b, _, rfl⟩ := List.mem_map.1 hv
  rfl

/-- A part of a slice that reads. -/
theorem SC.part {w : World} {a : Option Addr} {b off : Nat} {cs : List Value} (h : SC w (some ⟨b, off, none⟩) cs) (x n : Nat) (hx : x + n ≤ cs.length) : SC w (some ⟨b, off + x, none⟩) ((cs.drop x).take n) := by
  rcases h with rfl | ⟨b', off', e, hlt, hc⟩
  · exact .inl (by simp)
  · cases e
    refine .inr ⟨b, off + x, rfl, hlt, fun i hi => ?_⟩
    have hi' : x + i < cs.length := by simp at hi; omega
    rw [Nat.add_assoc]
    rw [hc (x + i) hi']
    simp

/-- copy of cells into a row that was just made: the equation for the walk. -/
theorem copy_made (sT elem ty : TypeId) (hu : Try.prog.underlying sT = some (.slice elem)) (hz : (Try.prog.info? elem).map (·.size) = some 1)
    (w : World) (base g l c : Nat) (x : Addr) (cs : List Value) (zs : List Value) (hl : cs.length = l) (h1 : ∀ v ∈ cs, v.oneCell' = true)
    (hown : w.ownsRow base elem 1 (.slice (some ⟨g, 0, none⟩) l l) l zs) (hs : SC w (some x) cs) :
    ∃ w2, (Builtin.copy_ #[sT, sT] ty #[.slice (some ⟨g, 0, none⟩) l l, .slice (some x) l c]).run Try.prog w = .ok (goInt l) w2 ∧
      SC w2 (some ⟨g, 0, none⟩) cs ∧ (∀ B w0, Below B w0 w → B ≤ g → Below B w0 w2) := by
  subst hl
  obtain ⟨hzz, hh⟩ := hown
  rcases hh with ⟨hh, _⟩ | ⟨g', cap, cur, hv, hb, hg, h1', h2, h3, h4⟩
  · cases hh
  cases hv
  rcases hs with rfl | ⟨b, off, hx, hlt, hc⟩
  · exact ⟨w, by simpa using run_copy_none (P := Try.prog) w sT sT ty elem (some ⟨g, 0, none⟩) (some x) 0 0 0 c hu hz rfl, .inl rfl, fun B w0 h _ => h⟩
  · cases hx
    have hrun := run_copy_row (P := Try.prog) w sT sT ty elem g 0 cs.length cs.length ⟨b, off, none⟩ cs.length c cur elem cs hu hz hg (by simp)
      (fun j v hj => by
        rw [addr_add0]
        rcases Nat.lt_or_ge j cs.length with hjl | hjl
        · rw [List.getElem?_eq_getElem hjl] at hj
          simp at hj; subst hj; exact hc j hjl
        · rw [List.getElem?_eq_none hjl] at hj; simp at hj) (by simp [h3]) h1
    refine ⟨_, hrun, .inr ⟨g, 0, rfl, ?_, ?_⟩, fun B w0 h hB => below_setRow h hB _⟩
    · simp [World.setRow]; exact (Array.getElem?_eq_some_iff.1 hg).1
    · intro i hi
      rw [cell_of_row _ _ _ _ _ _ (setRow_heap w g _ _ elem _ hg)]
      simp only [List.take_zero, List.nil_append, List.getElem?_toArray, Nat.zero_add]
      rw [List.getElem?_append_left hi]
      simp [hi]

set_option maxRecDepth 100000 in
theorem clone9 (a : Option Addr) (l c : Nat) (bs : List UInt8) (w : World) (hl : bs.length = l) (hm : l ≤ 1048576) (hn : a = none → l = 0) (hs : SB w a bs) :
    Calls Try.prog 9 #[.slice a l c] w fun e w' => ∃ a' c', e = .returned (.slice a' l c') ∧ SB w' a' bs ∧ Below w.heap.size w w' ∧ l ≤ c' ∧ c' ≤ 1048576 := by
  have hnil := fun (w : World) (a : Option Addr) (n c n' c' : Nat) => Lib.run_eql_slice_nil (P := Try.prog) w 22 5 a n c n' c' Try.underlying22
  cases a with
  | none =>
    have h0 : l = 0 := hn rfl
    obtain rfl : bs = [] := List.eq_nil_of_length_eq_zero (by omega)
    subst h0
    clear hl hn hm
    go_enter Try.func9, Try.ntmps9
    go_wp2
    go_ret
    exact ⟨none, 0, rfl, SB.nil _ _, Below.refl _ _, Nat.le_refl _, Nat.zero_le _⟩
  | some x =>
    obtain ⟨i0, hi, hz0, hz1, hz2⟩ := info_parts Try.info5
    clear hn
    go_enter Try.func9, Try.ntmps9
    go_wp2_with (first
      | (at_make; refine wpList_make_full _ rfl _ _ 22 rfl w.heap.size 5 i0 (.int .u8 0) 1 Try.underlying22 hi hz0 hz1 .i64 .i64 _ _ l rfl rfl rfl rfl ?_ ?_ ?_ ?_; rw [hz2]; omega; unfold maxLen; omega; exact Nat.le_refl _; intro w1 hown hgrow; have hb1 : Below w.heap.size w w1 := (Below.refl _ _).grown hgrow (Nat.le_refl _) (by simp); obtain ⟨w2, hcp, hs2, hb2⟩ := copy_made 22 5 3 Try.underlying22 Try.size5 w1 w.heap.size w.heap.size l c x (bs.map cB) _ (by simpa using hl) (oneB bs) hown (hs.below hb1); have hb3 := hb2 w.heap.size w hb1 (Nat.le_refl _); clear hb2 hown hgrow))
    go_ret
    exact ⟨_, _, rfl, hs2, hb3, Nat.le_refl _, hm⟩
end Go.Proofs.Qxb6605987a
