/- The statement 'Rows.FnNumbersResultIsFreshSaid', proved: the frame, the walk by the texts that it imports. -/
import Derived.Test.Qxb6607685aRows
import Derived.Test.Qxb6607685aP5
import Derived.WalkKit
import Derived.ProofKit
import Derived.OpenShut
import Derived.ShutString
import Derived.ChangeOld
import Derived.Below
import Derived.Carry
import Derived.Deep.Slices
namespace Go.Proofs.Qxb6607685a.fnNumbersResultIsFresh
open Go.ChangeShapes Go.WideShapes Go.ChangeAt Go.RowKit
set_option linter.unusedVariables false
set_option linter.unusedSimpArgs false

theorem own : ownKnob Try.prog.godebug = none := by kernel_rfl
theorem laidOut : laidOutB Try.prog = true := by kernel_rfl

theorem plain_of_cell {w : World} {x : Addr} {v : Value} (h : w.cell? (x.add 0) = some v) : ∃ b off, x = ⟨b, off, none⟩ ∧ b < w.heap.size := by
  obtain ⟨b, off, sp⟩ := x
  have hsp : sp = none := by
    cases sp with
    | none => rfl
    | some s => simp [World.cell?, Addr.add] at h; split at h <;> simp_all
  subst hsp
  have := World.block_lt_of_cell? w _ h
  exact ⟨b, off, rfl, by simpa [addr_add0] using this⟩

theorem add_add (x : Addr) (m j : Nat) : (x.add m).add j = x.add (m + j) := by
  unfold Addr.add
  by_cases hm : m = 0 <;> by_cases hj : j = 0 <;> simp [hm, hj, Nat.add_assoc]

theorem trod_float {H : Type} {enc : TypeId × Value → H} {P : Program} {w : World} {base : Nat} {spare : Nat → Bool} {held : Bool} {fuel : Nat} {t : TypeId} {cs : List Value} {x : DataW H × List MemPlace}
    (ht : P.underlying t = some (.float .f64)) (h : DataW.trod enc P w base spare held fuel t cs = some x) : ∃ n, cs = [.float .f64 n] ∧ (Lit.float .f64 n).wf = true := by
  cases fuel with
  | zero => simp [DataW.trod] at h
  | succ n =>
    unfold DataW.trod at h
    rw [ht] at h
    split at h <;> simp_all

theorem cells52 : Try.prog.cellsOf 52 = 5 := by kernel_rfl
theorem cells3 : Try.prog.cellsOf 3 = 1 := by kernel_rfl
theorem cells49 : Try.prog.cellsOf 49 = 1 := by kernel_rfl
theorem cells9 : Try.prog.cellsOf 9 = 1 := by kernel_rfl
theorem cells4 : Try.prog.cellsOf 4 = 1 := by kernel_rfl

set_option maxRecDepth 100000 in
/-- One element that came in. -/
theorem elem_open {H : Type} {enc : TypeId × Value → H} {w : World} {base : Nat} {spare : Nat → Bool} {held : Bool} {n : Nat} {cs : List Value} {x : DataW H × List MemPlace}
    (h : DataW.trod enc Try.prog w base spare held n 52 cs = some x) : ∃ v : NV, cs = [.int .i64 v.k, .float .f64 v.f, .string v.s, .bool v.b, .bool v.t] ∧ v.s.size ≤ maxLen ∧ v.f < 18446744073709551616 := by
  obtain ⟨xs, m, rfl, rfl, hcl, hxl, hf⟩ := DataW.trod_struct Try.underlying52 h
  rw [cells52] at hcl
  match cs, hcl with
  | [c0, c1, c2, c3, c4], _ =>
    have hxl' : xs.length = 5 := hxl
    match xs, hxl' with
    | [x0, x1, x2, x3, x4], _ =>
      have f0 : DataW.trod enc Try.prog w base spare held m 3 [c0] = some x0 := by simpa [cells3, cells49, cells9, cells4] using hf 0 _ rfl
      have f1 : DataW.trod enc Try.prog w base spare held m 49 [c1] = some x1 := by simpa [cells3, cells49, cells9, cells4] using hf 1 _ rfl
      have f2 : DataW.trod enc Try.prog w base spare held m 9 [c2] = some x2 := by simpa [cells3, cells49, cells9, cells4] using hf 2 _ rfl
      have f3 : DataW.trod enc Try.prog w base spare held m 4 [c3] = some x3 := by simpa [cells3, cells49, cells9, cells4] using hf 3 _ rfl
      have f4 : DataW.trod enc Try.prog w base spare held m 4 [c4] = some x4 := by simpa [cells3, cells49, cells9, cells4] using hf 4 _ rfl
      obtain ⟨k, e0, _⟩ := DataW.trod_int Try.underlying3 f0
      obtain ⟨f, e1, wf⟩ := trod_float Try.underlying49 f1
      obtain ⟨s, e2, _, hs⟩ := DataW.trod_string Try.underlying9 f2
      obtain ⟨b, e3, _⟩ := DataW.trod_bool Try.underlying4 f3
      obtain ⟨t, e4, _⟩ := DataW.trod_bool Try.underlying4 f4
      refine ⟨⟨k, f, s, b, t⟩, ?_, hs, ?_⟩
      · simp_all
      · simpa [Lit.wf] using wf

/-- What the walk is told of the slice that came in. -/
def IsVs (w : World) (a : Option Addr) (len : Nat) (vs : List NV) : Prop :=
  vs.length = len ∧ len ≤ maxLen ∧ VS w a vs ∧ (∀ x ∈ vs, x.s.size ≤ maxLen) ∧ ∀ x ∈ vs, x.f < 18446744073709551616

theorem vs_of_row {w : World} {a : Addr} {len : Nat} (hm : len ≤ maxLen)
    (h : ∀ i, i < len → ∃ v : NV, (w.cell? (a.add (i * 5)) = some (.int .i64 v.k) ∧ w.cell? (a.add (i * 5 + 1)) = some (.float .f64 v.f) ∧ w.cell? (a.add (i * 5 + 2)) = some (.string v.s) ∧ w.cell? (a.add (i * 5 + 3)) = some (.bool v.b) ∧ w.cell? (a.add (i * 5 + 4)) = some (.bool v.t)) ∧ v.s.size ≤ maxLen ∧ v.f < 18446744073709551616) :
    ∃ vs, IsVs w (some a) len vs := by
  haveI : Inhabited NV := ⟨⟨0, 0, ByteArray.empty, false, false⟩⟩
  obtain ⟨F, hF⟩ := Go.Deep.choose_lt h
  refine ⟨(List.range len).map F, by simp, hm, ?_, ?_, ?_⟩
  · rcases Nat.eq_zero_or_pos len with h0 | h0
    · subst h0; exact .inl rfl
    · obtain ⟨b, off, rfl, hb⟩ := plain_of_cell (by simpa using (hF 0 h0).1.1)
      refine .inr ⟨b, off, rfl, hb, fun i hi => ?_⟩
      have hi' : i < len := by simpa using hi
      obtain ⟨g0, g1, g2, g3, g4⟩ := (hF i hi').1
      rw [addr_add0] at g0 g1 g2 g3 g4
      rw [List.getElem_map, List.getElem_range]
      exact ⟨g0, g1, g2, g3, g4⟩
  · intro x hx
    obtain ⟨i, hi, rfl⟩ := List.mem_map.1 hx
    exact (hF i (by simpa using hi)).2.1
  · intro x hx
    obtain ⟨i, hi, rfl⟩ := List.mem_map.1 hx
    exact (hF i (by simpa using hi)).2.2

/-! ### THE ROW's STEP -/
set_option maxRecDepth 100000 in
theorem lifted (os : Os) (started : os.Started) (H : Type) (enc : TypeId × Value → H) :
    ReturnsInHanded {} Try.checked os 5 .any (Rows.fnNumbersResultIsFreshSpec.pre6 enc Try.prog Try.f5 Rows.fnNumbersResultIsFreshRow.domain false) (Rows.fnNumbersResultIsFreshSpec.post enc Try.prog Try.f5 false true false false) := by
  refine returnsInHanded_of_change (C := Try.checked) own started (by kernel_rfl) Try.func5
    (ChangeSpec.witness6 (enc := enc) (C := Try.checked) false ⟨#[], #[.slice none 0 0], []⟩ 8 (by kernel_rfl) (by kernel_rfl) (by kernel_rfl) (by kernel_rfl)) ?_
  intro W base args ds gs before hval0 hW hcnd _
  have hval : ∀ (j : Nat) t v, Try.f5.params[j]? = some t → args[j]? = some v → Value.okWide Try.prog W .any base t v := hval0
  have hW' := hW
  obtain ⟨p, q, hA0, hV, rfl, hfz, hnd⟩ := hW
  have hA : DataW.TrodAll enc Try.prog W 0 (fun _ => true) true Try.f5.params.toList args.toList ds p := hA0
  rw [Try.params5] at hA hval
  obtain ⟨v0, vs0, d0, ds0, p0, q0, hargs, rfl, rfl, h0, r0⟩ := trodAll_cons hA
  obtain ⟨rfl, rfl, rfl⟩ := trodAll_nil r0
  obtain rfl : args = #[v0] := by cases args; simp_all
  obtain ⟨rfl, rfl⟩ := trodVars_none hV
  obtain ⟨a0, len0, cap0, rfl⟩ := okWide_slice Try.underlying42 (hval 0 42 v0 rfl rfl)
  have k0 := h0
  have lt0 : ∀ x ∈ p0, x.block < W.heap.size := by obtain ⟨m, hm⟩ := k0; exact DataW.trod_lt m _ _ _ hm
  obtain ⟨z0, w0⟩ : ∃ zs, IsVs W a0 len0 zs := by
    obtain ⟨fuel, hf⟩ := h0
    rcases Go.Deep.open_slice Try.underlying42 hf with ⟨hcs, _⟩ | ⟨x, l, c, m, n, D, Pl, hcs, _, hl, hm, hmm, _, hel⟩
    · simp [Value.cells] at hcs
      obtain ⟨rfl, rfl, rfl⟩ := hcs
      exact ⟨[], rfl, Nat.zero_le _, .inl rfl, by simp, by simp⟩
    · simp [Value.cells] at hcs
      obtain ⟨rfl, rfl, rfl⟩ := hcs
      have hmc : m = cap0 := by simpa using hmm
      refine vs_of_row (by omega) (fun i hi => ?_)
      obtain ⟨cs', h1, h2⟩ := hel i (by omega)
      rw [cells52] at h1
      obtain ⟨v, rfl, hs, hfl⟩ := elem_open h2
      obtain ⟨_, _, hc⟩ := World.cells?_some h1
      have ha : ∀ j, (x.add (i * 5)).add j = x.add (i * 5 + j) := add_add x (i * 5)
      refine ⟨v, ⟨?_, ?_, ?_, ?_, ?_⟩, hs, hfl⟩
      · have := hc 0 (by omega); rw [ha] at this; exact this
      · have := hc 1 (by omega); rw [ha] at this; exact this
      · have := hc 2 (by omega); rw [ha] at this; exact this
      · have := hc 3 (by omega); rw [ha] at this; exact this
      · have := hc 4 (by omega); rw [ha] at this; exact this
  clear hA0 hval0
  refine (law5 a0 len0 cap0 z0 W w0.1 w0.2.1 w0.2.2.1 w0.2.2.2.1 w0.2.2.2.2).mono fun e W' ⟨he, bel⟩ => ?_
  subst he
  exact ⟨_, rfl, _, _, _, [], _, [], hW', trodAll_mk1 (shut_bool Try.underlying4 _), (trodAll_cons_mk (Below.trod laidOut (by kernel_rfl) (of_decide_eq_true (by kernel_rfl)) k0 bel lt0) trodAll_mk0), rfl, bel.frame _, fun h => by cases h⟩

theorem over : Rows.fnNumbersResultIsFreshRow.holds Try.pinned (OpenSpec.ofChange Rows.fnNumbersResultIsFreshSpec) :=
  OpenClaim.holds_of_wide 5 Try.f5 rfl rfl rfl rfl rfl rfl rfl ⟨rfl, rfl, rfl, rfl, rfl⟩ rfl rfl rfl rfl rfl (by kernel_rfl) Try.func5 (by kernel_rfl)
    (of_decide_eq_true (by kernel_rfl)) (by unfold Func.isWrapper; first | (rw [if_pos (by decide +kernel)]; kernel_rfl) | (rw [if_neg (by decide +kernel)]; exact ⟨rfl, rfl⟩))
    (fun os started H enc _ => lifted os started H enc)

/-- THE STATEMENT -/
theorem proved : Rows.FnNumbersResultIsFreshSaid := over
#print axioms proved
end Go.Proofs.Qxb6607685a.fnNumbersResultIsFresh
