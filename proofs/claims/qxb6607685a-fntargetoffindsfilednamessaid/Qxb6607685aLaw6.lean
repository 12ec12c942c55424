/- The statement 'Rows.FnTargetOfFindsFiledNamesSaid', proved: the frame, the walk by the texts that it imports. -/
import Derived.Test.Qxb6607685aRows
import Derived.Test.Qxb6607685aN10
import Derived.WalkKit
import Derived.ProofKit
import Derived.OpenShut
import Derived.ShutString
import Derived.SliceStrings
import Derived.ChangeOld
import Derived.Below
import Derived.Carry
namespace Go.Proofs.Qxb6607685a.fnTargetOfFindsFiledNames
open Go.ChangeShapes Go.WideShapes Go.ChangeAt Go.RowKit
open Go.ChangeMaps (open_string shut_string)
set_option linter.unusedVariables false
set_option linter.unusedSimpArgs false

theorem own : ownKnob Try.prog.godebug = none := by kernel_rfl
theorem laidOut : laidOutB Try.prog = true := by kernel_rfl

theorem plain_of_cell {w : World} {x : Addr} {v : Value} (h : w.cell? (x.add 0) = some v) : ∃ b off, x = ⟨b, off, none⟩ ∧ b < w.heap.size := by
  obtain ⟨b, off, sp⟩ := x
  have hsp : sp = none := by
    cases sp with
    | none => rfl
    | some s => simp [World.cell?, Addr.add] at h; split at h <;> simp_all
  subst hsp
  have := World.block_lt_of_cell? w _ h
  exact ⟨b, off, rfl, by simpa [addr_add0] using this⟩

/-- What the walk is told of a slice of strings that came in. -/
def IsNames (w : World) (a : Option Addr) (len cap : Nat) (names : List (List UInt8)) : Prop :=
  names.length = len ∧ len ≤ maxLen ∧ SN w a names ∧ ∀ x ∈ names, x.length ≤ maxLen

theorem names_of_row {w : World} {a : Addr} {len cap : Nat} {ss : List ByteArray} (hl : len ≤ cap) (hm : cap ≤ maxLen) (hz : ss.length = cap)
    (hc : ∀ i, i < ss.length → w.cell? (a.add i) = some (.string (ss.getD i ByteArray.empty))) (hs : ∀ s ∈ ss, s.size ≤ maxLen) :
    IsNames w (some a) len cap ((ss.take len).map fun s => s.data.toList) := by
  refine ⟨by simp; omega, by omega, ?_, ?_⟩
  · rcases Nat.eq_zero_or_pos len with h0 | h0
    · subst h0; exact .inl (by simp)
    · obtain ⟨b, off, rfl, hb⟩ := plain_of_cell (hc 0 (by omega))
      refine .inr ⟨b, off, rfl, hb, fun i hi => ?_⟩
      have hi' : i < len := by simp at hi; omega
      have h2 := hc i (by omega)
      rw [addr_add0] at h2
      rw [h2]
      have e : ss.getD i ByteArray.empty = ss[i]'(by omega) := by simp [List.getD, List.getElem?_eq_getElem (show i < ss.length by omega)]
      rw [e]
      simp [sV]
  · intro x hx
    obtain ⟨s, hs', rfl⟩ := List.mem_map.1 hx
    have := hs s (List.mem_of_mem_take hs')
    show s.data.toList.length ≤ maxLen
    rw [Array.length_toList]
    exact this

/-! ### THE ROW's STEP -/
set_option maxRecDepth 100000 in
theorem lifted (os : Os) (started : os.Started) (H : Type) (enc : TypeId × Value → H) :
    ReturnsInHanded {} Try.checked os 6 .any (Rows.fnTargetOfFindsFiledNamesSpec.pre6 enc Try.prog Try.f6 Rows.fnTargetOfFindsFiledNamesRow.domain false) (Rows.fnTargetOfFindsFiledNamesSpec.post enc Try.prog Try.f6 false true false false) := by
  refine returnsInHanded_of_change (C := Try.checked) own started (by kernel_rfl) Try.func6
    (ChangeSpec.witness6 (enc := enc) (C := Try.checked) false ⟨#[], #[.slice none 0 0, .slice none 0 0, .string ByteArray.empty, .string ByteArray.empty], []⟩ 8 (by kernel_rfl) (by kernel_rfl) (by kernel_rfl) (by kernel_rfl)) ?_
  intro W base args ds gs before hval0 hW hcnd _
  have hval : ∀ (j : Nat) t v, Try.f6.params[j]? = some t → args[j]? = some v → Value.okWide Try.prog W .any base t v := hval0
  have hW' := hW
  obtain ⟨p, q, hA0, hV, rfl, hfz, hnd⟩ := hW
  have hA : DataW.TrodAll enc Try.prog W 0 (fun _ => true) true Try.f6.params.toList args.toList ds p := hA0
  rw [Try.params6] at hA hval
  obtain ⟨v0, vs0, d0, ds0, p0, q0, hargs, rfl, rfl, h0, r0⟩ := trodAll_cons hA
  obtain ⟨v1, vs1, d1, ds1, p1, q1, rfl, rfl, rfl, h1, r1⟩ := trodAll_cons r0
  obtain ⟨v2, vs2, d2, ds2, p2, q2, rfl, rfl, rfl, h2, r2⟩ := trodAll_cons r1
  obtain ⟨v3, vs3, d3, ds3, p3, q3, rfl, rfl, rfl, h3, r3⟩ := trodAll_cons r2
  obtain ⟨rfl, rfl, rfl⟩ := trodAll_nil r3
  obtain rfl : args = #[v0, v1, v2, v3] := by cases args; simp_all
  obtain ⟨rfl, rfl⟩ := trodVars_none hV
  obtain ⟨a0, len0, cap0, rfl⟩ := okWide_slice Try.underlying60 (hval 0 60 v0 rfl rfl)
  have k0 := h0
  have lt0 : ∀ x ∈ p0, x.block < W.heap.size := by obtain ⟨m, hm⟩ := k0; exact DataW.trod_lt m _ _ _ hm
  obtain ⟨z0, w0⟩ : ∃ zs, IsNames W a0 len0 cap0 zs := by
    obtain ⟨fuel, hf⟩ := h0
    rcases open_strings Try.underlying60 Try.underlying9 (by kernel_rfl) hf with ⟨hcs, _⟩ | ⟨x, l, c, ss, hcs, _, hl, hm, hz, _, hcell, hwz⟩
    · simp [Value.cells] at hcs
      obtain ⟨rfl, rfl, rfl⟩ := hcs
      exact ⟨[], rfl, Nat.zero_le _, .inl rfl, by simp⟩
    · simp [Value.cells] at hcs
      obtain ⟨rfl, rfl, rfl⟩ := hcs
      exact ⟨_, names_of_row hl hm (by simpa using hz) hcell hwz⟩
  obtain ⟨a1, len1, cap1, rfl⟩ := okWide_slice Try.underlying60 (hval 1 60 v1 rfl rfl)
  have k1 := h1
  have lt1 : ∀ x ∈ p1, x.block < W.heap.size := by obtain ⟨m, hm⟩ := k1; exact DataW.trod_lt m _ _ _ hm
  obtain ⟨z1, w1⟩ : ∃ zs, IsNames W a1 len1 cap1 zs := by
    obtain ⟨fuel, hf⟩ := h1
    rcases open_strings Try.underlying60 Try.underlying9 (by kernel_rfl) hf with ⟨hcs, _⟩ | ⟨x, l, c, ss, hcs, _, hl, hm, hz, _, hcell, hwz⟩
    · simp [Value.cells] at hcs
      obtain ⟨rfl, rfl, rfl⟩ := hcs
      exact ⟨[], rfl, Nat.zero_le _, .inl rfl, by simp⟩
    · simp [Value.cells] at hcs
      obtain ⟨rfl, rfl, rfl⟩ := hcs
      exact ⟨_, names_of_row hl hm (by simpa using hz) hcell hwz⟩
  have k2 := h2
  have lt2 : ∀ x ∈ p2, x.block < W.heap.size := by obtain ⟨m, hm⟩ := k2; exact DataW.trod_lt m _ _ _ hm
  obtain ⟨s2, rfl⟩ := okWide_string Try.underlying9 (hval 2 9 v2 rfl rfl)
  have w2 : s2.size ≤ maxLen := by
    obtain ⟨fuel, hf⟩ := h2
    obtain ⟨s', e, _, hs'⟩ := DataW.trod_string Try.underlying9 hf
    simp [Value.cells] at e
    rw [e]; exact hs'
  have k3 := h3
  have lt3 : ∀ x ∈ p3, x.block < W.heap.size := by obtain ⟨m, hm⟩ := k3; exact DataW.trod_lt m _ _ _ hm
  obtain ⟨s3, rfl⟩ := okWide_string Try.underlying9 (hval 3 9 v3 rfl rfl)
  have w3 : s3.size ≤ maxLen := by
    obtain ⟨fuel, hf⟩ := h3
    obtain ⟨s', e, _, hs'⟩ := DataW.trod_string Try.underlying9 hf
    simp [Value.cells] at e
    rw [e]; exact hs'
  clear hA0 hval0
  refine (law6 a0 len0 cap0 z0 a1 len1 cap1 z1 s2.data.toList s3.data.toList W w0.1 w0.2.1 w0.2.2.1 w0.2.2.2 w1.1 w1.2.1 w1.2.2.1 w1.2.2.2 (by rw [Array.length_toList]; exact w2) (by rw [Array.length_toList]; exact w3)).mono fun e W' ⟨he, bel⟩ => ?_
  subst he
  exact ⟨_, rfl, _, _, _, [], _, [], hW', trodAll_mk1 (shut_bool Try.underlying4 _), (trodAll_cons_mk (Below.trod laidOut (by kernel_rfl) (of_decide_eq_true (by kernel_rfl)) k0 bel lt0) (trodAll_cons_mk (Below.trod laidOut (by kernel_rfl) (of_decide_eq_true (by kernel_rfl)) k1 bel lt1) (trodAll_cons_mk (Below.trod laidOut (by kernel_rfl) (of_decide_eq_true (by kernel_rfl)) k2 bel lt2) (trodAll_cons_mk (Below.trod laidOut (by kernel_rfl) (of_decide_eq_true (by kernel_rfl)) k3 bel lt3) trodAll_mk0)))), rfl, bel.frame _, fun h => by cases h⟩

theorem over : Rows.fnTargetOfFindsFiledNamesRow.holds Try.pinned (OpenSpec.ofChange Rows.fnTargetOfFindsFiledNamesSpec) :=
  OpenClaim.holds_of_wide 6 Try.f6 rfl rfl rfl rfl rfl rfl rfl ⟨rfl, rfl, rfl, rfl, rfl⟩ rfl rfl rfl rfl rfl (by kernel_rfl) Try.func6 (by kernel_rfl)
    (of_decide_eq_true (by kernel_rfl)) (by unfold Func.isWrapper; first | (rw [if_pos (by decide +kernel)]; kernel_rfl) | (rw [if_neg (by decide +kernel)]; exact ⟨rfl, rfl⟩))
    (fun os started H enc _ => lifted os started H enc)

/-- THE STATEMENT -/
theorem proved : Rows.FnTargetOfFindsFiledNamesSaid := over
#print axioms proved
end Go.Proofs.Qxb6607685a.fnTargetOfFindsFiledNames
