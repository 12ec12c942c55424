/- The statement 'Rows.FnKeysAgreeWithGivenSaid', proved: the frame after the kit's program's (proof-skeleton.mjs), the walk by the texts that it imports. -/
import Derived.Test.Qxb6605987aRows
import Derived.Test.Qxb6605987aD7
import Derived.WalkKit
import Derived.ProofKit
import Derived.OpenShut
import Derived.ShutString
import Derived.ChangeOld
import Derived.Below
import Derived.Deep.Grids
namespace Go.Proofs.Qxb6605987a.fnKeysAgreeWithGiven
open Go.ChangeShapes Go.WideShapes Go.ChangeAt Go.RowKit
open Go.ChangeMaps (open_string shut_string)
set_option linter.unusedVariables false
set_option linter.unusedSimpArgs false

theorem own : ownKnob Try.prog.godebug = none := by kernel_rfl
theorem laidOut : laidOutB Try.prog = true := by kernel_rfl

theorem byte_bounds {n : Int} (h : (Lit.int .u8 n).wf = true) : 0 ≤ n ∧ n < 256 := by
  simp [Lit.wf, IntKind.min, IntKind.max, IntKind.signed, IntKind.bits] at h
  omega
theorem u32_bounds {n : Int} (h : (Lit.int .u32 n).wf = true) : 0 ≤ n ∧ n < 4294967296 := by
  simp [Lit.wf, IntKind.min, IntKind.max, IntKind.signed, IntKind.bits] at h
  omega

/-- WHAT THE WALK IS TOLD OF A SLICE OF INTEGERS THAT CAME IN: it is nil; or it leads to a row of 'cap' cells, the numbers 'zs' (the first 'len' are its elements, the rest its spare room), each fitting its kind. -/
def IsRow (k : IntKind) (w : World) (a : Option Addr) (len cap : Nat) (zs : List Int) : Prop :=
  (a = none ∧ len = 0 ∧ cap = 0 ∧ zs = []) ∨
  ∃ x, a = some x ∧ len ≤ cap ∧ cap ≤ maxLen ∧ zs.length = cap ∧ (∀ i, i < zs.length → w.cell? (x.add i) = some (.int k (zs.getD i 0))) ∧ ∀ n ∈ zs, (Lit.int k n).wf = true

/-- The same of a slice of bools. -/
def IsBools (w : World) (a : Option Addr) (len cap : Nat) (B : Nat → Bool) : Prop :=
  (a = none ∧ len = 0 ∧ cap = 0) ∨ ∃ x, a = some x ∧ len ≤ cap ∧ cap ≤ maxLen ∧ ∀ i, i < cap → w.cell? (x.add i) = some (.bool (B i))

theorem plain_of_cell {w : World} {x : Addr} {v : Value} (h : w.cell? (x.add 0) = some v) : ∃ b off, x = ⟨b, off, none⟩ ∧ b < w.heap.size := by
  obtain ⟨b, off, sp⟩ := x
  have hsp : sp = none := by
    cases sp with
    | none => rfl
    | some s => simp [World.cell?, Addr.add] at h; split at h <;> simp_all
  subst hsp
  have := World.block_lt_of_cell? w _ h
  exact ⟨b, off, rfl, by simpa [addr_add0] using this⟩

/-- What a row of bytes that came in reads as. -/
theorem sb_of_row {w : World} {a : Option Addr} {len cap : Nat} {zs : List Int} (h : IsRow .u8 w a len cap zs) :
    ∃ bs : List UInt8, bs.length = len ∧ SB w a bs ∧ (a = none → len = 0 ∧ cap = 0) ∧ len ≤ maxLen := by
  rcases h with ⟨rfl, rfl, rfl, rfl⟩ | ⟨x, rfl, hl, hm, hz, hc, hw⟩
  · exact ⟨[], rfl, SB.nil _ _, fun _ => ⟨rfl, rfl⟩, Nat.zero_le _⟩
  · refine ⟨(zs.take len).map fun n => UInt8.ofNat n.toNat, by simp; omega, ?_, fun h => by simp at h, by omega⟩
    rcases Nat.eq_zero_or_pos len with h0 | h0
    · subst h0; simp; exact SB.nil _ _
    · obtain ⟨b, off, rfl, hb⟩ := plain_of_cell (hc 0 (by omega))
      refine .inr ⟨b, off, rfl, hb, fun i hi => ?_⟩
      have hi' : i < len := by simp at hi; omega
      have h2 := hc i (by omega)
      rw [addr_add0] at h2
      rw [h2]
      have hil : i < zs.length := by omega
      have hwz := hw _ (List.getElem_mem hil)
      have hb : 0 ≤ zs[i] ∧ zs[i] < 256 := byte_bounds hwz
      simp only [List.getD, List.getElem?_eq_getElem hil, Option.getD_some, List.getElem_map, List.getElem_take, cB]
      congr 2
      simp
      omega

/-- What a row of uint32 that came in reads as. -/
theorem sc_of_row {w : World} {a : Option Addr} {len cap : Nat} {zs : List Int} (h : IsRow .u32 w a len cap zs) :
    SC w a ((List.range len).map fun i => .int .u32 (((zs.getD i 0).toNat : Nat) : Int)) ∧ (∀ i, (zs.getD i 0).toNat < 4294967296) ∧ len ≤ maxLen := by
  rcases h with ⟨rfl, rfl, rfl, rfl⟩ | ⟨x, rfl, hl, hm, hz, hc, hw⟩
  · exact ⟨.inl rfl, fun i => by simp, Nat.zero_le _⟩
  · have hbd : ∀ i, 0 ≤ zs.getD i 0 ∧ zs.getD i 0 < 4294967296 := by
      intro i
      by_cases hil : i < zs.length
      · rw [List.getD, List.getElem?_eq_getElem hil]
        exact u32_bounds (hw _ (List.getElem_mem hil))
      · rw [List.getD, List.getElem?_eq_none (by omega)]
        simp
    refine ⟨?_, fun i => by have := hbd i; omega, by omega⟩
    rcases Nat.eq_zero_or_pos len with h0 | h0
    · subst h0; exact .inl rfl
    · obtain ⟨b, off, rfl, hb⟩ := plain_of_cell (hc 0 (by omega))
      refine .inr ⟨b, off, rfl, hb, fun i hi => ?_⟩
      have hi' : i < len := by simpa using hi
      have h2 := hc i (by omega)
      rw [addr_add0] at h2
      rw [h2, List.getElem_map, List.getElem_range, Int.toNat_of_nonneg (hbd i).1]

theorem sc_of_bools {w : World} {a : Option Addr} {len cap : Nat} {B : Nat → Bool} (h : IsBools w a len cap B) :
    SC w a ((List.range len).map fun i => .bool (B i)) ∧ len ≤ maxLen := by
  rcases h with ⟨rfl, rfl, rfl⟩ | ⟨x, rfl, hl, hm, hc⟩
  · exact ⟨.inl rfl, Nat.zero_le _⟩
  · refine ⟨?_, by omega⟩
    rcases Nat.eq_zero_or_pos len with h0 | h0
    · subst h0; exact .inl rfl
    · obtain ⟨b, off, rfl, hb⟩ := plain_of_cell (hc 0 (by omega))
      refine .inr ⟨b, off, rfl, hb, fun i hi => ?_⟩
      have hi' : i < len := by simpa using hi
      have h2 := hc i (by omega)
      rw [addr_add0] at h2
      rw [h2, List.getElem_map, List.getElem_range]

set_option maxRecDepth 100000 in
set_option maxHeartbeats 1000000 in
theorem early (a0 : Option Addr) (l0 c0 : Nat) (a1 : Option Addr) (l1 c1 : Nat) (a2 : Option Addr) (l2 c2 : Nat) (a3 : Option Addr) (l3 c3 : Nat) (a4 : Option Addr) (l4 c4 : Nat) (w : World)
    (m0 : l0 ≤ maxLen) (m1 : l1 ≤ maxLen) (m2 : l2 ≤ maxLen) (m3 : l3 ≤ maxLen) (m4 : l4 ≤ maxLen)
    (h : 262144 < l0 ∨ 262144 < l1 ∨ 4096 < l2 ∨ 4096 < l3 ∨ 4096 < l4 ∨ l3 ≠ l2 ∨ l4 ≠ l2) :
    Calls Try.prog 6 #[.slice a0 l0 c0, .slice a1 l1 c1, .slice a2 l2 c2, .slice a3 l3 c3, .slice a4 l4 c4] w fun e w' => e = .returned (.bool true) ∧ Below w.heap.size w w' := by
  have b0 := m0
  have b1 := m1
  have b2 := m2
  have b3 := m3
  have b4 := m4
  unfold maxLen at b0 b1 b2 b3 b4
  go_enter Try.func6, Try.ntmps6
  go_wp2_with fail
  refine (bytes21 a0 l0 c0 a1 l1 c1 a2 l2 c2 a3 l3 c3 a4 l4 c4 w m0 m1 m2 m3 m4).mono ?_
  rintro e w' ⟨⟨b, rfl⟩, hw⟩
  obtain rfl := hw.symm
  cases b
  · go_wp2_with fail
    go_ret
    exact ⟨rfl, Below.refl _ _⟩
  by_cases k0 : 262144 < l0
  · clear h
    go_wp2_with fail
    go_ret
    exact ⟨rfl, Below.refl _ _⟩
  by_cases k1 : 262144 < l1
  · clear h
    go_wp2_with fail
    go_ret
    exact ⟨rfl, Below.refl _ _⟩
  by_cases k2 : 4096 < l2
  · clear h
    go_wp2_with fail
    go_ret
    exact ⟨rfl, Below.refl _ _⟩
  by_cases k3 : 4096 < l3
  · clear h
    go_wp2_with fail
    go_ret
    exact ⟨rfl, Below.refl _ _⟩
  by_cases k4 : 4096 < l4
  · clear h
    go_wp2_with fail
    go_ret
    exact ⟨rfl, Below.refl _ _⟩
  have hs : l3 ≠ l2 ∨ l4 ≠ l2 := by omega
  have HS := hide hs
  clear h hs
  go_wp2_with fail
  have hc : Calls Try.prog 18 #[.int .i64 l0, .int .i64 l1, .slice a2 l2 c2, .slice a3 l3 c3, .slice a4 l4 c4] w fun e w' => e = .returned (.bool false) ∧ w' = w := by
    by_cases e3 : l3 = l2
    · subst e3
      exact spans18_ne2 l0 l1 a2 a3 a4 l3 c2 c3 l4 c4 w (by omega) (by omega) (by rcases HS.out with h | h; exact absurd rfl h; exact h)
    · exact spans18_ne1 l0 l1 a2 a3 a4 l2 c2 l3 c3 l4 c4 w (by omega) (by omega) (by omega) e3
  refine hc.mono ?_
  rintro e w' ⟨rfl, hw⟩
  obtain rfl := hw.symm
  clear hc
  go_wp2_with fail
  go_ret
  exact ⟨rfl, Below.refl _ _⟩

theorem walk (a0 : Option Addr) (len0 cap0 : Nat) (z0 : List Int) (a1 : Option Addr) (len1 cap1 : Nat) (z1 : List Int) (a2 : Option Addr) (len2 cap2 : Nat) (z2 : List Int) (a3 : Option Addr) (len3 cap3 : Nat) (z3 : List Int)
    (a4 : Option Addr) (len4 cap4 : Nat) (B : Nat → Bool) (w : World) (w0 : IsRow .u8 w a0 len0 cap0 z0) (w1 : IsRow .u8 w a1 len1 cap1 z1) (w2 : IsRow .u32 w a2 len2 cap2 z2) (w3 : IsRow .u32 w a3 len3 cap3 z3) (w4 : IsBools w a4 len4 cap4 B) :
    Calls Try.prog 6 #[.slice a0 len0 cap0, .slice a1 len1 cap1, .slice a2 len2 cap2, .slice a3 len3 cap3, .slice a4 len4 cap4] w fun e w' => e = .returned (.bool true) ∧ Below w.heap.size w w' := by
  obtain ⟨fbs, hfl, hf, hfn, m0⟩ := sb_of_row w0
  obtain ⟨ubs, hul, hu, hun, m1⟩ := sb_of_row w1
  obtain ⟨s2, d2, m2⟩ := sc_of_row w2
  obtain ⟨s3, d3, m3⟩ := sc_of_row w3
  obtain ⟨s4, m4⟩ := sc_of_bools w4
  by_cases k : 262144 < len0 ∨ 262144 < len1 ∨ 4096 < len2 ∨ 4096 < len3 ∨ 4096 < len4 ∨ len3 ≠ len2 ∨ len4 ≠ len2
  · exact early a0 len0 cap0 a1 len1 cap1 a2 len2 cap2 a3 len3 cap3 a4 len4 cap4 w m0 m1 m2 m3 m4 k
  · obtain rfl : len3 = len2 := by omega
    obtain rfl : len4 = len3 := by omega
    have hL : Lists w a2 a3 a4 len4 (fun i => ((z2.getD i 0).toNat, (z3.getD i 0).toNat, B i)) := ⟨s2, s3, s4⟩
    rcases Nat.eq_zero_or_pos len4 with h0 | h0
    · subst h0
      exact law6_zero a0 len0 cap0 a1 len1 cap1 a2 a3 a4 cap2 cap3 cap4 w fbs ubs (by omega) (by omega) hf hfl hfn hu hul hun
    · rcases id s2 with e | ⟨b2, o2, rfl, _⟩
      · simp at e; omega
      rcases id s3 with e | ⟨b3, o3, rfl, _⟩
      · simp at e; omega
      rcases id s4 with e | ⟨b4, o4, rfl, _⟩
      · simp at e; omega
      exact law6_pos a0 len0 cap0 a1 len1 cap1 b2 o2 cap2 b3 o3 cap3 b4 o4 cap4 len4 _ w fbs ubs (by omega) (by omega) (by omega) h0 hf hfl hfn hu hul hun hL (fun i _ => ⟨d2 i, d3 i⟩)

/-! ### THE ROW's STEP -/
set_option maxRecDepth 100000 in
theorem lifted (os : Os) (started : os.Started) (H : Type) (enc : TypeId × Value → H) :
    ReturnsInHanded {} Try.checked os 6 .any (Rows.fnKeysAgreeWithGivenSpec.pre6 enc Try.prog Try.f6 Rows.fnKeysAgreeWithGivenRow.domain false) (Rows.fnKeysAgreeWithGivenSpec.post enc Try.prog Try.f6 false true false false) := by
  refine returnsInHanded_of_change (C := Try.checked) own started (by kernel_rfl) Try.func6
    (ChangeSpec.witness6 (enc := enc) (C := Try.checked) false ⟨#[], #[.slice none 0 0, .slice none 0 0, .slice none 0 0, .slice none 0 0, .slice none 0 0], []⟩ 8 (by kernel_rfl) (by kernel_rfl) (by kernel_rfl) (by kernel_rfl)) ?_
  intro W base args ds gs before hval0 hW hcnd _
  have hval : ∀ (j : Nat) t v, Try.f6.params[j]? = some t → args[j]? = some v → Value.okWide Try.prog W .any base t v := hval0
  have hW' := hW
  obtain ⟨p, q, hA0, hV, rfl, hfz, hnd⟩ := hW
  have hA : DataW.TrodAll enc Try.prog W 0 (fun _ => true) true Try.f6.params.toList args.toList ds p := hA0
  rw [Try.params6] at hA hval
  obtain ⟨v0, vs0, d0, ds0, p0, q0, hargs, rfl, rfl, h0, r0⟩ := trodAll_cons hA
  obtain ⟨v1, vs1, d1, ds1, p1, q1, rfl, rfl, rfl, h1, r1⟩ := trodAll_cons r0
  obtain ⟨v2, vs2, d2, ds2, p2, q2, rfl, rfl, rfl, h2, r2⟩ := trodAll_cons r1
  obtain ⟨v3, vs3, d3, ds3, p3, q3, rfl, rfl, rfl, h3, r3⟩ := trodAll_cons r2
  obtain ⟨v4, vs4, d4, ds4, p4, q4, rfl, rfl, rfl, h4, r4⟩ := trodAll_cons r3
  obtain ⟨rfl, rfl, rfl⟩ := trodAll_nil r4
  obtain rfl : args = #[v0, v1, v2, v3, v4] := by cases args; simp_all
  obtain ⟨rfl, rfl⟩ := trodVars_none hV
  obtain ⟨a0, len0, cap0, rfl⟩ := okWide_slice Try.underlying22 (hval 0 22 v0 rfl rfl)
  have k0 := h0
  have lt0 : ∀ x ∈ p0, x.block < W.heap.size := by obtain ⟨m, hm⟩ := k0; exact DataW.trod_lt m _ _ _ hm
  obtain ⟨z0, w0⟩ : ∃ zs, IsRow .u8 W a0 len0 cap0 zs := by
    obtain ⟨fuel, hf⟩ := h0
    rcases open_ints Try.underlying22 Try.underlying5 (by kernel_rfl) hf with ⟨hcs, _⟩ | ⟨x, l, c, zs, hcs, _, hl, hm, hz, _, hcell, hwz⟩
    · simp [Value.cells] at hcs
      obtain ⟨rfl, rfl, rfl⟩ := hcs
      exact ⟨[], .inl ⟨rfl, rfl, rfl, rfl⟩⟩
    · simp [Value.cells] at hcs
      obtain ⟨rfl, rfl, rfl⟩ := hcs
      exact ⟨zs, .inr ⟨_, rfl, hl, hm, by simpa using hz, hcell, hwz⟩⟩
  obtain ⟨a1, len1, cap1, rfl⟩ := okWide_slice Try.underlying22 (hval 1 22 v1 rfl rfl)
  have k1 := h1
  have lt1 : ∀ x ∈ p1, x.block < W.heap.size := by obtain ⟨m, hm⟩ := k1; exact DataW.trod_lt m _ _ _ hm
  obtain ⟨z1, w1⟩ : ∃ zs, IsRow .u8 W a1 len1 cap1 zs := by
    obtain ⟨fuel, hf⟩ := h1
    rcases open_ints Try.underlying22 Try.underlying5 (by kernel_rfl) hf with ⟨hcs, _⟩ | ⟨x, l, c, zs, hcs, _, hl, hm, hz, _, hcell, hwz⟩
    · simp [Value.cells] at hcs
      obtain ⟨rfl, rfl, rfl⟩ := hcs
      exact ⟨[], .inl ⟨rfl, rfl, rfl, rfl⟩⟩
    · simp [Value.cells] at hcs
      obtain ⟨rfl, rfl, rfl⟩ := hcs
      exact ⟨zs, .inr ⟨_, rfl, hl, hm, by simpa using hz, hcell, hwz⟩⟩
  obtain ⟨a2, len2, cap2, rfl⟩ := okWide_slice Try.underlying30 (hval 2 30 v2 rfl rfl)
  have k2 := h2
  have lt2 : ∀ x ∈ p2, x.block < W.heap.size := by obtain ⟨m, hm⟩ := k2; exact DataW.trod_lt m _ _ _ hm
  obtain ⟨z2, w2⟩ : ∃ zs, IsRow .u32 W a2 len2 cap2 zs := by
    obtain ⟨fuel, hf⟩ := h2
    rcases open_ints Try.underlying30 Try.underlying23 (by kernel_rfl) hf with ⟨hcs, _⟩ | ⟨x, l, c, zs, hcs, _, hl, hm, hz, _, hcell, hwz⟩
    · simp [Value.cells] at hcs
      obtain ⟨rfl, rfl, rfl⟩ := hcs
      exact ⟨[], .inl ⟨rfl, rfl, rfl, rfl⟩⟩
    · simp [Value.cells] at hcs
      obtain ⟨rfl, rfl, rfl⟩ := hcs
      exact ⟨zs, .inr ⟨_, rfl, hl, hm, by simpa using hz, hcell, hwz⟩⟩
  obtain ⟨a3, len3, cap3, rfl⟩ := okWide_slice Try.underlying30 (hval 3 30 v3 rfl rfl)
  have k3 := h3
  have lt3 : ∀ x ∈ p3, x.block < W.heap.size := by obtain ⟨m, hm⟩ := k3; exact DataW.trod_lt m _ _ _ hm
  obtain ⟨z3, w3⟩ : ∃ zs, IsRow .u32 W a3 len3 cap3 zs := by
    obtain ⟨fuel, hf⟩ := h3
    rcases open_ints Try.underlying30 Try.underlying23 (by kernel_rfl) hf with ⟨hcs, _⟩ | ⟨x, l, c, zs, hcs, _, hl, hm, hz, _, hcell, hwz⟩
    · simp [Value.cells] at hcs
      obtain ⟨rfl, rfl, rfl⟩ := hcs
      exact ⟨[], .inl ⟨rfl, rfl, rfl, rfl⟩⟩
    · simp [Value.cells] at hcs
      obtain ⟨rfl, rfl, rfl⟩ := hcs
      exact ⟨zs, .inr ⟨_, rfl, hl, hm, by simpa using hz, hcell, hwz⟩⟩
  obtain ⟨a4, len4, cap4, rfl⟩ := okWide_slice Try.underlying31 (hval 4 31 v4 rfl rfl)
  have k4 := h4
  have lt4 : ∀ x ∈ p4, x.block < W.heap.size := by obtain ⟨m, hm⟩ := k4; exact DataW.trod_lt m _ _ _ hm
  obtain ⟨B4, w4⟩ : ∃ B, IsBools W a4 len4 cap4 B := by
    obtain ⟨fuel, hf⟩ := h4
    rcases Go.Deep.open_bools Try.underlying31 Try.underlying4 (by kernel_rfl) hf with ⟨hcs, _⟩ | ⟨x, l, c, B, hcs, _, hl, hm, _, hcell⟩
    · simp [Value.cells] at hcs
      obtain ⟨rfl, rfl, rfl⟩ := hcs
      exact ⟨fun _ => false, .inl ⟨rfl, rfl, rfl⟩⟩
    · simp [Value.cells] at hcs
      obtain ⟨rfl, rfl, rfl⟩ := hcs
      exact ⟨B, .inr ⟨_, rfl, hl, hm, hcell⟩⟩
  clear hA0 hval0
  refine (walk a0 len0 cap0 z0 a1 len1 cap1 z1 a2 len2 cap2 z2 a3 len3 cap3 z3 a4 len4 cap4 B4 W w0 w1 w2 w3 w4).mono fun e W' ⟨he, bel⟩ => ?_
  subst he
  exact ⟨_, rfl, _, _, _, [], _, [], hW', trodAll_mk1 (shut_bool Try.underlying4 _), (trodAll_cons_mk (Below.trod laidOut (by kernel_rfl) (of_decide_eq_true (by kernel_rfl)) k0 bel lt0) (trodAll_cons_mk (Below.trod laidOut (by kernel_rfl) (of_decide_eq_true (by kernel_rfl)) k1 bel lt1) (trodAll_cons_mk (Below.trod laidOut (by kernel_rfl) (of_decide_eq_true (by kernel_rfl)) k2 bel lt2) (trodAll_cons_mk (Below.trod laidOut (by kernel_rfl) (of_decide_eq_true (by kernel_rfl)) k3 bel lt3) (trodAll_cons_mk (Below.trod laidOut (by kernel_rfl) (of_decide_eq_true (by kernel_rfl)) k4 bel lt4) trodAll_mk0))))), rfl, bel.frame _, fun h => by cases h⟩

theorem over : Rows.fnKeysAgreeWithGivenRow.holds Try.pinned (OpenSpec.ofChange Rows.fnKeysAgreeWithGivenSpec) :=
  OpenClaim.holds_of_wide 6 Try.f6 rfl rfl rfl rfl rfl rfl rfl ⟨rfl, rfl, rfl, rfl, rfl⟩ rfl rfl rfl rfl rfl (by kernel_rfl) Try.func6 (by kernel_rfl)
    (of_decide_eq_true (by kernel_rfl)) (by unfold Func.isWrapper; first | (rw [if_pos (by decide +kernel)]; kernel_rfl) | (rw [if_neg (by decide +kernel)]; exact ⟨rfl, rfl⟩))
    (fun os started H enc _ => lifted os started H enc)

/-- THE STATEMENT -/
theorem proved : Rows.FnKeysAgreeWithGivenSaid := over
#print axioms proved
end Go.Proofs.Qxb6605987a.fnKeysAgreeWithGiven
