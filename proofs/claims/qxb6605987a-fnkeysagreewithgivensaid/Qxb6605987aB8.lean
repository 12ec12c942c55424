import Derived.Test.Qxb6605987aB7
import Derived.RegionTactic
namespace Go.Proofs.Qxb6605987a
open Go.RowKit
set_option linter.unusedVariables false
set_option linter.unusedSimpArgs false

/-- The zero field. -/
def zeroF : Value := .agg #[.int .u32 0, .int .u32 0, .int .u32 0, .int .u32 0, .int .u32 0, .int .u8 0, .int .u8 0, .bool false]
theorem Try.info50 : (Try.prog.info? 50).map (fun i => (i.zero, i.size, i.bytes)) = some (some zeroF, 8, 24) := by kernel_rfl
theorem Try.info44 : (Try.prog.info? 44).map (fun i => (i.zero, i.size, i.bytes)) = some (some (.slice none 0 0), 1, 24) := by kernel_rfl

/-- What is told of the three lists: field i is (at i, n i, taken i). -/
structure Lists (w : World) (a2 : Option Addr) (a3 : Option Addr) (a4 : Option Addr) (K : Nat) (fs : Nat → Nat × Nat × Bool) : Prop where
  h2 : SC w a2 ((List.range K).map fun i => .int .u32 (fs i).1)
  h3 : SC w a3 ((List.range K).map fun i => .int .u32 (fs i).2.1)
  h4 : SC w a4 ((List.range K).map fun i => .bool (fs i).2.2)

theorem Lists.below {w w' : World} {a2 a3 a4 : Option Addr} {K : Nat} {fs : Nat → Nat × Nat × Bool} (h : Lists w a2 a3 a4 K fs) (hb : Below w.heap.size w w') : Lists w' a2 a3 a4 K fs :=
  ⟨h.h2.below hb, h.h3.below hb, h.h4.below hb⟩

theorem SC.cell {w : World} {b off : Nat} {cs : List Value} (h : SC w (some ⟨b, off, none⟩) cs) (i : Nat) (hi : i < cs.length) : w.cell? ⟨b, off + i, none⟩ = some cs[i] := by
  rcases h with rfl | ⟨b', off', e, _, hc⟩
  · simp at hi
  · cases e
    exact hc i hi

/-- The rows of the fields, the first k filled. -/
def Filled (w : World) (base g K k : Nat) (fs : Nat → Nat × Nat × Bool) : Prop :=
  ∃ xs, w.ownsRow base 50 8 (.slice (some ⟨g, 0, none⟩) K K) K xs ∧ ∀ i, i < k → xs[i * 8]? = some (.int .u32 (fs i).1) ∧ xs[i * 8 + 1]? = some (.int .u32 (fs i).2.1) ∧ xs[i * 8 + 7]? = some (.bool (fs i).2.2)

theorem hide {p : Prop} (h : p) : Hid p := h
theorem own_cell {w : World} {base e size g n cap : Nat} {xs : List Value} (h : w.ownsRow base e size (.slice (some ⟨g, 0, none⟩) n cap) n xs) (j : Nat) (hj : j < n * size) : ∃ v, w.cell? ⟨g, j, none⟩ = some v :=
  ⟨_, (h.cellAt j hj).trans (List.getElem?_eq_getElem (by rw [h.1]; exact hj))⟩

theorem filled_step {w : World} {base g K k : Nat} {fs : Nat → Nat × Nat × Bool} (h : Filled w base g K k fs) (hk : k < K) :
    Filled ((((((((w.setCell ⟨g, k * 8, none⟩ (.int .u32 (fs k).1)).setCell ⟨g, k * 8 + 1, none⟩ (.int .u32 (fs k).2.1)).setCell ⟨g, k * 8 + 2, none⟩ (.int .u32 0)).setCell ⟨g, k * 8 + 3, none⟩ (.int .u32 0)).setCell
      ⟨g, k * 8 + 4, none⟩ (.int .u32 0)).setCell ⟨g, k * 8 + 5, none⟩ (.int .u8 0)).setCell ⟨g, k * 8 + 6, none⟩ (.int .u8 0)).setCell ⟨g, k * 8 + 7, none⟩ (.bool (fs k).2.2)) base g K (k + 1) fs := by
  obtain ⟨xs, hown, hx⟩ := h
  have hlen := hown.1
  refine ⟨_, ((((((((hown.stored _ _).1.stored _ _).1.stored _ _).1.stored _ _).1.stored _ _).1.stored _ _).1.stored _ _).1.stored _ _).1, fun i hi => ?_⟩
  by_cases hik : i < k
  · obtain ⟨h0, h1, h7⟩ := hx i hik
    simp only [List.getElem?_set]
    refine ⟨?_, ?_, ?_⟩
    · rw [if_neg (by omega), if_neg (by omega), if_neg (by omega), if_neg (by omega), if_neg (by omega), if_neg (by omega), if_neg (by omega), if_neg (by omega)]; exact h0
    · rw [if_neg (by omega), if_neg (by omega), if_neg (by omega), if_neg (by omega), if_neg (by omega), if_neg (by omega), if_neg (by omega), if_neg (by omega)]; exact h1
    · rw [if_neg (by omega), if_neg (by omega), if_neg (by omega), if_neg (by omega), if_neg (by omega), if_neg (by omega), if_neg (by omega), if_neg (by omega)]; exact h7
  · obtain rfl : i = k := by omega
    simp only [List.getElem?_set, List.length_set]
    refine ⟨?_, ?_, ?_⟩
    · rw [if_neg (by omega), if_neg (by omega), if_neg (by omega), if_neg (by omega), if_neg (by omega), if_neg (by omega), if_neg (by omega), if_pos trivial, if_pos (by omega)]
    · rw [if_neg (by omega), if_neg (by omega), if_neg (by omega), if_neg (by omega), if_neg (by omega), if_neg (by omega), if_pos trivial, if_pos (by omega)]
    · rw [if_pos trivial, if_pos (by omega)]

theorem below_step {w0 w : World} {B g k : Nat} (h : Below B w0 w) (hg : B ≤ g) (x0 x1 x2 x3 x4 x5 x6 x7 : Value) :
    Below B w0 ((((((((w.setCell ⟨g, k * 8, none⟩ x0).setCell ⟨g, k * 8 + 1, none⟩ x1).setCell ⟨g, k * 8 + 2, none⟩ x2).setCell ⟨g, k * 8 + 3, none⟩ x3).setCell
      ⟨g, k * 8 + 4, none⟩ x4).setCell ⟨g, k * 8 + 5, none⟩ x5).setCell ⟨g, k * 8 + 6, none⟩ x6).setCell ⟨g, k * 8 + 7, none⟩ x7) :=
  (((((((h.setCell (by exact hg) _).setCell (by exact hg) _).setCell (by exact hg) _).setCell (by exact hg) _).setCell (by exact hg) _).setCell (by exact hg) _).setCell (by exact hg) _).setCell (by exact hg) _

theorem Filled.kept {w w' : World} {base g K k : Nat} {fs : Nat → Nat × Nat × Bool} (h : Filled w base g K k fs) (hg : w.grownBy w' none) : Filled w' base g K k fs := by
  obtain ⟨xs, hown, hx⟩ := h
  exact ⟨xs, hown.kept hg (.inr (by simp [Value.ownBlock])), hx⟩

theorem Filled.drew {w : World} {base g K k : Nat} {fs : Nat → Nat × Nat × Bool} (h : Filled w base g K k fs) : Filled w.drew base g K k fs :=
  h.kept ⟨rfl, rfl, rfl, Nat.le_refl _, fun _ _ _ => rfl⟩

/-- The place of a table that was just made. -/
def Made (w0 w : World) (T : TabD) : Prop := w0.heap.size ≤ T.fb ∧ T.fb < T.kb ∧ T.kb < T.cb ∧ T.cb < T.db ∧ T.db < T.tb ∧ w.cell? ⟨T.db, 9, none⟩ = some (.map none) ∧ w.frozen? ⟨T.db, 9, none⟩ = false

theorem new_cell (X : World) (n : Nat) (hn : X.heap.size = n) (a : Array Value) (t : TypeId) (i : Nat) : (X.alloc (.cells a t)).cell? ⟨n, i, none⟩ = a[i]? := by
  subst hn; exact World.cell?_alloc_new X a t i
theorem new_frozen (X : World) (n : Nat) (hn : X.heap.size = n) (a : Array Value) (t : TypeId) (i : Nat) : (X.alloc (.cells a t)).frozen? ⟨n, i, none⟩ = false := by
  subst hn; simp [World.frozen?, World.alloc, -World.alloc_eq]

theorem three (X : World) (n : Nat) (hn : X.heap.size = n) (a b c : Array Value) (t1 t2 t3 : TypeId) (i : Nat) :
    (((X.alloc (.cells a t1)).alloc (.cells b t2)).alloc (.cells c t3)).cell? ⟨n, i, none⟩ = a[i]? ∧ (((X.alloc (.cells a t1)).alloc (.cells b t2)).alloc (.cells c t3)).cell? ⟨n + 1, i, none⟩ = b[i]? ∧
    (((X.alloc (.cells a t1)).alloc (.cells b t2)).alloc (.cells c t3)).cell? ⟨n + 1 + 1, i, none⟩ = c[i]? ∧ (((X.alloc (.cells a t1)).alloc (.cells b t2)).alloc (.cells c t3)).frozen? ⟨n + 1, i, none⟩ = false := by
  refine ⟨?_, ?_, ?_, ?_⟩
  · rw [World.cell?_alloc_lt _ _ _ (by simp; omega), World.cell?_alloc_lt _ _ _ (by simp; omega), new_cell X n hn]
  · rw [World.cell?_alloc_lt _ _ _ (by simp; omega), new_cell _ _ (by simp; omega)]
  · rw [new_cell _ _ (by simp; omega)]
  · rw [World.frozen?_of_block (Below.heap_alloc _ _ _ (by simp; omega)), new_frozen _ _ (by simp; omega)]

theorem tab_built (w wr w2 : World) (K : Nat) (fs : Nat → Nat × Nat × Bool) (fa ua : Option Addr) (fl fc ul uc : Nat) (zs : List Value) (hK : K ≤ 4096) (hnx : Below w.heap.size w wr) (hf : Filled wr w.heap.size w.heap.size K K fs)
    (ho : w2.ownsRow wr.heap.size 44 1 (.slice (some ⟨wr.heap.size, 0, none⟩) 128 128) 128 zs) (hg : wr.grownBy w2 none) :
    ∃ T : TabD, T.tb = w2.heap.size + 1 + 1 ∧ ∀ W, W = ((((w2.setCell ⟨wr.heap.size, 1, none⟩ (.slice (some ⟨w.heap.size, 0, none⟩) K K)).alloc (.cells #[.slice (some ⟨wr.heap.size, 0, none⟩) 128 128] 51)).alloc
        (.cells #[.pointer none, .string { data := #[] }, .int .i64 0, .string { data := #[] }, .bool false, .pointer none, .int .u32 0, .nilIface, .slice (some ⟨w2.heap.size, 0, none⟩) 1 1, .map none, .slice fa fl fc, .slice ua ul uc] 63)).alloc
        (.cells #[.pointer none, .string { data := #[] }, .int .i64 0, .string { data := #[] }, .bool false, .pointer (some ⟨w2.heap.size + 1, 0, none⟩), .int .u32 1] 58)) →
      (Tab W T ∧ Made w W T ∧ Below w.heap.size w W ∧ T.K = K ∧ T.fs = fs ∧ T.fa = fa ∧ T.fl = fl ∧ T.fc = fc ∧ T.ua = ua ∧ T.ul = ul ∧ T.uc = uc) := by
  refine ⟨⟨w2.heap.size + 1 + 1, w2.heap.size + 1, w2.heap.size, wr.heap.size, w.heap.size, fa, fl, fc, ua, ul, uc, K, fs⟩, rfl, ?_⟩
  intro W hW
  obtain ⟨xs, hown, hx⟩ := hf
  have h1 : w.heap.size < wr.heap.size := (hown.lt w.heap.size rfl).2
  have h2 : wr.heap.size < w2.heap.size := (ho.lt wr.heap.size rfl).2
  have hs := hnx.size
  have own2 := hown.kept hg (.inr (by simp [Value.ownBlock]))
  obtain ⟨own3, hg3⟩ := ho.stored 1 (.slice (some ⟨w.heap.size, 0, none⟩) K K)
  have own4 := own2.kept hg3 (.inr (by simp [Value.ownBlock]; omega))
  have hsz : W.heap.size = w2.heap.size + 3 := by subst hW; simp
  have hb2 : Below w.heap.size w w2 := hnx.grown hg hs (by simp)
  have hb3 : Below w.heap.size w (w2.setCell ⟨wr.heap.size, 1, none⟩ (.slice (some ⟨w.heap.size, 0, none⟩) K K)) := hb2.setCell (by exact hs) _
  have c3 : (w2.setCell ⟨wr.heap.size, 1, none⟩ (.slice (some ⟨w.heap.size, 0, none⟩) K K)).cell? ⟨wr.heap.size, 1, none⟩ = some (.slice (some ⟨w.heap.size, 0, none⟩) K K) := by
    obtain ⟨v, hv⟩ := own_cell ho 1 (by omega)
    exact World.cell?_setCell_same _ _ _ hv
  have old : ∀ b o, b < w2.heap.size → W.cell? ⟨b, o, none⟩ = (w2.setCell ⟨wr.heap.size, 1, none⟩ (.slice (some ⟨w.heap.size, 0, none⟩) K K)).cell? ⟨b, o, none⟩ := by
    intro b o hb
    subst hW
    rw [World.cell?_alloc_lt _ _ _ (by simp; omega), World.cell?_alloc_lt _ _ _ (by simp; omega), World.cell?_alloc_lt _ _ _ (by simp; omega)]
  have hf' : ∀ j, j < K * 8 → W.cell? ⟨w.heap.size, j, none⟩ = xs[j]? := fun j hj => by rw [old _ _ (by omega)]; exact own4.cellAt j hj
  refine ⟨⟨by simp; omega, by simp; omega, by simp; omega, by simp; omega, by simp; omega, hK, ?_, ?_, ?_, ?_, ?_, ?_, ?_, ?_, ?_, ?_⟩, ⟨Nat.le_refl _, h1, h2, by simp, by simp, ?_, ?_⟩, ?_, rfl, rfl, rfl, rfl, rfl, rfl, rfl, rfl⟩
  · subst hW; exact (three _ w2.heap.size (by simp) _ _ _ _ _ _ 5).2.2.1
  · subst hW; exact (three _ w2.heap.size (by simp) _ _ _ _ _ _ 6).2.2.1
  · subst hW; exact (three _ w2.heap.size (by simp) _ _ _ _ _ _ 8).2.1
  · subst hW; exact (three _ w2.heap.size (by simp) _ _ _ _ _ _ 10).2.1
  · subst hW; exact (three _ w2.heap.size (by simp) _ _ _ _ _ _ 11).2.1
  · subst hW; exact (three _ w2.heap.size (by simp) _ _ _ _ _ _ 0).1
  · rw [old _ _ (by simpa using h2)]; exact c3
  · intro i hi
    simp only at hi ⊢
    rw [hf' _ (by omega)]; exact (hx i hi).1
  · intro i hi
    simp only at hi ⊢
    rw [hf' _ (by omega)]; exact (hx i hi).2.1
  · intro i hi
    simp only at hi ⊢
    rw [hf' _ (by omega)]; exact (hx i hi).2.2
  · subst hW; exact (three _ w2.heap.size (by simp) _ _ _ _ _ _ 9).2.1
  · subst hW; exact (three _ w2.heap.size (by simp) _ _ _ _ _ _ 9).2.2.2
  · subst hW
    exact ((hb3.alloc (by simp; omega) _).alloc (by simp; omega) _).alloc (by simp; omega) _

set_option maxRecDepth 100000 in
set_option maxHeartbeats 400000 in
theorem table11_pos (b2 o2 c2 b3 o3 c3 b4 o4 c4 : Nat) (fa ua : Option Addr) (fl fc ul uc K : Nat) (fs : Nat → Nat × Nat × Bool) (w : World) (hK : K ≤ 4096) (hK0 : 0 < K)
    (hL : Lists w (some ⟨b2, o2, none⟩) (some ⟨b3, o3, none⟩) (some ⟨b4, o4, none⟩) K fs) :
    Calls Try.prog 11 #[.slice fa fl fc, .slice ua ul uc, .slice (some ⟨b2, o2, none⟩) K c2, .slice (some ⟨b3, o3, none⟩) K c3, .slice (some ⟨b4, o4, none⟩) K c4] w
      fun e w' => ∃ T : TabD, e = .returned (.pointer (some ⟨T.tb, 0, none⟩)) ∧ Tab w' T ∧ Made w w' T ∧ Below w.heap.size w w' ∧ T.K = K ∧ T.fs = fs ∧ T.fa = fa ∧ T.fl = fl ∧ T.fc = fc ∧ T.ua = ua ∧ T.ul = ul ∧ T.uc = uc := by
  obtain ⟨i0, hi, hz0, hz1, hz2⟩ := info_parts Try.info50
  have HL : Hid (Lists w (some ⟨b2, o2, none⟩) (some ⟨b3, o3, none⟩) (some ⟨b4, o4, none⟩) K fs) := hL
  clear hL
  go_enter Try.func11, Try.ntmps11
  go_wp2_with (first
    | (at_make; refine wpList_make_full _ rfl _ _ 44 rfl w.heap.size 50 i0 zeroF 8 Try.underlying44 hi hz0 hz1 .i64 .i64 _ _ K rfl rfl rfl rfl ?_ ?_ ?_ ?_; rw [hz2]; omega; unfold maxLen; omega; exact Nat.le_refl _; intro w1 hown hgrow; have hb1 : Below w.heap.size w w1 := (Below.refl _ _).grown hgrow (Nat.le_refl _) (by simp); have HF : Hid (Filled w1 w.heap.size w.heap.size K 0 fs) := ⟨_, hown, fun i hi => absurd hi (Nat.not_lt_zero i)⟩; clear hown hgrow))
  go_loopw [20] (fun i wr => ∃ k : Nat, k ≤ K ∧ i = .int .i64 k ∧ Below w.heap.size w wr ∧ Hid (Filled wr w.heap.size w.heap.size K k fs)) (fun i _ => K - (intOf i).toNat)
  case atStart => exact ⟨0, Nat.zero_le _, rfl, hb1, HF⟩
  case round =>
    clear HF hb1
    obtain ⟨k, hk, rfl, hnx, hfl⟩ := hrel
    by_cases hlt : k < K
    · have HLr : Hid (Lists wr (some ⟨b2, o2, none⟩) (some ⟨b3, o3, none⟩) (some ⟨b4, o4, none⟩) K fs) := HL.out.below hnx
      have g2 : wr.cell? ⟨b2, o2 + k, none⟩ = some (.int .u32 (fs k).1) := by have := HLr.out.h2.cell k (by simpa using hlt); simpa using this
      have g3 : wr.cell? ⟨b3, o3 + k, none⟩ = some (.int .u32 (fs k).2.1) := by have := HLr.out.h3.cell k (by simpa using hlt); simpa using this
      have g4 : wr.cell? ⟨b4, o4 + k, none⟩ = some (.bool (fs k).2.2) := by have := HLr.out.h4.cell k (by simpa using hlt); simpa using this
      obtain ⟨xs, hown, hxs⟩ := hfl.out
      have hlen := hown.1
      have e0 : ∀ j, j < 8 → ∃ v, wr.cell? ⟨w.heap.size, k * 8 + j, none⟩ = some v := fun j hj => ⟨_, (hown.cellAt (k * 8 + j) (by omega)).trans (List.getElem?_eq_getElem (by omega))⟩
      have fz : ∀ j, wr.frozen? ⟨w.heap.size, j, none⟩ = false := fun j => hown.frozenAt j
      obtain ⟨v0, q0⟩ := e0 0 (by omega)
      obtain ⟨v1, q1⟩ := e0 1 (by omega)
      obtain ⟨v2, q2⟩ := e0 2 (by omega)
      obtain ⟨v3, q3⟩ := e0 3 (by omega)
      obtain ⟨v4, q4⟩ := e0 4 (by omega)
      obtain ⟨v5, q5⟩ := e0 5 (by omega)
      obtain ⟨v6, q6⟩ := e0 6 (by omega)
      obtain ⟨v7, q7⟩ := e0 7 (by omega)
      clear hown hxs e0 hlen
      simp only [Nat.add_zero] at q0
      go_wp2
      go_region
      go_wp2
      go_roundw
      case rel => exact ⟨k + 1, by omega, by go_num, (below_step hnx (Nat.le_refl _) _ _ _ _ _ _ _ _).drew, (filled_step hfl.out hlt).drew⟩
      case measure => simp [intOf]; omega
    · obtain rfl : k = K := by omega
      obtain ⟨j0, hj, hy0, hy1, hy2⟩ := info_parts Try.info44
      go_wp2_with (first
        | (at_make; refine wpList_make_full _ rfl _ _ 51 rfl wr.heap.size 44 j0 (.slice none 0 0) 1 Try.underlying51 hj hy0 hy1 .i64 .i64 _ _ 128 rfl rfl rfl rfl ?_ ?_ ?_ ?_; rw [hy2]; omega; unfold maxLen; omega; exact Nat.le_refl _; intro w2 hown2 hgrow2; obtain ⟨v1, hq⟩ := own_cell hown2 1 (by omega); have hfz := hown2.frozenAt 1; have HO2 := hide hown2; have HG2 := hide hgrow2; clear hown2 hgrow2))
      obtain ⟨T, hTb, hT⟩ := tab_built w wr w2 k fs fa ua fl fc ul uc _ hK hnx hfl.out HO2.out HG2.out
      go_ret
      exact ⟨T, by rw [hTb]; rfl, hT _ rfl⟩
end Go.Proofs.Qxb6605987a
