import Derived.Test.Qxb6607685aN4
namespace Go.Proofs.Qxb6607685a
open Go.RowKit Go.Maps Go.WideMaps
set_option linter.unusedVariables false
set_option linter.unusedSimpArgs false

theorem Try.info23 : (Try.prog.info? 23).map (fun i => (i.zero, i.size, i.bytes)) = some (some (.int .u32 0), 1, 4) := by kernel_rfl

theorem filed_step (names : List (List UInt8)) (k : Nat) : ∃ t, filed names (k + 1) = filed names k ++ t := by
  rcases Nat.lt_or_ge k names.length with h | h
  · rw [filed_succ names k h]
    by_cases hm : names[k] ∈ filed names k
    · rw [addName_old hm]; exact ⟨[], by simp⟩
    · rw [addName_new hm]; exact ⟨_, rfl⟩
  · refine ⟨[], ?_⟩
    show (match names[k]? with | some x => addName (filed names k) x | none => filed names k) = _
    rw [List.getElem?_eq_none h]; simp

theorem filed_prefix (names : List (List UInt8)) (k : Nat) : ∀ d, ∃ t, filed names (k + d) = filed names k ++ t
  | 0 => ⟨[], by simp⟩
  | d + 1 => by
    obtain ⟨t, ht⟩ := filed_prefix names k d
    obtain ⟨u, hu⟩ := filed_step names (k + d)
    exact ⟨t ++ u, by rw [← Nat.add_assoc, hu, ht, List.append_assoc]⟩

theorem filed_from (names : List (List UInt8)) (x : List UInt8) : ∀ k, x ∈ filed names k → ∃ i, ∃ h : i < names.length, i < k ∧ names[i] = x
  | 0, h => by simp [filed] at h
  | k + 1, h => by
    rcases Nat.lt_or_ge k names.length with hk | hk
    · rw [filed_succ names k hk] at h
      by_cases hm : names[k] ∈ filed names k
      · rw [addName_old hm] at h
        obtain ⟨i, h1, h2, h3⟩ := filed_from names x k h
        exact ⟨i, h1, by omega, h3⟩
      · rw [addName_new hm] at h
        rcases List.mem_append.1 h with h | h
        · obtain ⟨i, h1, h2, h3⟩ := filed_from names x k h
          exact ⟨i, h1, by omega, h3⟩
        · simp at h; exact ⟨k, hk, by omega, h.symm⟩
    · have e : filed names (k + 1) = filed names k := by
        show (match names[k]? with | some x => addName (filed names k) x | none => filed names k) = _
        rw [List.getElem?_eq_none hk]
      rw [e] at h
      obtain ⟨i, h1, h2, h3⟩ := filed_from names x k h
      exact ⟨i, h1, by omega, h3⟩

/-- The number of a name. -/
def rk (names : List (List UInt8)) (x : List UInt8) : Nat := (filed names names.length).idxOf x

theorem rk_at (names : List (List UInt8)) (k : Nat) (hk : k ≤ names.length) (x : List UInt8) (hx : x ∈ filed names k) : (filed names k).idxOf x = rk names x := by
  obtain ⟨t, ht⟩ := filed_prefix names k (names.length - k)
  unfold rk
  rw [show names.length = k + (names.length - k) by omega, ht, List.idxOf_append]
  simp [hx]

theorem rk_new (names : List (List UInt8)) (k : Nat) (hk : k < names.length) (hx : names[k] ∉ filed names k) : rk names names[k] = (filed names k).length := by
  rw [← rk_at names (k + 1) (by omega) names[k] (by rw [filed_succ names k hk]; exact mem_addName _ _), filed_succ names k hk, addName_new hx, List.idxOf_append]
  simp [hx]

theorem rk_lt (names : List (List UInt8)) (i : Nat) (hi : i < names.length) : rk names names[i] < names.length := by
  have h := List.idxOf_lt_length_of_mem (filed_mem names names.length i hi hi)
  have := filed_len names names.length
  exact Nat.lt_of_lt_of_le h this

/-- The numbers, as they lie. -/
def numsV (names : List (List UInt8)) : List Value := names.map fun x => .int .u32 (rk names x : Nat)

def LaidU (D : List Value) (names : List (List UInt8)) (k : Nat) : Prop := ∀ i (h : i < names.length), i < k → D[i]? = some (.int .u32 (rk names names[i] : Nat))

theorem LaidU.snoc {D : List Value} {names : List (List UInt8)} {k : Nat} (h : LaidU D names k) (hD : D.length = names.length) (hk : k < names.length) : LaidU (D.set k (.int .u32 (rk names names[k] : Nat))) names (k + 1) := by
  intro i hi hik
  by_cases e : i = k
  · subst e; rw [List.getElem?_set_self (by omega)]
  · rw [List.getElem?_set_ne (by omega)]; exact h i hi (by omega)

theorem LaidU.all {D : List Value} {names : List (List UInt8)} (h : LaidU D names names.length) (hD : D.length = names.length) : D = numsV names := by
  apply List.ext_getElem
  · simp [numsV, hD]
  · intro i h1 h2
    have := h i (by omega) (by omega)
    rw [List.getElem?_eq_getElem h1] at this
    simp [numsV]
    exact Option.some.inj this

set_option maxRecDepth 100000 in
set_option maxHeartbeats 1000000 in
theorem fileAll23 (a : Option Addr) (l c : Nat) (names : List (List UInt8)) (w : World) (hl : names.length = l) (hm : l ≤ 65536) (hs : SN w a names) (hk : ∀ x ∈ names, x.length ≤ maxLen) :
    Calls Try.prog 23 #[.slice a l c] w fun e w' => ∃ mb gb, e = .returned (.tuple #[.map (some mb), .slice (some ⟨gb, 0, none⟩) l l]) ∧ MapN w' mb l (filed names l) ∧ SC w' (some ⟨gb, 0, none⟩) (numsV names) ∧ Below w.heap.size w w' ∧ w.heap.size ≤ mb ∧ mb < gb ∧ gb < w'.heap.size := by
  have hmm := @run_makeMap Try.prog
  obtain ⟨i0, hi, hz0, hz1, hz2⟩ := info_parts Try.info23
  have HL := hide hl
  have HS := hide hs
  have HK := hide hk
  clear hl hs hk
  go_enter Try.func23, Try.ntmps23
  go_wp2_with (first
    | (at_make; refine wpList_make_full _ rfl _ _ 24 rfl (w.heap.size + 1) 23 i0 (.int .u32 0) 1 Try.underlying24 hi hz0 hz1 .i64 .i64 _ _ l rfl rfl rfl rfl ?_ ?_ ?_ ?_; rw [hz2]; omega; unfold maxLen; omega; simp; intro w1 hown hgrow; have HB1 : Hid (Below w.heap.size w w1) := ((Below.refl _ _).alloc (Nat.le_refl _) _).grown hgrow (by simp) (by simp); have HO1 := hide hown; have HN1 := hide ((mapN_made w).kept hgrow (by simp)); clear hown hgrow))
  obtain ⟨mb, hmb⟩ : ∃ mb, w.heap.size = mb := ⟨_, rfl⟩
  have HO2 : Hid (∃ D, w1.ownsRow (mb + 1) 23 1 (.slice (some ⟨mb + 1, 0, none⟩) l l) l D) := by
    have h := HO1.out
    rw [show (w.alloc (Obj.map #[] 0)).heap.size = mb + 1 by simp [hmb], hmb] at h
    exact ⟨_, h⟩
  rw [hmb] at HN1
  rw [hmb]
  have HMB : Hid (w.heap.size ≤ mb) := by rw [hmb]; exact Nat.le_refl mb
  clear hmb HO1
  obtain ⟨gb, hgb⟩ : ∃ gb, mb + 1 = gb := ⟨_, rfl⟩
  rw [hgb] at HO2 ⊢
  have HGB : Hid (mb < gb) := by rw [← hgb]; exact Nat.lt_succ_self mb
  clear hgb
  go_loopw [13] (fun i wr => ∃ (k : Nat) (D : List Value), k ≤ l ∧ i = .int .i64 k ∧ Hid (Below w.heap.size w wr) ∧ Hid (MapN wr mb k (filed names k)) ∧ Hid (wr.ownsRow gb 23 1 (.slice (some ⟨gb, 0, none⟩) l l) l D) ∧ Hid (LaidU D names k)) (fun i _ => l - (intOf i).toNat)
  case atStart =>
    obtain ⟨D, hD⟩ := HO2.out
    exact ⟨0, D, Nat.zero_le _, rfl, HB1, HN1, hD, fun i _ h => absurd h (Nat.not_lt_zero i)⟩
  case round =>
    clear HB1 HN1 HO2
    obtain ⟨k, D, hk, rfl, hb, hmap, hrow, hlaid⟩ := hrel
    by_cases hlt : k < l
    · have hkn : k < names.length := by have := HL.out; omega
      obtain ⟨b, off, rfl, _⟩ := HS.out.some (by omega)
      have g := (HS.out.below hb.out).cell k hkn
      have hxl := HK.out _ (List.getElem_mem hkn)
      have hsu := filed_succ names k hkn
      have hrk : (filed names (k + 1)).idxOf names[k] = rk names names[k] := rk_at names (k + 1) (by omega) _ (by rw [hsu]; exact mem_addName _ _)
      have hD : D.length = names.length := by have := hrow.out.1; have := HL.out; omega
      have HLS := hide (hlaid.out.snoc hD hkn)
      have hql := rk_lt names k hkn
      obtain ⟨L, hL⟩ : ∃ L, filed names k = L := ⟨_, rfl⟩
      obtain ⟨x, hx⟩ : ∃ x, names[k] = x := ⟨_, rfl⟩
      obtain ⟨q, hqe⟩ : ∃ q, rk names x = q := ⟨_, rfl⟩
      rw [hx, hqe] at hql HLS
      rw [hsu] at hrk
      rw [hx, hL, hqe] at hrk
      rw [hx] at g hxl
      rw [hL] at hmap
      rw [hx, hL] at hsu
      have HSU := hide hsu
      have HRK := hide hrk
      clear hx hL hsu hrk hqe hD hlaid
      go_wp2_with fail
      refine (ZZnumberOf31 mb k L x wr hmap.out (by omega) hxl).mono ?_
      rintro e w1 ⟨rfl, hm1, hg1⟩
      rw [HRK.out]
      have HM1 := hide hm1
      have HR1 := hide (hrow.out.kept hg1 (.inr fun h => by have := (hrow.out.lt _ h).1; have := HGB.out; omega))
      have HB1 := hide (hb.out.grown hg1 hb.out.size (fun j hj => by cases hj; exact HMB.out))
      clear hm1 hg1 hmap hrow hb
      obtain ⟨vd, hcd⟩ : ∃ vd, w1.cell? ⟨gb, k, none⟩ = some vd := by
        have h1 := HR1.out.cellAt k (by omega)
        have h2 := HR1.out.1
        rw [List.getElem?_eq_getElem (by omega)] at h1
        exact ⟨_, h1⟩
      have hfd := HR1.out.frozenAt k
      go_wp2
      go_roundw
      case rel =>
        obtain ⟨o1, o2⟩ := HR1.out.stored k (.int .u32 (q : Nat))
        have hgw : w.heap.size ≤ gb := by have := HMB.out; have := HGB.out; omega
        refine ⟨k + 1, D.set k (.int .u32 (q : Nat)), by omega, by go_num, HB1.out.setCell (by exact hgw) _, ?_, o1, HLS⟩
        show MapN _ _ _ (filed names (k + 1))
        rw [HSU.out]
        exact HM1.out.kept o2 (by simp; have := HGB.out; omega)
      case measure => simp [intOf]; omega
    · obtain rfl : k = l := by omega
      go_wp2
      go_ret2
      refine ⟨mb, gb, rfl, hmap.out, ?_, hb.out, HMB.out, HGB.out, (hrow.out.lt gb rfl).2⟩
      obtain ⟨a', c', e, h⟩ := own_shape hrow.out
      cases e
      have hll := HL.out
      have hD : D.length = names.length := by have := hrow.out.1; omega
      rw [← LaidU.all (by have := hlaid.out; rwa [← hll] at this) hD]
      exact h
end Go.Proofs.Qxb6607685a
