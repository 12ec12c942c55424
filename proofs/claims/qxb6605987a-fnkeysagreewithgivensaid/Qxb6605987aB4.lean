import Derived.Test.Qxb6605987aB3
import Derived.Deep.RegionWith
namespace Go.Proofs.Qxb6605987a
open Go.RowKit
set_option linter.unusedVariables false
set_option linter.unusedSimpArgs false

/-- Where a table lies, and what it holds: K fields, each a span and a mark. -/
structure TabD where
  tb : Nat
  db : Nat
  cb : Nat
  kb : Nat
  fb : Nat
  fa : Option Addr
  fl : Nat
  fc : Nat
  ua : Option Addr
  ul : Nat
  uc : Nat
  K : Nat
  fs : Nat → Nat × Nat × Bool

/-- The cells of a table (all but the index). -/
structure Tab (w : World) (T : TabD) : Prop where
  htb : T.tb < w.heap.size
  hdb : T.db < w.heap.size
  hcb : T.cb < w.heap.size
  hkb : T.kb < w.heap.size
  hfb : T.fb < w.heap.size
  hK : T.K ≤ 4096
  t5 : w.cell? ⟨T.tb, 5, none⟩ = some (.pointer (some ⟨T.db, 0, none⟩))
  t6 : w.cell? ⟨T.tb, 6, none⟩ = some (.int .u32 1)
  d8 : w.cell? ⟨T.db, 8, none⟩ = some (.slice (some ⟨T.cb, 0, none⟩) 1 1)
  d10 : w.cell? ⟨T.db, 10, none⟩ = some (.slice T.fa T.fl T.fc)
  d11 : w.cell? ⟨T.db, 11, none⟩ = some (.slice T.ua T.ul T.uc)
  c0 : w.cell? ⟨T.cb, 0, none⟩ = some (.slice (some ⟨T.kb, 0, none⟩) 128 128)
  k1 : w.cell? ⟨T.kb, 1, none⟩ = some (.slice (some ⟨T.fb, 0, none⟩) T.K T.K)
  f0 : ∀ i, i < T.K → w.cell? ⟨T.fb, i * 8, none⟩ = some (.int .u32 (T.fs i).1)
  f1 : ∀ i, i < T.K → w.cell? ⟨T.fb, i * 8 + 1, none⟩ = some (.int .u32 (T.fs i).2.1)
  f7 : ∀ i, i < T.K → w.cell? ⟨T.fb, i * 8 + 7, none⟩ = some (.bool (T.fs i).2.2)

theorem Tab.below {w w' : World} {T : TabD} (h : Tab w T) (hb : Below w.heap.size w w') : Tab w' T := by
  obtain ⟨htb, hdb, hcb, hkb, hfb, hK, t5, t6, d8, d10, d11, c0, k1, f0, f1, f7⟩ := h
  have hs := hb.size
  exact ⟨by omega, by omega, by omega, by omega, by omega, hK, by rw [hb.cell (by exact htb)]; exact t5, by rw [hb.cell (by exact htb)]; exact t6,
    by rw [hb.cell (by exact hdb)]; exact d8, by rw [hb.cell (by exact hdb)]; exact d10, by rw [hb.cell (by exact hdb)]; exact d11,
    by rw [hb.cell (by exact hcb)]; exact c0, by rw [hb.cell (by exact hkb)]; exact k1,
    fun i hi => by rw [hb.cell (by exact hfb)]; exact f0 i hi, fun i hi => by rw [hb.cell (by exact hfb)]; exact f1 i hi, fun i hi => by rw [hb.cell (by exact hfb)]; exact f7 i hi⟩

set_option maxRecDepth 100000 in
theorem fields28 (T : TabD) (w : World) (h : Tab w T) :
    Calls Try.prog 28 #[.pointer (some ⟨T.db, 0, none⟩), .int .u32 1] w fun e w' => e = .returned (.pointer (some ⟨T.kb, 1, none⟩)) ∧ w' = w := by
  obtain ⟨htb, hdb, hcb, hkb, hfb, hK, t5, t6, d8, d10, d11, c0, k1, f0, f1, f7⟩ := h
  go_enter Try.func28, Try.ntmps28
  go_wp2
  go_ret
  exact ⟨rfl, rfl⟩

theorem Tab.drewN {w : World} {T : TabD} (h : Tab w T) (n : Nat) : Tab (w.drewN n) T := h.below (below_drewN (Below.refl _ _) n)

set_option maxRecDepth 100000 in
theorem fields24 (T : TabD) (w : World) (h : Tab w T) :
    Calls Try.prog 24 #[.pointer (some ⟨T.tb, 0, none⟩)] w fun e w' => e = .returned (.slice (some ⟨T.fb, 0, none⟩) T.K T.K) ∧ ∃ n, w' = w.drewN n := by
  obtain ⟨htb, hdb, hcb, hkb, hfb, hK, t5, t6, d8, d10, d11, c0, k1, f0, f1, f7⟩ := id h
  have H : Hid (Tab w T) := h
  clear h
  go_enter Try.func24, Try.ntmps24
  go_wp2
  go_quiet ((go_at_call 28; exact Calls.quiet_of_same (fields28 T _ (H.out.drewN _))))
  go_wp2
  go_ret
  exact ⟨rfl, _, rfl⟩

set_option maxRecDepth 100000 in
theorem keyOf23 (T : TabD) (i : Nat) (fbs ubs : List UInt8) (w : World) (h : Tab w T) (hi : i < T.K) (hT : Texts w T.fa T.fl T.fc T.ua T.ul T.uc fbs ubs)
    (hxy : (T.fs i).1 + (T.fs i).2.1 ≤ T.fl ∨ (T.fl ≤ (T.fs i).1 ∧ (T.fs i).1 + (T.fs i).2.1 ≤ T.fl + T.ul)) :
    Calls Try.prog 23 #[.pointer (some ⟨T.tb, 0, none⟩), .pointer (some ⟨T.fb, i * 8, none⟩)] w fun e w' => ∃ a' c', e = .returned (.slice a' (T.fs i).2.1 c') ∧ Below w.heap.size w w' ∧ SB w' a' (keyB fbs ubs (T.fs i).1 (T.fs i).2.1) ∧ (a' = none → (T.fs i).2.1 = 0) := by
  obtain ⟨htb, hdb, hcb, hkb, hfb, hK, t5, t6, d8, d10, d11, c0, k1, f0, f1, f7⟩ := id h
  have g0 := f0 i hi
  have g1 := f1 i hi
  have H : Hid (Tab w T) := h
  have HT : Hid (Texts w T.fa T.fl T.fc T.ua T.ul T.uc fbs ubs) := hT
  have HX : Hid ((T.fs i).1 + (T.fs i).2.1 ≤ T.fl ∨ (T.fl ≤ (T.fs i).1 ∧ (T.fs i).1 + (T.fs i).2.1 ≤ T.fl + T.ul)) := hxy
  clear h f0 f1 f7 hT hxy
  go_enter Try.func23, Try.ntmps23
  go_wp2
  go_region_with (go_at_call 27; refine (bytesOf27 T.db _ _ T.fl T.fc T.ul T.uc T.fa T.ua fbs ubs w.drew hdb d10 d11 (HT.out.below (Below.refl _ _).drew) HX.out).mono ?_; rintro e w' ⟨a', c', rfl, hb, hs, hn⟩)
  all_goals go_wp2
  all_goals go_ret
  all_goals exact ⟨a', c', rfl, (Below.refl _ _).drew.trans hb, hs, hn⟩

set_option maxRecDepth 100000 in
theorem ZZkeyOf12 (T : TabD) (i : Nat) (fbs ubs : List UInt8) (w : World) (h : Tab w T) (hi : i < T.K) (hT : Texts w T.fa T.fl T.fc T.ua T.ul T.uc fbs ubs)
    (hxy : (T.fs i).1 + (T.fs i).2.1 ≤ T.fl ∨ (T.fl ≤ (T.fs i).1 ∧ (T.fs i).1 + (T.fs i).2.1 ≤ T.fl + T.ul)) :
    Calls Try.prog 12 #[.pointer (some ⟨T.tb, 0, none⟩), .int .i64 i] w fun e w' => ∃ a' c', e = .returned (.slice a' (T.fs i).2.1 c') ∧ Below w.heap.size w w' ∧ SB w' a' (keyB fbs ubs (T.fs i).1 (T.fs i).2.1) ∧ (a' = none → (T.fs i).2.1 = 0) := by
  have hK := h.hK
  have H : Hid (Tab w T) := h
  have HT : Hid (Texts w T.fa T.fl T.fc T.ua T.ul T.uc fbs ubs) := hT
  have HX : Hid ((T.fs i).1 + (T.fs i).2.1 ≤ T.fl ∨ (T.fl ≤ (T.fs i).1 ∧ (T.fs i).1 + (T.fs i).2.1 ≤ T.fl + T.ul)) := hxy
  clear h hT hxy
  go_enter Try.func12, Try.ntmps12
  go_wp2_with fail
  refine (fields24 T w H.out).mono ?_
  rintro e w' ⟨rfl, n, rfl⟩
  go_wp2_with fail
  refine (keyOf23 T i fbs ubs (w.drewN n) (H.out.drewN n) hi (HT.out.below (below_drewN (Below.refl _ _) n)) HX.out).mono ?_
  rintro e w' ⟨a', c', rfl, hb, hs, hn⟩
  go_wp2
  go_ret
  exact ⟨a', c', rfl, (below_drewN (Below.refl _ _) n).trans (by simpa using hb), hs, hn⟩

theorem conv_str (w : World) (a : Option Addr) (l c : Nat) (bs : List UInt8) (hl : bs.length = l) (hn : a = none → l = 0) (hs : SB w a bs) :
    (convert 22 9 (.slice a l c)).run Try.prog w = .ok (.string ⟨bs.toArray⟩) w := by
  subst hl
  cases a with
  | none =>
    have := hn rfl
    obtain rfl : bs = [] := List.eq_nil_of_length_eq_zero this
    rw [run_convert_bytes_nil w 22 5 Try.underlying22 Try.underlying5 _ _ 9 Try.underlying9]
    rfl
  | some x =>
    rcases hs with hs | ⟨b, off, hx, hlt, hc⟩
    · simp at hs
      subst hs
      obtain ⟨b, off, sp⟩ := x
      have hld : (loadCells ⟨b, off, sp⟩ 0).run Try.prog w = .ok #[] w := by simpa using run_loadCells_list (P := Try.prog) w ⟨b, off, sp⟩ [] (by simp)
      rw [run_convert_bytes_string w 22 9 5 _ _ c Try.underlying22 Try.underlying5 Try.underlying9]
      have := run_bytesToString (P := Try.prog) w ⟨b, off, sp⟩ 0 c [] (by simpa using hld)
      exact (show _ = Result.ok (Value.string ByteArray.empty) w by simpa using this)
    · cases hx
      have := run_convert_bytes_arg (P := Try.prog) w 22 5 Try.underlying22 Try.underlying5 b off bs.length c (bs.map fun b => (b.toNat : Int)) (by simp) (fun i hi => by
        have := hc i (by simpa using hi)
        rw [this]
        simp [cB, List.getD, hi]) 9 Try.underlying9
      rw [this]
      congr 3
      simp only [strOfNums, List.map_map]
      congr 1
      refine congrArg List.toArray ((List.map_congr_left (g := id) fun b _ => ?_).trans (List.map_id bs))
      simp

theorem equal29 (w : World) (a1 : Option Addr) (l1 c1 : Nat) (x : List UInt8) (a2 : Option Addr) (l2 c2 : Nat) (y : List UInt8)
    (hl1 : x.length = l1) (hn1 : a1 = none → l1 = 0) (hs1 : SB w a1 x) (hl2 : y.length = l2) (hn2 : a2 = none → l2 = 0) (hs2 : SB w a2 y) :
    Calls Try.prog 29 #[.slice a1 l1 c1, .slice a2 l2 c2] w fun e w' => e = .returned (.bool (x == y)) ∧ w' = w := by
  have k1 := conv_str w a1 l1 c1 x hl1 hn1 hs1
  have k2 := conv_str w a2 l2 c2 y hl2 hn2 hs2
  clear hl1 hn1 hs1 hl2 hn2 hs2
  go_enter Try.func29, Try.ntmps29
  go_wp2
  go_ret
  exact ⟨rfl, rfl⟩
end Go.Proofs.Qxb6605987a
