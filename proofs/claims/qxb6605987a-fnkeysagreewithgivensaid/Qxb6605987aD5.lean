import Derived.Test.Qxb6605987aD4
namespace Go.Proofs.Qxb6605987a
open Go.RowKit Go.Maps Go.WideMaps
set_option linter.unusedVariables false
set_option linter.unusedSimpArgs false

/-- The index: not wanted, not yet made, or made. -/
def IdxOk (w : World) (T : TabD) (fbs ubs : List UInt8) : Prop :=
  T.K ≤ 16 ∨ (w.cell? ⟨T.db, 9, none⟩ = some (.map none) ∧ w.frozen? ⟨T.db, 9, none⟩ = false) ∨ Idx w T (keysF T.fs fbs ubs T.K)

/-- All that holds of a table while Given is asked. -/
structure Stat (w : World) (T : TabD) (fbs ubs : List UInt8) : Prop where
  tab : Tab w T
  ord : Ord T
  fits : Fits T
  texts : Texts w T.fa T.fl T.fc T.ua T.ul T.uc fbs ubs
  o1 : Off T.db T.fa
  o2 : Off T.db T.ua
  nd : (keysF T.fs fbs ubs T.K).Nodup
  idx : IdxOk w T fbs ubs

theorem Stat.below {w w' : World} {T : TabD} {fbs ubs : List UInt8} (h : Stat w T fbs ubs) (hb : Below w.heap.size w w') : Stat w' T fbs ubs := by
  refine ⟨h.tab.below hb, h.ord, h.fits, h.texts.below hb, h.o1, h.o2, h.nd, ?_⟩
  rcases h.idx with hi | ⟨h1, h2⟩ | hi
  · exact .inl hi
  · exact .inr (.inl ⟨cell_later hb h1, by rw [hb.frozen (by exact h.tab.hdb)]; exact h2⟩)
  · exact .inr (.inr (hi.below hb))

theorem find25 (T : TabD) (fbs ubs key : List UInt8) (a : Option Addr) (l c : Nat) (w : World) (h : Stat w T fbs ubs) (hl : key.length = l) (hn : a = none → l = 0) (hs : SB w a key) (hoa : Off T.db a) (hm : l ≤ maxLen) :
    Calls Try.prog 25 #[.pointer (some ⟨T.db, 0, none⟩), .int .u32 1, .slice a l c] w fun e w' => e = .returned (ptrOf T (findFrom T fbs ubs key T.K 0)) ∧ Bel T.db w w' ∧ Stat w' T fbs ubs := by
  by_cases hK : T.K ≤ 16
  · refine (find25_small T fbs ubs key a l c w h.tab h.fits h.texts hK hl hn hs).mono ?_
    rintro e w' ⟨he, hb⟩
    exact ⟨he, Bel.of_below hb h.tab.hdb, h.below hb⟩
  · rcases h.idx with hi | ⟨h1, h2⟩ | hi
    · exact absurd hi hK
    · refine (find25_fresh T fbs ubs key a l c w h.tab h.ord h.fits h.texts h.o1 h.o2 (by omega) h1 h2 h.nd hl hn hs hoa hm).mono ?_
      rintro e w' ⟨he, hb, hx⟩
      exact ⟨he, hb, ⟨h.tab.bel hb h.ord, h.ord, h.fits, h.texts.bel hb h.o1 h.o2, h.o1, h.o2, h.nd, .inr (.inr hx)⟩⟩
    · refine (find25_built T fbs ubs key a l c w h.tab (by omega) hi hl hn hs hm).mono ?_
      rintro e w' ⟨he, hb⟩
      exact ⟨he, Bel.of_below hb h.tab.hdb, h.below hb⟩

theorem given16 (T : TabD) (fbs ubs key : List UInt8) (w : World) (h : Stat w T fbs ubs) (hm : key.length ≤ maxLen) :
    Calls Try.prog 16 #[.pointer (some ⟨T.tb, 0, none⟩), .string ⟨key.toArray⟩] w fun e w' => e = .returned (.bool (givenB T (findFrom T fbs ubs key T.K 0))) ∧ Bel T.db w w' ∧ Stat w' T fbs ubs := by
  have hbw' : Below w.heap.size w (Lib.bytesWorld w.drew 5 ⟨key.toArray⟩) := (Below.refl _ _).drew.trans (by simpa using below_bytesWorld w.drew ⟨key.toArray⟩)
  refine given_of_find T key _ w _ h.tab (fun c => ?_) (fun i hi w1 hb => ?_)
  · refine (find25 T fbs ubs key (some ⟨w.heap.size, 0, none⟩) key.length c _ (h.below hbw') rfl (by simp) (sb_bytesWorld w.drew key) (fun x hx => by cases hx; have := h.tab.hdb; simp; omega) hm).mono ?_
    rintro e w1 ⟨he, hb, hst⟩
    exact ⟨he, (Bel.of_below hbw' h.tab.hdb).trans hb, hst⟩
  · exact hb.2.tab.f7 i (by have := findFrom_lt T fbs ubs key T.K 0 i hi; omega)

/-! ### what Given answers at the keys of the table -/
theorem given_key {T : TabD} {fbs ubs : List UInt8} (hnd : (keysF T.fs fbs ubs T.K).Nodup) (i : Nat) (hi : i < T.K) : givenB T (findFrom T fbs ubs (keyB fbs ubs (T.fs i).1 (T.fs i).2.1) T.K 0) = !(T.fs i).2.2 := by
  have hl : i < (keysF T.fs fbs ubs T.K).length := by rw [keysF_len]; exact hi
  have e : (keysF T.fs fbs ubs T.K)[i] = keyB fbs ubs (T.fs i).1 (T.fs i).2.1 := keysF_get _ _ _ _ _ hl
  rw [find_list, ← e]
  have hm : (keysF T.fs fbs ubs T.K).contains (keysF T.fs fbs ubs T.K)[i] = true := by simp
  rw [hm, if_pos rfl, List.Nodup.idxOf_getElem hnd i hl]
  rfl

theorem untF_mem (fs : Nat → Nat × Nat × Bool) (fbs ubs : List UInt8) (x : List UInt8) : ∀ k, x ∈ untF fs fbs ubs k → ∃ i, i < k ∧ (fs i).2.2 = false ∧ keyB fbs ubs (fs i).1 (fs i).2.1 = x
  | 0, h => by simp [untF] at h
  | k + 1, h => by
    unfold untF at h
    rcases List.mem_append.1 h with h | h
    · obtain ⟨i, h1, h2, h3⟩ := untF_mem fs fbs ubs x k h
      exact ⟨i, by omega, h2, h3⟩
    · cases hk : (fs k).2.2 with
      | true => rw [hk] at h; simp at h
      | false => rw [hk] at h; simp at h; exact ⟨k, by omega, hk, h.symm⟩

theorem given_unt {T : TabD} {fbs ubs : List UInt8} (hnd : (keysF T.fs fbs ubs T.K).Nodup) (x : List UInt8) (hx : x ∈ untF T.fs fbs ubs T.K) : givenB T (findFrom T fbs ubs x T.K 0) = true := by
  obtain ⟨i, hi, ht, rfl⟩ := untF_mem _ _ _ _ _ hx
  rw [given_key hnd i hi, ht]; rfl
end Go.Proofs.Qxb6605987a
