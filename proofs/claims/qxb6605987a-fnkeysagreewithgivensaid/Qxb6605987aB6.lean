import Derived.Test.Qxb6605987aB5
namespace Go.Proofs.Qxb6605987a
open Go.RowKit
set_option linter.unusedVariables false
set_option linter.unusedSimpArgs false

/-- What Given answers. -/
def givenB (T : TabD) (o : Option Nat) : Bool := match o with | some i => !(T.fs i).2.2 | none => false

theorem findFrom_lt (T : TabD) (fbs ubs key : List UInt8) : ∀ (n i j : Nat), findFrom T fbs ubs key n i = some j → i ≤ j ∧ j < i + n ∧ keyAt T fbs ubs j = key
  | 0, i, j, h => by simp [findFrom] at h
  | n + 1, i, j, h => by
    unfold findFrom at h
    split at h
    · cases h; rename_i hk; exact ⟨Nat.le_refl _, by omega, by simpa using hk⟩
    · have := findFrom_lt T fbs ubs key n (i + 1) j h
      exact ⟨by omega, by omega, this.2.2⟩

theorem below_bytesWorld (w : World) (s : ByteArray) : Below w.heap.size w (Lib.bytesWorld w 5 s) :=
  ⟨rfl, rfl, rfl, by rw [Lib.bytesWorld_size]; omega, fun k hk => Lib.bytesWorld_at_old w 5 s k hk⟩

theorem sb_bytesWorld (w : World) (key : List UInt8) : SB (Lib.bytesWorld w 5 ⟨key.toArray⟩) (some ⟨w.heap.size, 0, none⟩) key := by
  refine .inr ⟨w.heap.size, 0, rfl, by rw [Lib.bytesWorld_size]; omega, fun i hi => ?_⟩
  have hi' : i < key.length := by simpa using hi
  rw [Nat.zero_add, Lib.bytesWorld_cell _ _ _ _ (by simpa [ByteArray.size] using hi')]
  simp [cB, List.getD, hi']

set_option maxRecDepth 100000 in
set_option maxHeartbeats 1000000 in
theorem given_none (T : TabD) (key : List UInt8) (w : World) (R : World → Prop) (t5 : w.cell? ⟨T.tb, 5, none⟩ = some (.pointer (some ⟨T.db, 0, none⟩))) (t6 : w.cell? ⟨T.tb, 6, none⟩ = some (.int .u32 1))
    (t5' : (Lib.bytesWorld w.drew 5 ⟨key.toArray⟩).cell? ⟨T.tb, 5, none⟩ = some (.pointer (some ⟨T.db, 0, none⟩))) (t6' : (Lib.bytesWorld w.drew 5 ⟨key.toArray⟩).cell? ⟨T.tb, 6, none⟩ = some (.int .u32 1))
    (HC : Hid (∀ c, Calls Try.prog 25 #[.pointer (some ⟨T.db, 0, none⟩), .int .u32 1, .slice (some ⟨w.heap.size, 0, none⟩) key.length c] (Lib.bytesWorld w.drew 5 ⟨key.toArray⟩)
      fun e w' => e = .returned (.pointer none) ∧ R w')) :
    Calls Try.prog 16 #[.pointer (some ⟨T.tb, 0, none⟩), .string ⟨key.toArray⟩] w fun e w' => e = .returned (.bool false) ∧ R w' := by
  have hcv := fun (W : World) => Lib.run_convert_string_bytes (P := Try.prog) W 9 22 5 ⟨key.toArray⟩ Try.underlying9 Try.underlying22 Try.underlying5
  go_enter Try.func16, Try.ntmps16
  go_wp2
  go_region_with (go_at_call 25; refine (HC.out _).mono ?_; rintro e w1 ⟨rfl, hb⟩)
  all_goals have HB1 : Hid (R w1) := hb
  all_goals clear hb
  all_goals go_wp2
  all_goals go_ret
  all_goals exact ⟨rfl, HB1.out⟩

set_option maxRecDepth 100000 in
set_option maxHeartbeats 1000000 in
theorem given_some (T : TabD) (key : List UInt8) (i : Nat) (w : World) (R : World → Prop) (t5 : w.cell? ⟨T.tb, 5, none⟩ = some (.pointer (some ⟨T.db, 0, none⟩))) (t6 : w.cell? ⟨T.tb, 6, none⟩ = some (.int .u32 1))
    (t5' : (Lib.bytesWorld w.drew 5 ⟨key.toArray⟩).cell? ⟨T.tb, 5, none⟩ = some (.pointer (some ⟨T.db, 0, none⟩))) (t6' : (Lib.bytesWorld w.drew 5 ⟨key.toArray⟩).cell? ⟨T.tb, 6, none⟩ = some (.int .u32 1))
    (HC : Hid (∀ c, Calls Try.prog 25 #[.pointer (some ⟨T.db, 0, none⟩), .int .u32 1, .slice (some ⟨w.heap.size, 0, none⟩) key.length c] (Lib.bytesWorld w.drew 5 ⟨key.toArray⟩)
      fun e w' => e = .returned (.pointer (some ⟨T.fb, i * 8, none⟩)) ∧ R w'))
    (HR : Hid (∀ w1, R w1 → w1.cell? ⟨T.fb, i * 8 + 7, none⟩ = some (.bool (T.fs i).2.2))) :
    Calls Try.prog 16 #[.pointer (some ⟨T.tb, 0, none⟩), .string ⟨key.toArray⟩] w fun e w' => e = .returned (.bool !(T.fs i).2.2) ∧ R w' := by
  have hcv := fun (W : World) => Lib.run_convert_string_bytes (P := Try.prog) W 9 22 5 ⟨key.toArray⟩ Try.underlying9 Try.underlying22 Try.underlying5
  go_enter Try.func16, Try.ntmps16
  go_wp2
  go_region_with (go_at_call 25; refine (HC.out _).mono ?_; rintro e w1 ⟨rfl, hb⟩)
  all_goals have HB1 : Hid (R w1) := hb
  all_goals have g7 := HR.out w1 hb
  all_goals clear hb
  all_goals go_wp2
  all_goals go_ret
  all_goals exact ⟨rfl, HB1.out⟩

theorem given_of_find (T : TabD) (key : List UInt8) (o : Option Nat) (w : World) (R : World → Prop) (h : Tab w T)
    (HC : ∀ c, Calls Try.prog 25 #[.pointer (some ⟨T.db, 0, none⟩), .int .u32 1, .slice (some ⟨w.heap.size, 0, none⟩) key.length c] (Lib.bytesWorld w.drew 5 ⟨key.toArray⟩)
      fun e w' => e = .returned (ptrOf T o) ∧ R w')
    (HR : ∀ i, o = some i → ∀ w1, R w1 → w1.cell? ⟨T.fb, i * 8 + 7, none⟩ = some (.bool (T.fs i).2.2)) :
    Calls Try.prog 16 #[.pointer (some ⟨T.tb, 0, none⟩), .string ⟨key.toArray⟩] w fun e w' => e = .returned (.bool (givenB T o)) ∧ R w' := by
  have hbw' : Below w.heap.size w (Lib.bytesWorld w.drew 5 ⟨key.toArray⟩) := (Below.refl _ _).drew.trans (by simpa using below_bytesWorld w.drew ⟨key.toArray⟩)
  have h' := h.below hbw'
  cases o with
  | none => exact given_none T key w R h.t5 h.t6 h'.t5 h'.t6 HC
  | some i => exact given_some T key i w R h.t5 h.t6 h'.t5 h'.t6 HC (HR i rfl)

theorem given16_small (T : TabD) (fbs ubs key : List UInt8) (w : World) (h : Tab w T) (hF : Fits T) (hT : Texts w T.fa T.fl T.fc T.ua T.ul T.uc fbs ubs) (hK : T.K ≤ 16) :
    Calls Try.prog 16 #[.pointer (some ⟨T.tb, 0, none⟩), .string ⟨key.toArray⟩] w fun e w' => e = .returned (.bool (givenB T (findFrom T fbs ubs key T.K 0))) ∧ Below w.heap.size w w' := by
  have hbw' : Below w.heap.size w (Lib.bytesWorld w.drew 5 ⟨key.toArray⟩) := (Below.refl _ _).drew.trans (by simpa using below_bytesWorld w.drew ⟨key.toArray⟩)
  refine given_of_find T key _ w _ h (fun c => ?_) (fun i hi w1 hb => ?_)
  · refine (find25_small T fbs ubs key (some ⟨w.heap.size, 0, none⟩) key.length c _ (h.below hbw') hF (hT.below hbw') hK rfl (by simp) (sb_bytesWorld w.drew key)).mono ?_
    rintro e w1 ⟨he, hb⟩
    exact ⟨he, hbw'.trans (hb.mono hbw'.size)⟩
  · exact (h.below hb).f7 i (by have := findFrom_lt T fbs ubs key T.K 0 i hi; omega)
end Go.Proofs.Qxb6605987a
