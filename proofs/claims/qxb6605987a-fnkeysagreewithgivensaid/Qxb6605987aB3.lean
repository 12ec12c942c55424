import Derived.Test.Qxb6605987aB2
import Derived.Deep.QuietTactic
import Derived.BigQuiet
import Derived.Lib.ConvBytes
import Derived.Laws.BytesArg
namespace Go.Proofs.Qxb6605987a
open Go.RowKit
set_option linter.unusedVariables false
set_option linter.unusedSimpArgs false

/-- The bytes of a span of the text. -/
def keyB (fbs ubs : List UInt8) (x y : Nat) : List UInt8 := ((fbs ++ ubs).drop x).take y

theorem keyB_len (fbs ubs : List UInt8) (x y : Nat) (h : x + y ≤ fbs.length + ubs.length) : (keyB fbs ubs x y).length = y := by simp [keyB]; omega

/-- A cut of a slice of bytes. -/
theorem SB.cut {W : World} {a : Option Addr} {bs : List UInt8} (hs : SB W a bs) (x y : Nat) (hy : x + y ≤ bs.length) : SB W (a.map (·.add x)) ((bs.drop x).take y) := by
  rcases hs with hs | ⟨b, off, rfl, hlt, hc⟩
  · simp at hs; subst hs; simp; exact SB.nil _ _
  · simp only [Option.map_some, addr_add0]
    have := SC.part (a := none) (w := W) (b := b) (off := off) (cs := bs.map cB) (.inr ⟨b, off, rfl, hlt, hc⟩) x y (by simpa using hy)
    unfold SB
    simpa using this

theorem below_alloc_drewN (w : World) (o : Obj) (n : Nat) : Below w.heap.size w ((w.alloc o).drewN n) :=
  below_drewN ((Below.refl _ _).alloc (Nat.le_refl _) o) n

set_option maxRecDepth 100000 in
set_option maxHeartbeats 400000 in
theorem bytesOf27_file (db : Nat) (x y fl fc : Nat) (fa : Option Addr) (w : World) (hdb : db < w.heap.size) (hfl : fl ≤ fc) (hfc : fc ≤ 1048576)
    (d10 : w.cell? ⟨db, 10, none⟩ = some (.slice fa fl fc)) (hx : x < fl) (hxy : x + y ≤ fl) :
    Calls Try.prog 27 #[.pointer (some ⟨db, 0, none⟩), .agg #[.int .u32 x, .int .u32 y]] w fun e w' => e = .returned (.slice (fa.map (·.add x)) (x + y - x) (fc - x)) ∧ Below w.heap.size w w' := by
  go_enter Try.func27, Try.ntmps27
  go_wp2
  go_quiet (fail)
  go_wp2
  go_ret
  exact ⟨rfl, below_alloc_drewN _ _ _⟩

set_option maxRecDepth 100000 in
set_option maxHeartbeats 400000 in
theorem bytesOf27_un (db : Nat) (x y fl fc ul uc : Nat) (fa ua : Option Addr) (w : World) (hdb : db < w.heap.size) (hfl : fl ≤ fc) (hfc : fc ≤ 1048576) (hul : ul ≤ uc) (huc : uc ≤ 1048576)
    (d10 : w.cell? ⟨db, 10, none⟩ = some (.slice fa fl fc)) (d11 : w.cell? ⟨db, 11, none⟩ = some (.slice ua ul uc)) (hx : fl ≤ x) (hxy : x + y ≤ fl + ul) (hlt : x < fl + uc) :
    Calls Try.prog 27 #[.pointer (some ⟨db, 0, none⟩), .agg #[.int .u32 x, .int .u32 y]] w fun e w' => e = .returned (.slice (ua.map (·.add (x - fl))) (x + y - fl - (x - fl)) (uc - (x - fl))) ∧ Below w.heap.size w w' := by
  go_enter Try.func27, Try.ntmps27
  go_wp2
  go_quiet (fail)
  go_wp2
  go_quiet (fail)
  go_wp2
  go_ret
  exact ⟨rfl, below_drewN (below_alloc_drewN _ _ _) _⟩

set_option maxRecDepth 100000 in
set_option maxHeartbeats 400000 in
theorem bytesOf27_end (db : Nat) (fl fc ul : Nat) (fa ua : Option Addr) (w : World) (hdb : db < w.heap.size) (hfl : fl ≤ fc) (hfc : fc ≤ 1048576) (huc : ul ≤ 1048576)
    (d10 : w.cell? ⟨db, 10, none⟩ = some (.slice fa fl fc)) (d11 : w.cell? ⟨db, 11, none⟩ = some (.slice ua ul ul)) :
    Calls Try.prog 27 #[.pointer (some ⟨db, 0, none⟩), .agg #[.int .u32 ((fl + ul : Nat) : Int), .int .u32 0]] w fun e w' => e = .returned (.slice ua 0 0) ∧ Below w.heap.size w w' := by
  go_enter Try.func27, Try.ntmps27
  go_wp2
  go_quiet (fail)
  go_wp2
  go_quiet (fail)
  go_wp2
  go_ret
  exact ⟨by simp, below_drewN (below_alloc_drewN _ _ _) _⟩

/-- What the walk is told of the two texts: each slice reads its bytes. -/
structure Texts (w : World) (fa : Option Addr) (fl fc : Nat) (ua : Option Addr) (ul uc : Nat) (fbs ubs : List UInt8) : Prop where
  hf : SB w fa fbs
  hu : SB w ua ubs
  hfl : fbs.length = fl
  hul : ubs.length = ul
  hfn : fa = none → fl = 0
  hun : ua = none → ul = 0
  hflc : fl ≤ fc
  hfc : fc ≤ 1048576
  hulc : ul ≤ uc
  huc : uc ≤ 1048576

theorem Texts.below {w w' : World} {fa : Option Addr} {fl fc : Nat} {ua : Option Addr} {ul uc : Nat} {fbs ubs : List UInt8} (h : Texts w fa fl fc ua ul uc fbs ubs) (hb : Below w.heap.size w w') : Texts w' fa fl fc ua ul uc fbs ubs :=
  ⟨h.hf.below hb, h.hu.below hb, h.hfl, h.hul, h.hfn, h.hun, h.hflc, h.hfc, h.hulc, h.huc⟩

theorem map_none {α β : Type} {f : α → β} {a : Option α} (h : a.map f = none) : a = none := by cases a <;> simp_all

theorem bytesOf27 (db : Nat) (x y fl fc ul uc : Nat) (fa ua : Option Addr) (fbs ubs : List UInt8) (w : World) (hdb : db < w.heap.size)
    (d10 : w.cell? ⟨db, 10, none⟩ = some (.slice fa fl fc)) (d11 : w.cell? ⟨db, 11, none⟩ = some (.slice ua ul uc)) (hT : Texts w fa fl fc ua ul uc fbs ubs)
    (hxy : x + y ≤ fl ∨ (fl ≤ x ∧ x + y ≤ fl + ul)) :
    Calls Try.prog 27 #[.pointer (some ⟨db, 0, none⟩), .agg #[.int .u32 x, .int .u32 y]] w fun e w' => ∃ a' c', e = .returned (.slice a' y c') ∧ Below w.heap.size w w' ∧ SB w' a' (keyB fbs ubs x y) ∧ (a' = none → y = 0) := by
  obtain ⟨hf, hu, hfl, hul, hfn, hun, hflc, hfc, hulc, huc⟩ := hT
  by_cases c1 : x < fl
  · have c2 : x + y ≤ fl := by omega
    refine (bytesOf27_file db x y fl fc fa w hdb hflc hfc d10 c1 c2).mono ?_
    rintro e w' ⟨rfl, hb⟩
    have e1 : x + y - x = y := by omega
    rw [e1]
    refine ⟨_, _, rfl, hb, ?_, fun h => by have := hfn (map_none h); omega⟩
    have := (hf.below hb).cut x y (by omega)
    have e2 : keyB fbs ubs x y = (fbs.drop x).take y := by
      unfold keyB
      rw [List.drop_append_of_le_length (by omega), List.take_append_of_le_length (by simp; omega)]
    rw [e2]; exact this
  · have c2 : fl ≤ x ∧ x + y ≤ fl + ul := by omega
    have e2 : keyB fbs ubs x y = (ubs.drop (x - fl)).take y := by
      unfold keyB
      rw [List.drop_append, List.drop_of_length_le (by omega), hfl]; simp
    rw [e2]
    by_cases c3 : x < fl + uc
    · refine (bytesOf27_un db x y fl fc ul uc fa ua w hdb hflc hfc hulc huc d10 d11 c2.1 c2.2 c3).mono ?_
      rintro e w' ⟨rfl, hb⟩
      have e1 : x + y - fl - (x - fl) = y := by omega
      rw [e1]
      refine ⟨_, _, rfl, hb, ?_, fun h => by have := hun (map_none h); omega⟩
      exact (hu.below hb).cut (x - fl) y (by omega)
    · obtain rfl : uc = ul := by omega
      obtain rfl : y = 0 := by omega
      obtain rfl : x = fl + uc := by omega
      refine (bytesOf27_end db fl fc uc fa ua w hdb hflc hfc huc d10 d11).mono ?_
      rintro e w' ⟨rfl, hb⟩
      exact ⟨_, _, rfl, hb, by simp; exact SB.nil _ _, fun _ => rfl⟩
end Go.Proofs.Qxb6605987a
