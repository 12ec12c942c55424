import Derived.Test.Qxb6605987aD2
namespace Go.Proofs.Qxb6605987a
open Go.RowKit Go.Maps Go.WideMaps
set_option linter.unusedVariables false
set_option linter.unusedSimpArgs false

/-! ### what may turn: one cell of the document, and new blocks -/
structure Bel (db : Nat) (w w' : World) : Prop where
  os : w'.os = w.os
  tape : w'.tape = w.tape
  output : w'.output = w.output
  size : w.heap.size ≤ w'.heap.size
  block : ∀ k, k < w.heap.size → k ≠ db → w'.heap[k]? = w.heap[k]?
  cell : ∀ o, o ≠ 9 → w'.cell? ⟨db, o, none⟩ = w.cell? ⟨db, o, none⟩

theorem Bel.refl (db : Nat) (w : World) : Bel db w w := ⟨rfl, rfl, rfl, Nat.le_refl _, fun _ _ _ => rfl, fun _ _ => rfl⟩
theorem Bel.trans {db : Nat} {a b c : World} (h : Bel db a b) (k : Bel db b c) : Bel db a c :=
  ⟨k.os.trans h.os, k.tape.trans h.tape, k.output.trans h.output, Nat.le_trans h.size k.size, fun i hi hn => (k.block i (Nat.lt_of_lt_of_le hi h.size) hn).trans (h.block i hi hn), fun o ho => (k.cell o ho).trans (h.cell o ho)⟩
theorem Bel.of_below {db : Nat} {w w' : World} (h : Below w.heap.size w w') (hd : db < w.heap.size) : Bel db w w' :=
  ⟨h.os, h.tape, h.output, h.size, fun k hk _ => h.block k hk, fun o _ => h.cell (by exact hd)⟩
theorem Bel.below {db B : Nat} {w0 w w' : World} (h : Bel db w w') (h0 : Below B w0 w) (hB : B ≤ w.heap.size) (hd : B ≤ db) : Below B w0 w' :=
  h0.trans ⟨h.os, h.tape, h.output, h.size, fun k hk => h.block k (by omega) (by omega)⟩
theorem Bel.cellAt {db : Nat} {w w' : World} (h : Bel db w w') {b o : Nat} (hb : b < w.heap.size) (hn : b ≠ db) : w'.cell? ⟨b, o, none⟩ = w.cell? ⟨b, o, none⟩ := World.cell?_of_block (w := w) (h.block b hb hn)

/-- The address does not lie in the document's block. -/
def Off (db : Nat) (a : Option Addr) : Prop := ∀ x, a = some x → x.block ≠ db

theorem SC.bel {db : Nat} {w w' : World} {a : Option Addr} {cs : List Value} (h : SC w a cs) (hb : Bel db w w') (ho : Off db a) : SC w' a cs := by
  rcases h with h | ⟨b, off, rfl, hlt, hc⟩
  · exact .inl h
  · exact .inr ⟨b, off, rfl, Nat.lt_of_lt_of_le hlt hb.size, fun i hi => by rw [hb.cellAt hlt (ho _ rfl)]; exact hc i hi⟩

theorem Texts.bel {db : Nat} {w w' : World} {fa : Option Addr} {fl fc : Nat} {ua : Option Addr} {ul uc : Nat} {fbs ubs : List UInt8} (h : Texts w fa fl fc ua ul uc fbs ubs) (hb : Bel db w w') (h1 : Off db fa) (h2 : Off db ua) : Texts w' fa fl fc ua ul uc fbs ubs :=
  ⟨SC.bel h.hf hb h1, SC.bel h.hu hb h2, h.hfl, h.hul, h.hfn, h.hun, h.hflc, h.hfc, h.hulc, h.huc⟩

/-- The blocks of the table lie apart. -/
def Ord (T : TabD) : Prop := T.fb < T.kb ∧ T.kb < T.cb ∧ T.cb < T.db ∧ T.db < T.tb

theorem Tab.bel {w w' : World} {T : TabD} (h : Tab w T) (hb : Bel T.db w w') (ho : Ord T) : Tab w' T := by
  obtain ⟨htb, hdb, hcb, hkb, hfb, hK, t5, t6, d8, d10, d11, c0, k1, f0, f1, f7⟩ := h
  have hs := hb.size
  obtain ⟨o1, o2, o3, o4⟩ := ho
  exact ⟨by omega, by omega, by omega, by omega, by omega, hK, by rw [hb.cellAt htb (by omega)]; exact t5, by rw [hb.cellAt htb (by omega)]; exact t6,
    by rw [hb.cell 8 (by omega)]; exact d8, by rw [hb.cell 10 (by omega)]; exact d10, by rw [hb.cell 11 (by omega)]; exact d11,
    by rw [hb.cellAt hcb (by omega)]; exact c0, by rw [hb.cellAt hkb (by omega)]; exact k1,
    fun i hi => by rw [hb.cellAt hfb (by omega)]; exact f0 i hi, fun i hi => by rw [hb.cellAt hfb (by omega)]; exact f1 i hi, fun i hi => by rw [hb.cellAt hfb (by omega)]; exact f7 i hi⟩

/-! ### the keys as a list -/
theorem keyAt_eq (T : TabD) (fbs ubs : List UInt8) (i : Nat) : keyAt T fbs ubs i = keyB fbs ubs (T.fs i).1 (T.fs i).2.1 := rfl

theorem findFrom_eq (T : TabD) (fbs ubs key : List UInt8) : ∀ (n i : Nat), findFrom T fbs ubs key n i =
    if ((List.range' i n).map (keyAt T fbs ubs)).contains key then some (i + ((List.range' i n).map (keyAt T fbs ubs)).idxOf key) else none
  | 0, i => by simp [findFrom]
  | n + 1, i => by
    unfold findFrom
    rw [findFrom_eq T fbs ubs key n (i + 1), List.range'_succ, List.map_cons]
    by_cases h : keyAt T fbs ubs i = key
    · subst h; simp
    · have h1 : (keyAt T fbs ubs i == key) = false := by simp [h]
      rw [if_neg (by rw [h1]; simp), List.contains_cons, List.idxOf_cons, show (key == keyAt T fbs ubs i) = false by simp [Ne.symm h], Bool.false_or, cond_eq_ite]
      simp only [h1]
      split
      · congr 1; simp; omega
      · rfl

theorem find_list (T : TabD) (fbs ubs key : List UInt8) : findFrom T fbs ubs key T.K 0 = if (keysF T.fs fbs ubs T.K).contains key then some ((keysF T.fs fbs ubs T.K).idxOf key) else none := by
  have := findFrom_eq T fbs ubs key T.K 0
  rw [← List.range_eq_range', show (List.range T.K).map (keyAt T fbs ubs) = keysF T.fs fbs ubs T.K from rfl] at this
  simpa only [Nat.zero_add] using this

/-- The index is built. -/
def Idx (w : World) (T : TabD) (ks : List (List UInt8)) : Prop :=
  ∃ mb xb pb n, w.cell? ⟨T.db, 9, none⟩ = some (.map (some mb)) ∧ MapX w mb xb ∧ w.cell? ⟨xb, 0, none⟩ = some (.map (some pb)) ∧ w.cell? ⟨xb, 1, none⟩ = some (.int .i64 T.K) ∧ MapP w pb n ks

theorem Idx.below {w w' : World} {T : TabD} {ks : List (List UInt8)} (h : Idx w T ks) (hb : Below w.heap.size w w') : Idx w' T ks := by
  obtain ⟨mb, xb, pb, n, h1, h2, h3, h4, h5⟩ := h
  have hg := grown_of_below hb
  exact ⟨mb, xb, pb, n, cell_later hb h1, h2.kept hg (by simp), cell_later hb h3, cell_later hb h4, h5.kept hg (by simp)⟩

theorem ptr_list (T : TabD) (fbs ubs key : List UInt8) : ptrOf T (findFrom T fbs ubs key T.K 0) = if (keysF T.fs fbs ubs T.K).contains key then .pointer (some ⟨T.fb, (keysF T.fs fbs ubs T.K).idxOf key * 8, none⟩) else .pointer none := by
  rw [find_list]
  split <;> rfl

set_option maxRecDepth 100000 in
set_option maxHeartbeats 1000000 in
theorem find25_built (T : TabD) (fbs ubs key : List UInt8) (a : Option Addr) (l c : Nat) (w : World) (h : Tab w T) (hK : 16 < T.K) (hI : Idx w T (keysF T.fs fbs ubs T.K))
    (hl : key.length = l) (hn : a = none → l = 0) (hs : SB w a key) (hm : l ≤ maxLen) :
    Calls Try.prog 25 #[.pointer (some ⟨T.db, 0, none⟩), .int .u32 1, .slice a l c] w fun e w' => e = .returned (ptrOf T (findFrom T fbs ubs key T.K 0)) ∧ Below w.heap.size w w' := by
  rw [ptr_list]
  obtain ⟨mb, xb, pb, n, d9, hX, x0, x1, hP⟩ := hI
  have hlx := hX.look
  have hlp : ∀ q, (Instr.lookup 73 (.map (some pb)) (.string ⟨key.toArray⟩) true).run Try.prog (w.drewN q) = .ok (.tuple #[.int .i64 (posOr (keysF T.fs fbs ubs T.K) key : Nat), .bool ((keysF T.fs fbs ubs T.K).contains key)]) (w.drewN q) :=
    fun q => (hP.kept (grown_of_below (below_drewN (Below.refl _ w) q)) (by simp)).look key (by rw [hl]; exact hm)
  have hcv : ∀ q, (convert 22 9 (.slice a l c)).run Try.prog (w.drewN q) = .ok (.string ⟨key.toArray⟩) (w.drewN q) := fun q => conv_str _ a l c key hl hn (hs.below (below_drewN (Below.refl _ w) q))
  have hpos : posOr (keysF T.fs fbs ubs T.K) key = (keysF T.fs fbs ubs T.K).idxOf key ∨ (keysF T.fs fbs ubs T.K).contains key = false := by
    unfold posOr; cases (keysF T.fs fbs ubs T.K).contains key <;> simp
  have hb : (keysF T.fs fbs ubs T.K).contains key = true → (keysF T.fs fbs ubs T.K).idxOf key < T.K := fun hc => by
    have := List.idxOf_lt_length_of_mem (l := keysF T.fs fbs ubs T.K) (a := key) (by simpa using hc)
    rwa [keysF_len] at this
  generalize posOr (keysF T.fs fbs ubs T.K) key = ci at *
  generalize (keysF T.fs fbs ubs T.K).idxOf key = ix at *
  generalize (keysF T.fs fbs ubs T.K).contains key = cc at *
  have hd : decide ((T.K : Int) ≤ 16) = false := by simp; omega
  have k1 := h.k1
  have hK4 := h.hK
  have H := hide h
  clear h hX hP hl hn hs hm
  cases cc
  · clear hpos hb
    go_enter Try.func25, Try.ntmps25
    go_wp2_with fail
    refine (fields28 T w H.out).mono ?_
    rintro e w' ⟨rfl, hw⟩
    obtain rfl := hw.symm
    go_wp2_with fail
    refine wp_loop_rounds 1 ?_
    rw [rounds_succ]
    go_wp2_with fail
    go_quiet (fail)
    go_wp2
    go_ret
    exact ⟨rfl, below_drewN (Below.refl _ _) _⟩
  · have hbb := hb rfl
    obtain rfl : ci = ix := by rcases hpos with h | h; exact h; cases h
    clear hpos hb
    go_enter Try.func25, Try.ntmps25
    go_wp2_with fail
    refine (fields28 T w H.out).mono ?_
    rintro e w' ⟨rfl, hw⟩
    obtain rfl := hw.symm
    go_wp2_with fail
    refine wp_loop_rounds 1 ?_
    rw [rounds_succ]
    go_wp2_with fail
    go_quiet (fail)
    go_wp2
    go_ret
    exact ⟨rfl, below_drewN (Below.refl _ _) _⟩
end Go.Proofs.Qxb6605987a
