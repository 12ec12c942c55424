import Derived.Test.Qxb6605987aD3
namespace Go.Proofs.Qxb6605987a
open Go.RowKit Go.Maps Go.WideMaps
set_option linter.unusedVariables false
set_option linter.unusedSimpArgs false

/-- The index, its first k fields filed. -/
structure Build (w : World) (db mb xb pb k : Nat) (ks : List (List UInt8)) : Prop where
  d9 : w.cell? ⟨db, 9, none⟩ = some (.map (some mb))
  mx : MapX w mb xb
  x0 : w.cell? ⟨xb, 0, none⟩ = some (.map (some pb))
  x1 : w.cell? ⟨xb, 1, none⟩ = some (.int .i64 k)
  fz : w.frozen? ⟨xb, 1, none⟩ = false
  mp : MapP w pb k ks
  n1 : mb ≠ pb
  n2 : xb ≠ mb
  n3 : xb ≠ pb
  n4 : db ≠ mb
  n5 : db ≠ xb
  n6 : db ≠ pb

theorem Build.below {w w' : World} {db mb xb pb k : Nat} {ks : List (List UInt8)} (h : Build w db mb xb pb k ks) (hb : Below w.heap.size w w') : Build w' db mb xb pb k ks := by
  have hg := grown_of_below hb
  exact ⟨cell_later hb h.d9, h.mx.kept hg (by simp), cell_later hb h.x0, cell_later hb h.x1, by rw [hb.frozen (World.block_lt_of_cell? _ _ h.x1)]; exact h.fz, h.mp.kept hg (by simp), h.n1, h.n2, h.n3, h.n4, h.n5, h.n6⟩

theorem Build.step {w w' : World} {db mb xb pb k : Nat} {ks : List (List UInt8)} {kk : List UInt8} (h : Build w db mb xb pb k ks) (hg : w.grownBy w' (some pb)) (hp : MapP w' pb (k + 1) (ks ++ [kk])) :
    Build (w'.setCell ⟨xb, 1, none⟩ (.int .i64 ((k : Int) + 1))) db mb xb pb (k + 1) (ks ++ [kk]) := by
  have c9 := hg.cell h.d9 (by simp [h.n6])
  have c0 := hg.cell h.x0 (by simp [h.n3])
  have c1 := hg.cell h.x1 (by simp [h.n3])
  have hx := World.block_lt_of_cell? _ _ h.x1
  have gs : w'.grownBy (w'.setCell ⟨xb, 1, none⟩ (.int .i64 ((k : Int) + 1))) (some xb) := ⟨rfl, rfl, rfl, by simp, fun j _ hj => Below.heap_setCell _ _ _ _ (fun e => hj (by simp [e]))⟩
  refine ⟨?_, (h.mx.kept hg (by simp [h.n1])).kept gs (by simp [Ne.symm h.n2]), ?_, ?_, ?_, hp.kept gs (by simp [Ne.symm h.n3]), h.n1, h.n2, h.n3, h.n4, h.n5, h.n6⟩
  · rw [World.cell?_setCell_other _ _ _ _ (by intro e; injection e with e1; exact h.n5 e1.symm)]; exact c9
  · rw [World.cell?_setCell_other _ _ _ _ (by intro e; injection e with e1 e2; omega)]; exact c0
  · rw [World.cell?_setCell_same _ _ _ c1]; rfl
  · rw [World.frozen?_setCell, World.frozen?_of_block (hg.block xb hx (by simp [h.n3]))]; exact h.fz

theorem Bel.grown {db b : Nat} {w w1 w2 : World} (h : Bel db w w1) (hg : w1.grownBy w2 (some b)) (hb : w.heap.size ≤ b) (hd : db < w.heap.size) : Bel db w w2 := by
  have hs := h.size
  exact ⟨hg.os.trans h.os, hg.tape.trans h.tape, hg.output.trans h.output, Nat.le_trans h.size hg.size,
    fun k hk hn => (hg.block k (by omega) (by simp; omega)).trans (h.block k hk hn), fun o ho => (World.cell?_of_block (hg.block db (by omega) (by simp; omega))).trans (h.cell o ho)⟩

/-- The world behind the making of the index. -/
def W3 (w : World) (db : Nat) : World :=
  ((((w.setCell ⟨db, 9, none⟩ (.map (some w.heap.size))).alloc (.map #[] 0)).alloc (.map #[] 0)).alloc (.cells #[.map (some (w.heap.size + 1)), .int .i64 0] 75))

theorem heap_new (X : World) (n : Nat) (hn : X.heap.size = n) (o : Obj) : (X.alloc o).heap[n]? = some o := by subst hn; exact heap_alloc_new X o

theorem fresh_index (w : World) (db : Nat) (hdb : db < w.heap.size) (d9 : w.cell? ⟨db, 9, none⟩ = some (.map none)) :
    (W3 w db).cell? ⟨db, 9, none⟩ = some (.map (some w.heap.size)) ∧
    ∃ w4, (Instr.mapUpdate 61 (.map (some w.heap.size)) (.int .u32 1) (.pointer (some ⟨w.heap.size + 1 + 1, 0, none⟩))).run Try.prog (W3 w db) = .ok () w4 ∧
      Bel db w w4 ∧ Build w4 db w.heap.size (w.heap.size + 1 + 1) (w.heap.size + 1) 0 [] := by
  have b0 : (w.setCell ⟨db, 9, none⟩ (.map (some w.heap.size))).heap.size = w.heap.size := by simp
  have c9 : (W3 w db).cell? ⟨db, 9, none⟩ = some (.map (some w.heap.size)) := by
    unfold W3
    rw [World.cell?_alloc_lt _ _ _ (by simp; omega), World.cell?_alloc_lt _ _ _ (by simp; omega), World.cell?_alloc_lt _ _ _ (by simp; omega)]
    exact World.cell?_setCell_same _ _ _ d9
  have own : (W3 w db).ownsMap Try.prog 23 ptrElem w.heap.size 0 (.map []) := by
    have := World.ownsMap_made (w.setCell ⟨db, 9, none⟩ (.map (some w.heap.size))) Try.prog 23 ptrElem
    rw [b0] at this
    exact (this.alloc _).alloc _
  have mp : MapP (W3 w db) (w.heap.size + 1) 0 [] := by
    have := mapP_made ((w.setCell ⟨db, 9, none⟩ (.map (some w.heap.size))).alloc (.map #[] 0))
    rw [show ((w.setCell ⟨db, 9, none⟩ (.map (some w.heap.size))).alloc (.map #[] 0)).heap.size = w.heap.size + 1 by simp] at this
    exact this.kept (World.grownBy_alloc _ _ none) (by simp)
  have x0 : (W3 w db).cell? ⟨w.heap.size + 1 + 1, 0, none⟩ = some (.map (some (w.heap.size + 1))) := by unfold W3; rw [new_cell _ _ (by simp)]; rfl
  have x1 : (W3 w db).cell? ⟨w.heap.size + 1 + 1, 1, none⟩ = some (.int .i64 0) := by unfold W3; rw [new_cell _ _ (by simp)]; rfl
  have fz : (W3 w db).frozen? ⟨w.heap.size + 1 + 1, 1, none⟩ = false := by unfold W3; rw [new_frozen _ _ (by simp)]
  have hbel : Bel db w (W3 w db) := by
    refine ⟨rfl, rfl, rfl, by simp [W3]; omega, fun k hk hn => ?_, fun o ho => ?_⟩
    · unfold W3
      rw [Below.heap_alloc _ _ _ (by simp; omega), Below.heap_alloc _ _ _ (by simp; omega), Below.heap_alloc _ _ _ (by simp; omega)]
      exact Below.heap_setCell _ _ _ _ hn
    · unfold W3
      rw [World.cell?_alloc_lt _ _ _ (by simp; omega), World.cell?_alloc_lt _ _ _ (by simp; omega), World.cell?_alloc_lt _ _ _ (by simp; omega)]
      exact World.cell?_setCell_other _ _ _ _ (by intro e; injection e with e1 e2; exact ho e2.symm)
  obtain ⟨w4, hrun, hmx, hg⟩ := MapX.store own (by omega) (w.heap.size + 1 + 1)
  have hsz : (W3 w db).heap.size = w.heap.size + 3 := by simp [W3]
  refine ⟨c9, w4, hrun, hbel.grown hg (Nat.le_refl _) hdb, ⟨hg.cell c9 (by simp; omega), hmx, hg.cell x0 (by simp; omega), hg.cell x1 (by simp; omega), ?_, mp.kept hg (by simp), by omega, by omega, by omega, by omega, by omega, by omega⟩⟩
  · rw [World.frozen?_of_block (hg.block (w.heap.size + 1 + 1) (by omega) (by simp; omega))]; exact fz

def cellNat (w : World) (a : Addr) : Nat := match w.cell? a with | some (.int _ n) => n.toNat | _ => 0

set_option maxRecDepth 100000 in
set_option maxHeartbeats 1000000 in
theorem find25_fresh (T : TabD) (fbs ubs key : List UInt8) (a : Option Addr) (l c : Nat) (w : World) (h : Tab w T) (hO : Ord T) (hF : Fits T) (hT : Texts w T.fa T.fl T.fc T.ua T.ul T.uc fbs ubs) (h1 : Off T.db T.fa) (h2 : Off T.db T.ua) (hK : 16 < T.K)
    (d9 : w.cell? ⟨T.db, 9, none⟩ = some (.map none)) (f9 : w.frozen? ⟨T.db, 9, none⟩ = false) (hnd : (keysF T.fs fbs ubs T.K).Nodup)
    (hl : key.length = l) (hn : a = none → l = 0) (hs : SB w a key) (hoa : Off T.db a) (hm : l ≤ maxLen) :
    Calls Try.prog 25 #[.pointer (some ⟨T.db, 0, none⟩), .int .u32 1, .slice a l c] w fun e w' => e = .returned (ptrOf T (findFrom T fbs ubs key T.K 0)) ∧ Bel T.db w w' ∧ Idx w' T (keysF T.fs fbs ubs T.K) := by
  have hln := look_none
  have hem := fun (w : World) (r : Option Nat) => run_eql_map_nil (P := Try.prog) w 61 23 72 r Try.underlying61
  have hmm := @run_makeMap Try.prog
  have hd : decide ((T.K : Int) ≤ 16) = false := by simp; omega
  have k1 := h.k1
  have hdb := h.hdb
  have hK4 := h.hK
  have H := hide h
  have HO := hide hO
  have HF := hide hF
  have HT := hide hT
  have HND := hide hnd
  have HL := hide hl
  have HN := hide hn
  have HS := hide hs
  have hW := fresh_index w T.db hdb d9
  unfold W3 at hW
  obtain ⟨g9, w4, hst, hbel, hbld⟩ := hW
  have HBel := hide hbel
  have HBld := hide hbld
  clear h hO hF hT hnd hl hn hs hbel hbld
  go_enter Try.func25, Try.ntmps25
  go_wp2_with fail
  refine (fields28 T w H.out).mono ?_
  rintro e w' ⟨rfl, hw⟩
  obtain rfl := hw.symm
  go_wp2_with fail
  obtain ⟨mb, hmb⟩ : ∃ mb, w.heap.size = mb := ⟨_, rfl⟩
  obtain ⟨xb, hxb⟩ : ∃ xb, w.heap.size + 1 + 1 = xb := ⟨_, rfl⟩
  obtain ⟨pb, hpb⟩ : ∃ pb, w.heap.size + 1 = pb := ⟨_, rfl⟩
  rw [hxb, hpb, hmb] at HBld
  rw [hxb, hpb, hmb]
  have HXB : Hid (w.heap.size ≤ xb) := by show w.heap.size ≤ xb; omega
  have HPB : Hid (w.heap.size ≤ pb) := by show w.heap.size ≤ pb; omega
  clear hxb hpb hmb g9 hst
  go_loopw [64] (fun _ wr => ∃ k, k ≤ T.K ∧ Hid (Bel T.db w wr) ∧ Hid (Build wr T.db mb xb pb k (keysF T.fs fbs ubs k))) (fun _ wr => T.K - cellNat wr ⟨xb, 1, none⟩)
  case atStart => exact ⟨0, Nat.zero_le _, HBel, HBld⟩
  case round =>
    clear HBel HBld
    obtain ⟨k, hk, hbel, hbld⟩ := hrel
    have x0 := hbld.out.x0
    have x1 := hbld.out.x1
    have HR := hide (H.out.bel hbel.out HO.out)
    have HTR := hide (HT.out.bel hbel.out h1 h2)
    by_cases hlt : k < T.K
    · have g0 := HR.out.f0 k hlt
      have g1 := HR.out.f1 k hlt
      have HBR := hide (hbld.out.below (Below.refl _ _).drew)
      obtain ⟨kk, hkk⟩ : ∃ kk, keyAt T fbs ubs k = kk := ⟨_, rfl⟩
      have HKK := hide hkk
      have HSuc : Hid (keysF T.fs fbs ubs (k + 1) = keysF T.fs fbs ubs k ++ [kk]) := by show keysF T.fs fbs ubs (k + 1) = _; rw [keysF_succ, ← hkk]; rfl
      have HNot : Hid (kk ∉ keysF T.fs fbs ubs k) := by
        intro hmem
        have hnd := HND.out
        obtain ⟨i, hi, e⟩ := List.getElem_of_mem hmem
        have hik : i < k := by rwa [keysF_len] at hi
        rw [keysF_get] at e
        have := (List.nodup_iff_pairwise_ne.1 hnd)
        rw [List.pairwise_iff_getElem] at this
        refine this i k (by rw [keysF_len]; omega) (by rw [keysF_len]; exact hlt) hik ?_
        rw [keysF_get, keysF_get, e, ← hkk]; rfl
      have HKL : Hid (kk.length ≤ maxLen) := by
        show kk.length ≤ maxLen
        rw [← hkk, keyAt_len HT.out HF.out k hlt]
        have e1 := HF.out k hlt
        have e2 := HT.out.hflc
        have e3 := HT.out.hfc
        have e4 := HT.out.hulc
        have e5 := HT.out.huc
        unfold maxLen; omega
      clear hkk
      go_wp2
      go_region_law (first
        | (refine step_call rfl 27 #[.pointer (some ⟨T.db, 0, none⟩), .agg #[.int .u32 (T.fs k).1, .int .u32 (T.fs k).2.1]] (by go_simp) ?_; refine (bytesOf27 T.db _ _ T.fl T.fc T.ul T.uc T.fa T.ua fbs ubs wr.drew HR.out.hdb HR.out.d10 HR.out.d11 (HTR.out.below (Below.refl _ _).drew) (HF.out k hlt)).mono ?_; rintro e w5 ⟨a', c', rfl, hb5, hs5, hn5⟩; have hcv := conv_str w5 a' _ c' kk (by rw [← HKK.out]; exact keyAt_len HT.out HF.out k hlt) hn5 (by rw [← HKK.out]; exact hs5); have HB6 := hide (HBR.out.below hb5); have y0 := HB6.out.x0; have y1 := HB6.out.x1; obtain ⟨w6, hst, hmp, hg⟩ := HB6.out.mp.store kk HKL.out HNot.out (by omega); rw [keysF_len] at hst; have HG6 := hide hg; have HMP := hide hmp; have HB5 := hide hb5; clear hb5 hs5 hn5 hmp hg; refine ⟨_, rfl, ?_⟩))
      all_goals
        have z1 : w6.cell? ⟨xb, 1, none⟩ = some (.int .i64 k) := HG6.out.cell HB6.out.x1 (by simp [HB6.out.n3])
        have zf : w6.frozen? ⟨xb, 1, none⟩ = false := by rw [World.frozen?_of_block (HG6.out.block xb (World.block_lt_of_cell? _ _ HB6.out.x1) (by simp [HB6.out.n3]))]; exact HB6.out.fz
        go_wp2
        go_roundw
        case rel =>
          refine ⟨k + 1, by omega, ?_, ?_⟩
          · have e1 : Bel T.db w w5 := hbel.out.trans ((Bel.of_below (Below.refl _ _).drew HR.out.hdb).trans (Bel.of_below HB5.out HR.out.hdb))
            exact (e1.grown HG6.out HPB.out hdb).grown ⟨rfl, rfl, rfl, by simp, fun j _ hj => Below.heap_setCell _ _ _ _ (fun e => hj (by simp [e]))⟩ HXB.out hdb
          · rw [HSuc.out]
            exact HB6.out.step HG6.out HMP.out
        case measure =>
          have e1 : cellNat wr ⟨xb, 1, none⟩ = k := by unfold cellNat; rw [x1]; simp
          have e2 : cellNat (w6.setCell ⟨xb, 1, none⟩ (.int .i64 ((k : Int) + 1))) ⟨xb, 1, none⟩ = k + 1 := by unfold cellNat; rw [World.cell?_setCell_same _ _ _ z1]; simp
          rw [e1, e2]; omega
    · obtain rfl : k = T.K := by omega
      have hlp : ∀ q, (Instr.lookup 73 (.map (some pb)) (.string ⟨key.toArray⟩) true).run Try.prog (wr.drewN q) = .ok (.tuple #[.int .i64 (posOr (keysF T.fs fbs ubs T.K) key : Nat), .bool ((keysF T.fs fbs ubs T.K).contains key)]) (wr.drewN q) :=
        fun q => (hbld.out.mp.kept (grown_of_below (below_drewN (Below.refl _ wr) q)) (by simp)).look key (by rw [HL.out]; exact hm)
      have hcv : ∀ q, (convert 22 9 (.slice a l c)).run Try.prog (wr.drewN q) = .ok (.string ⟨key.toArray⟩) (wr.drewN q) := fun q => conv_str _ a l c key HL.out HN.out ((SC.bel HS.out hbel.out hoa).below (below_drewN (Below.refl _ wr) q))
      have HE : Hid (∀ q, Bel T.db w (wr.drewN q) ∧ Idx (wr.drewN q) T (keysF T.fs fbs ubs T.K)) := fun q =>
        ⟨hbel.out.trans (Bel.of_below (below_drewN (Below.refl _ wr) q) HR.out.hdb), Idx.below (w := wr) ⟨mb, xb, pb, _, hbld.out.d9, hbld.out.mx, hbld.out.x0, hbld.out.x1, hbld.out.mp⟩ (below_drewN (Below.refl _ wr) q)⟩
      have hpos : posOr (keysF T.fs fbs ubs T.K) key = (keysF T.fs fbs ubs T.K).idxOf key ∨ (keysF T.fs fbs ubs T.K).contains key = false := by
        unfold posOr; cases (keysF T.fs fbs ubs T.K).contains key <;> simp
      have hb : (keysF T.fs fbs ubs T.K).contains key = true → (keysF T.fs fbs ubs T.K).idxOf key < T.K := fun hc => by
        have := List.idxOf_lt_length_of_mem (l := keysF T.fs fbs ubs T.K) (a := key) (by simpa using hc)
        rwa [keysF_len] at this
      clear hbld hbel
      generalize posOr (keysF T.fs fbs ubs T.K) key = ci at *
      cases hcc : (keysF T.fs fbs ubs T.K).contains key
      · rw [hcc] at hlp
        have HCC := hide hcc
        clear hpos hb hcc
        go_wp2_with fail
        go_quiet (fail)
        go_wp2
        go_ret
        exact ⟨by rw [ptr_list, HCC.out]; rfl, HE.out _⟩
      · rw [hcc] at hlp
        have hbb := hb hcc
        have hci : ci = (keysF T.fs fbs ubs T.K).idxOf key := by rcases hpos with h | h; exact h; rw [hcc] at h; cases h
        rw [← hci] at hbb
        have HCC := hide hcc
        have HCI := hide hci
        clear hpos hb hcc hci
        go_wp2_with fail
        go_quiet (fail)
        go_wp2
        go_ret
        exact ⟨by rw [ptr_list, HCC.out, ← HCI.out]; rfl, HE.out _⟩
end Go.Proofs.Qxb6605987a
