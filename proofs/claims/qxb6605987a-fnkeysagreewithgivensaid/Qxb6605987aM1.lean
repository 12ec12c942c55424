/- Plain lists: the bottom-up merge sort. No Go in sight. -/
namespace Go.Proofs.Qxb6605987a.Plain
set_option linter.unusedVariables false
set_option linter.unusedSimpArgs false

/-- The order. -/
def le (x y : List UInt8) : Bool := decide (x ≤ y)

theorem le_trans (a b c : List UInt8) (h1 : le a b = true) (h2 : le b c = true) : le a c = true := by
  unfold le at *
  simp only [decide_eq_true_eq] at *
  exact List.le_trans h1 h2
theorem le_total (a b : List UInt8) : (le a b || le b a) = true := by
  unfold le
  simp only [Bool.or_eq_true, decide_eq_true_eq]
  exact List.le_total a b
theorem le_antisymm (a b : List UInt8) (h1 : le a b = true) (h2 : le b a = true) : a = b := by
  unfold le at *
  simp only [decide_eq_true_eq] at *
  exact List.le_antisymm h1 h2

def Srt (l : List (List UInt8)) : Prop := List.Pairwise (fun a b => le a b = true) l

/-- The cells i .. j. -/
def seg {α : Type} (l : List α) (i j : Nat) : List α := (l.take j).drop i

theorem seg_nil {α : Type} (l : List α) (i : Nat) : seg l i i = [] := by
  unfold seg; apply List.drop_eq_nil_of_le; simp; omega

theorem seg_cons {α : Type} (l : List α) (i j : Nat) (h : i < j) (hj : j ≤ l.length) : seg l i j = l[i] :: seg l (i + 1) j := by
  unfold seg
  rw [List.drop_eq_getElem_cons (by simp; omega)]
  simp

/-- One pass: runs of width w are merged by twos. -/
def mpass (w : Nat) : Nat → List (List UInt8) → List (List UInt8)
  | 0, _ => []
  | f + 1, l => if l.isEmpty then [] else List.merge (l.take w) ((l.drop w).take w) le ++ mpass w f (l.drop (2 * w))

theorem mpass_fuel (w : Nat) (hw : 1 ≤ w) : ∀ (f f' : Nat) (l : List (List UInt8)), l.length ≤ f → l.length ≤ f' → mpass w f l = mpass w f' l
  | 0, 0, l, _, _ => rfl
  | 0, f' + 1, l, h, _ => by
    have : l = [] := List.eq_nil_of_length_eq_zero (by omega)
    subst this; simp [mpass]
  | f + 1, 0, l, _, h => by
    have : l = [] := List.eq_nil_of_length_eq_zero (by omega)
    subst this; simp [mpass]
  | f + 1, f' + 1, l, h, h' => by
    unfold mpass
    by_cases he : l.isEmpty = true
    · rw [if_pos he, if_pos he]
    · rw [if_neg he, if_neg he]
      have hl : 0 < l.length := by
        cases l with
        | nil => simp at he
        | cons a t => simp
      rw [mpass_fuel w hw f f' (l.drop (2 * w)) (by simp; omega) (by simp; omega)]

/-- A block is opened. -/
theorem mpass_open (w n : Nat) (hw : 1 ≤ w) (l : List (List UInt8)) (hl : l.length ≤ n) (h0 : 0 < l.length) :
    mpass w n l = List.merge (l.take w) ((l.drop w).take w) le ++ mpass w n (l.drop (2 * w)) := by
  cases n with
  | zero => omega
  | succ f =>
    rw [mpass_fuel w hw (f + 1) (f + 1) (l.drop (2 * w)) (by simp; omega) (by simp; omega), mpass_fuel w hw (f + 1) f (l.drop (2 * w)) (by simp; omega) (by simp; omega)]
    conv => lhs; unfold mpass
    rw [if_neg (by cases l <;> simp at *)]

theorem mpass_nil (w n : Nat) : mpass w n [] = [] := by cases n <;> simp [mpass]

theorem mpass_len (w : Nat) (hw : 1 ≤ w) : ∀ (f : Nat) (l : List (List UInt8)), l.length ≤ f → (mpass w f l).length = l.length
  | 0, l, h => by
    have : l = [] := List.eq_nil_of_length_eq_zero (by omega)
    subst this; rfl
  | f + 1, l, h => by
    unfold mpass
    by_cases he : l.isEmpty = true
    · rw [if_pos he]; cases l <;> simp at *
    · rw [if_neg he]
      have hl : 0 < l.length := by
        cases l with
        | nil => simp at he
        | cons a t => simp
      rw [List.length_append, List.length_merge, mpass_len w hw f (l.drop (2 * w)) (by simp; omega)]
      simp; omega

theorem mpass_perm (w : Nat) (hw : 1 ≤ w) : ∀ (f : Nat) (l : List (List UInt8)), l.length ≤ f → (mpass w f l).Perm l
  | 0, l, h => by
    have : l = [] := List.eq_nil_of_length_eq_zero (by omega)
    subst this; exact List.Perm.refl _
  | f + 1, l, h => by
    unfold mpass
    by_cases he : l.isEmpty = true
    · rw [if_pos he]; cases l <;> simp at *
    · rw [if_neg he]
      have hl : 0 < l.length := by
        cases l with
        | nil => simp at he
        | cons a t => simp
      have ih := mpass_perm w hw f (l.drop (2 * w)) (by simp; omega)
      have e : l.take w ++ ((l.drop w).take w ++ l.drop (2 * w)) = l := by
        have e1 : l.drop (2 * w) = (l.drop w).drop w := by rw [List.drop_drop]; congr 1; omega
        rw [e1, List.take_append_drop, List.take_append_drop]
      refine List.Perm.trans ((List.merge_perm_append le).append ih) ?_
      rw [List.append_assoc, e]

/-- The runs of width w are sorted. -/
def runs (w : Nat) (l : List (List UInt8)) : Prop := ∀ q, Srt ((l.drop (q * w)).take w)

theorem runs_one (l : List (List UInt8)) : runs 1 l := by
  intro q
  unfold Srt
  cases h : l.drop (q * 1) with
  | nil => simp
  | cons a t => simp

theorem mpass_take (w n : Nat) (hw : 1 ≤ w) (l : List (List UInt8)) (hl : l.length ≤ n) : (mpass w n l).take (2 * w) = List.merge (l.take w) ((l.drop w).take w) le := by
  rcases Nat.eq_zero_or_pos l.length with h0 | h0
  · have : l = [] := List.eq_nil_of_length_eq_zero h0
    subst this; rw [mpass_nil]; simp [List.nil_merge]
  · rw [mpass_open w n hw l hl h0]
    by_cases h : 2 * w ≤ l.length
    · rw [List.take_append_of_le_length (by rw [List.length_merge]; simp; omega)]
      apply List.take_of_length_le
      rw [List.length_merge]; simp; omega
    · have e : l.drop (2 * w) = [] := List.drop_eq_nil_of_le (by omega)
      rw [e, mpass_nil, List.append_nil]
      apply List.take_of_length_le
      rw [List.length_merge]; simp; omega

theorem mpass_drop (w n : Nat) (hw : 1 ≤ w) (l : List (List UInt8)) (hl : l.length ≤ n) : (mpass w n l).drop (2 * w) = mpass w n (l.drop (2 * w)) := by
  rcases Nat.eq_zero_or_pos l.length with h0 | h0
  · have : l = [] := List.eq_nil_of_length_eq_zero h0
    subst this; rw [mpass_nil]; simp [mpass_nil]
  · conv => lhs; rw [mpass_open w n hw l hl h0]
    by_cases h : 2 * w ≤ l.length
    · rw [List.drop_append_of_le_length (by rw [List.length_merge]; simp; omega), List.drop_eq_nil_of_le (by rw [List.length_merge]; simp; omega), List.nil_append]
    · have e : l.drop (2 * w) = [] := List.drop_eq_nil_of_le (by omega)
      rw [e, mpass_nil, List.append_nil]
      apply List.drop_eq_nil_of_le
      rw [List.length_merge]; simp; omega

theorem mpass_drop_q (w n : Nat) (hw : 1 ≤ w) : ∀ (q : Nat) (l : List (List UInt8)), l.length ≤ n → (mpass w n l).drop (q * (2 * w)) = mpass w n (l.drop (q * (2 * w)))
  | 0, l, hl => by simp
  | q + 1, l, hl => by
    have e : (q + 1) * (2 * w) = 2 * w + q * (2 * w) := by rw [Nat.add_mul]; omega
    rw [e, ← List.drop_drop, mpass_drop w n hw l hl, mpass_drop_q w n hw q (l.drop (2 * w)) (by simp; omega), List.drop_drop]

theorem runs_double (w n : Nat) (hw : 1 ≤ w) (l : List (List UInt8)) (hl : l.length ≤ n) (h : runs w l) : runs (2 * w) (mpass w n l) := by
  intro q
  rw [mpass_drop_q w n hw q l hl, mpass_take w n hw _ (by simp; omega)]
  refine List.pairwise_merge le_trans le_total _ _ ?_ ?_
  · have := h (2 * q)
    rw [show 2 * q * w = q * (2 * w) by rw [Nat.mul_comm 2 q, Nat.mul_assoc]] at this
    exact this
  · have := h (2 * q + 1)
    rw [show (2 * q + 1) * w = q * (2 * w) + w by rw [Nat.add_mul, Nat.mul_comm 2 q, Nat.mul_assoc]; omega, ← List.drop_drop] at this
    exact this

/-- At the end: it is the sorted list. -/
theorem runs_end (w : Nat) (l a : List (List UInt8)) (hl : l.length ≤ w) (h : runs w l) (hp : l.Perm a) : l = a.mergeSort le := by
  have hs : Srt l := by
    have := h 0
    simpa [List.take_of_length_le hl] using this
  refine List.Perm.eq_of_pairwise (le := fun a b => le a b = true) (fun a b _ _ => le_antisymm a b) hs (List.pairwise_mergeSort le_trans le_total a) (hp.trans (List.mergeSort_perm a le).symm)

/-! ### The inner loop: 'Dp' is what has been laid so far -/

/-- Where the merge stands: what is laid, and what is still to come. -/
def At (w n : Nat) (S Dp : List (List UInt8)) (i mid j hi : Nat) : Prop :=
  Dp ++ (List.merge (seg S i mid) (seg S j hi) le ++ mpass w n (S.drop hi)) = mpass w n S

theorem at_start (w n lo : Nat) (hw : 1 ≤ w) (S Dp : List (List UInt8)) (hS : S.length = n) (hlo : lo < n) (h : Dp ++ mpass w n (S.drop lo) = mpass w n S) :
    At w n S Dp lo (min (lo + w) n) (min (lo + w) n) (min (lo + 2 * w) n) := by
  unfold At
  rw [← h, mpass_open w n hw (S.drop lo) (by simp; omega) (by simp; omega)]
  have e1 : seg S lo (min (lo + w) n) = (S.drop lo).take w := by
    unfold seg
    rw [List.drop_take]
    by_cases hc : lo + w ≤ n
    · rw [Nat.min_eq_left hc]; congr 1; omega
    · rw [Nat.min_eq_right (by omega), List.take_of_length_le (by simp; omega), List.take_of_length_le (by simp; omega)]
  have e2 : seg S (min (lo + w) n) (min (lo + 2 * w) n) = ((S.drop lo).drop w).take w := by
    unfold seg
    rw [List.drop_take, List.drop_drop]
    by_cases hc : lo + w ≤ n
    · rw [Nat.min_eq_left hc]
      by_cases hd : lo + 2 * w ≤ n
      · rw [Nat.min_eq_left hd]; congr 1; omega
      · rw [Nat.min_eq_right (by omega), List.take_of_length_le (by simp; omega), List.take_of_length_le (by simp; omega)]
    · rw [Nat.min_eq_right (by omega), Nat.min_eq_right (by omega), List.drop_eq_nil_of_le (by omega), List.drop_eq_nil_of_le (by omega)]; simp
  have e3 : S.drop (min (lo + 2 * w) n) = (S.drop lo).drop (2 * w) := by
    rw [List.drop_drop]
    by_cases hd : lo + 2 * w ≤ n
    · rw [Nat.min_eq_left hd]
    · rw [Nat.min_eq_right (by omega), List.drop_eq_nil_of_le (by omega), List.drop_eq_nil_of_le (by omega)]
  rw [e1, e2, e3]

theorem at_end (w n lo : Nat) (S Dp : List (List UInt8)) (hS : S.length = n) (mid hi : Nat) (hhi : hi = min (lo + 2 * w) n) (h : At w n S Dp mid mid hi hi) :
    Dp ++ mpass w n (S.drop (lo + 2 * w)) = mpass w n S := by
  unfold At at h
  rw [seg_nil, seg_nil, List.nil_merge, List.nil_append] at h
  rw [← h]
  by_cases hd : lo + 2 * w ≤ n
  · rw [hhi, Nat.min_eq_left hd]
  · rw [hhi, Nat.min_eq_right (by omega), List.drop_eq_nil_of_le (by omega), List.drop_eq_nil_of_le (by omega)]

/-- The left one goes. -/
theorem at_left (w n : Nat) (S Dp : List (List UInt8)) (i mid j hi : Nat) (hS : S.length = n) (hm : mid ≤ n) (hh : hi ≤ n) (hi' : i < mid) (hx : i < S.length)
    (hc : hi ≤ j ∨ ∃ hj : j < S.length, le S[i] S[j] = true) (hjh : j ≤ hi) (h : At w n S Dp i mid j hi) : At w n S (Dp ++ [S[i]]) (i + 1) mid j hi := by
  unfold At at *
  rw [← h, List.append_assoc]
  congr 1
  rw [seg_cons S i mid hi' (by omega)]
  by_cases hjl : j < hi
  · rw [seg_cons S j hi hjl (by omega)]
    rcases hc with hc | ⟨hj, hle⟩
    · omega
    · rw [List.cons_merge_cons, if_pos hle]; rfl
  · obtain rfl : j = hi := by omega
    rw [seg_nil, List.merge_right, List.merge_right]; rfl

/-- The right one goes. -/
theorem at_right (w n : Nat) (S Dp : List (List UInt8)) (i mid j hi : Nat) (hS : S.length = n) (hm : mid ≤ n) (hh : hi ≤ n) (hj' : j < hi) (hx : j < S.length)
    (him : i ≤ mid) (hc : i = mid ∨ ∃ hi' : i < S.length, le S[i] S[j] = false) (h : At w n S Dp i mid j hi) : At w n S (Dp ++ [S[j]]) i mid (j + 1) hi := by
  unfold At at *
  rw [← h, List.append_assoc]
  congr 1
  rw [seg_cons S j hi hj' (by omega)]
  by_cases hil : i < mid
  · rw [seg_cons S i mid hil (by omega)]
    rcases hc with hc | ⟨hi', hle⟩
    · omega
    · rw [List.cons_merge_cons, if_neg (by rw [hle]; simp)]; rfl
  · obtain rfl : i = mid := by omega
    rw [seg_nil, List.nil_merge, List.nil_merge]; rfl

theorem take_set_succ {α : Type} (D : List α) (k : Nat) (x : α) (h : k < D.length) : (D.set k x).take (k + 1) = D.take k ++ [x] := by
  rw [List.take_succ_eq_append_getElem (by simpa using h)]
  simp [List.take_set_of_le]

end Go.Proofs.Qxb6605987a.Plain
