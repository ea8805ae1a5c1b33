/-
  THE PLAIN LAW OF THIS SEAT: no Go in sight. Words compared one by one, the shorter first; a sorted row of such, searched by halves.
-/
namespace Go.Proofs.Qxb6603742a.Plain

/-- Word by word, then the shorter first: -1, 0 or 1. -/
def cmpL : List Int → List Int → Int
  | [], [] => 0
  | [], _ :: _ => -1
  | _ :: _, [] => 1
  | a :: l, b :: m => if a < b then -1 else if b < a then 1 else cmpL l m

theorem cmpL_range : ∀ a b, cmpL a b = -1 ∨ cmpL a b = 0 ∨ cmpL a b = 1
  | [], [] => .inr (.inl rfl)
  | [], _ :: _ => .inl rfl
  | _ :: _, [] => .inr (.inr rfl)
  | a :: l, b :: m => by
    unfold cmpL
    split
    · exact .inl rfl
    · split
      · exact .inr (.inr rfl)
      · exact cmpL_range l m

theorem cmpL_self : ∀ a, cmpL a a = 0
  | [] => rfl
  | a :: l => by unfold cmpL; rw [if_neg (by omega), if_neg (by omega)]; exact cmpL_self l

theorem cmpL_eq : ∀ a b, cmpL a b = 0 → a = b
  | [], [], _ => rfl
  | [], _ :: _, h => by simp [cmpL] at h
  | _ :: _, [], h => by simp [cmpL] at h
  | a :: l, b :: m, h => by
    unfold cmpL at h
    split at h
    · omega
    · split at h
      · omega
      · rw [cmpL_eq l m h, show a = b from by omega]

theorem cmpL_lt : ∀ a b c, cmpL a b ≤ 0 → cmpL b c < 0 → cmpL a c < 0
  | [], [], _, _, h => h
  | [], _ :: _, [], _, h => by simp [cmpL] at h
  | [], _ :: _, _ :: _, _, _ => by simp [cmpL]
  | _ :: _, [], _, h, _ => by simp [cmpL] at h
  | _ :: _, _ :: _, [], _, h => by simp [cmpL] at h
  | a :: l, b :: m, c :: n, h, h' => by
    unfold cmpL at h h' ⊢
    split at h
    · split at h'
      · rw [if_pos (by omega)]; omega
      · split at h'
        · omega
        · rw [if_pos (by omega)]; omega
    · split at h
      · omega
      · split at h'
        · rw [if_pos (by omega)]; omega
        · split at h'
          · omega
          · rw [if_neg (by omega), if_neg (by omega)]; exact cmpL_lt l m n h h'

theorem cmpL_le (a b c : List Int) (h : cmpL a b ≤ 0) (h' : cmpL b c ≤ 0) : cmpL a c ≤ 0 := by
  rcases cmpL_range b c with e | e | e
  · have := cmpL_lt a b c h (by omega); omega
  · rw [← cmpL_eq b c e]; exact h
  · omega

/-- Sorted, not strictly. -/
def Sorted (n : Nat) (N : Nat → List Int) : Prop := ∀ i, i + 1 < n → cmpL (N i) (N (i + 1)) ≤ 0

theorem Sorted.le {n : Nat} {N : Nat → List Int} (h : Sorted n N) : ∀ d i, i + d < n → cmpL (N i) (N (i + d)) ≤ 0
  | 0, i, _ => by rw [Nat.add_zero, cmpL_self]; omega
  | d + 1, i, hi => cmpL_le _ _ _ (Sorted.le h d i (by omega)) (h (i + d) (by omega))

theorem Sorted.le' {n : Nat} {N : Nat → List Int} (h : Sorted n N) {i j : Nat} (hij : i ≤ j) (hj : j < n) : cmpL (N i) (N j) ≤ 0 := by
  have := h.le (j - i) i (by omega)
  rwa [show i + (j - i) = j from by omega] at this

/-- lo and hi close in on the first node that is not below p. -/
structure Span (n : Nat) (N : Nat → List Int) (p : List Int) (lo hi : Nat) : Prop where
  le : lo ≤ hi
  top : hi ≤ n
  low : ∀ k, k < lo → cmpL (N k) p < 0
  high : ∀ k, hi ≤ k → k < n → ¬ cmpL (N k) p < 0

theorem Span.start (n : Nat) (N : Nat → List Int) (p : List Int) : Span n N p 0 n := ⟨Nat.zero_le _, Nat.le_refl _, fun k h => by omega, fun k h h' => by omega⟩

theorem Span.up {n : Nat} {N : Nat → List Int} {p : List Int} {lo hi m : Nat} (h : Span n N p lo hi) (hs : Sorted n N) (hm : m < hi) (hc : cmpL (N m) p < 0) : Span n N p (m + 1) hi :=
  ⟨hm, h.top, fun k hk => cmpL_lt _ _ _ (hs.le' (by omega) (Nat.lt_of_lt_of_le hm h.top)) hc, h.high⟩

theorem Span.down {n : Nat} {N : Nat → List Int} {p : List Int} {lo hi m : Nat} (h : Span n N p lo hi) (hs : Sorted n N) (hl : lo ≤ m) (hm : m < hi) (hc : ¬ cmpL (N m) p < 0) : Span n N p lo m :=
  ⟨hl, by have := h.top; omega, h.low, fun k hk hn hk' => hc (cmpL_lt _ _ _ (hs.le' hk hn) hk')⟩

/-- How many of the first k nodes lie below p. -/
def belowTo (N : Nat → List Int) (p : List Int) : Nat → Nat
  | 0 => 0
  | k + 1 => if cmpL (N k) p < 0 then belowTo N p k + 1 else belowTo N p k
/-- Whether one of the first k nodes is p. -/
def foundTo (N : Nat → List Int) (p : List Int) : Nat → Bool
  | 0 => false
  | k + 1 => if cmpL (N k) p = 0 then true else foundTo N p k

theorem belowTo_le (N : Nat → List Int) (p : List Int) : ∀ k, belowTo N p k ≤ k
  | 0 => Nat.le_refl _
  | k + 1 => by have := belowTo_le N p k; unfold belowTo; split <;> omega

theorem Span.below {n : Nat} {N : Nat → List Int} {p : List Int} {lo : Nat} (h : Span n N p lo lo) : ∀ k, k ≤ n → belowTo N p k = if k ≤ lo then k else lo
  | 0, _ => by simp [belowTo]
  | k + 1, hk => by
    unfold belowTo
    rw [Span.below h k (by omega)]
    by_cases c : k < lo
    · rw [if_pos (h.low k c), if_pos (by omega), if_pos (by omega)]
    · rw [if_neg (h.high k (by omega) (by omega)), if_neg (show ¬ k + 1 ≤ lo from by omega)]
      split <;> omega

theorem foundTo_iff (N : Nat → List Int) (p : List Int) : ∀ k, foundTo N p k = true ↔ ∃ i, i < k ∧ N i = p
  | 0 => by simp [foundTo]
  | k + 1 => by
    unfold foundTo
    split
    · next e => exact ⟨fun _ => ⟨k, by omega, cmpL_eq _ _ e⟩, fun _ => rfl⟩
    · next e =>
      rw [foundTo_iff N p k]
      constructor
      · rintro ⟨i, hi, h⟩; exact ⟨i, by omega, h⟩
      · rintro ⟨i, hi, h⟩
        refine ⟨i, ?_, h⟩
        rcases Nat.lt_succ_iff_lt_or_eq.1 hi with h' | rfl
        · exact h'
        · exact absurd (by rw [h]; exact cmpL_self p) e

/-- **THE PLAIN LAW**: what the search answers is what the count finds. -/
theorem Span.answer {n : Nat} {N : Nat → List Int} {p : List Int} {lo : Nat} (h : Span n N p lo lo) (hs : Sorted n N) : belowTo N p n = lo ∧ foundTo N p n = decide (lo < n ∧ N lo = p) := by
  refine ⟨?_, ?_⟩
  · rw [h.below n (Nat.le_refl _)]
    have := h.top
    split <;> omega
  · rw [Bool.eq_iff_iff, foundTo_iff, decide_eq_true_iff]
    constructor
    · rintro ⟨i, hi, e⟩
      have hil : lo ≤ i := by
        rcases Nat.lt_or_ge i lo with c | c
        · have := h.low i c
          rw [e, cmpL_self] at this
          omega
        · exact c
      refine ⟨by omega, cmpL_eq _ _ ?_⟩
      have h1 := hs.le' hil hi
      rw [e] at h1
      have h2 := h.high lo (Nat.le_refl _) (by omega)
      omega
    · rintro ⟨hl, e⟩
      exact ⟨lo, hl, e⟩

/-- One word further. -/
theorem cmpL_drop {L M : List Int} {k : Nat} (hL : k < L.length) (hM : k < M.length) :
    cmpL (L.drop k) (M.drop k) = if L.getD k 0 < M.getD k 0 then -1 else if M.getD k 0 < L.getD k 0 then 1 else cmpL (L.drop (k + 1)) (M.drop (k + 1)) := by
  rw [List.drop_eq_getElem_cons hL, List.drop_eq_getElem_cons hM]
  simp [cmpL, List.getD_eq_getElem?_getD, hL, hM]

theorem cmpL_end {L M : List Int} {k : Nat} (h : L.length ≤ k ∨ M.length ≤ k) (hL : k ≤ L.length) (hM : k ≤ M.length) :
    cmpL (L.drop k) (M.drop k) = if L.length < M.length then -1 else if M.length < L.length then 1 else 0 := by
  by_cases c1 : L.length = k
  · rw [List.drop_of_length_le (by omega)]
    by_cases c2 : M.length = k
    · rw [List.drop_of_length_le (by omega), if_neg (by omega), if_neg (by omega)]; rfl
    · rw [if_pos (by omega), List.drop_eq_getElem_cons (by omega)]; rfl
  · have c2 : M.length = k := by omega
    rw [List.drop_of_length_le (l := M) (by omega), if_neg (by omega), if_pos (by omega), List.drop_eq_getElem_cons (by omega)]; rfl

end Go.Proofs.Qxb6603742a.Plain
