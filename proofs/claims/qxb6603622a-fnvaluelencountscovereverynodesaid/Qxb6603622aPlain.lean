/-
  THE PLAIN LAW OF THIS SEAT: no Go in sight. Nodes 0 .. n-1, their kinds K, their nexts X. 'hop c a': c steps along X from a.
-/
namespace Go.Proofs.Qxb6603622a.Plain

/-- c steps along X from a. -/
def hop (X : Nat → Nat) : Nat → Nat → Nat
  | 0, a => a
  | c + 1, a => hop X c (X a)

theorem hop_last (X : Nat → Nat) : ∀ c a, hop X (c + 1) a = X (hop X c a)
  | 0, _ => rfl
  | c + 1, a => by
    show hop X (c + 1) (X a) = X (hop X c (X a))
    exact hop_last X c (X a)

/-- One node as the shape asks it. -/
def Node (n : Nat) (K X : Nat → Nat) (j : Nat) : Prop := j < X j ∧ X j ≤ n ∧ 1 ≤ K j ∧ K j ≤ 6 ∧ (K j ≠ 5 → K j ≠ 6 → X j = j + 1)

/-- Container s with c children counted, the next child expected at p. -/
def Open (K X : Nat → Nat) (s c p : Nat) : Prop := hop X c (s + 1) = p ∧ (∀ d, d < c → hop X d (s + 1) < p) ∧ (K s = 6 → ∀ d, d < c → d % 2 = 0 → K (hop X d (s + 1)) = 4)

/-- Node s is whole: c children lead to its next; an object's are even in number, the names strings. -/
def Done (K X : Nat → Nat) (s c : Nat) : Prop := Open K X s c (X s) ∧ (K s = 6 → c % 2 = 0)

/-- The open containers, the innermost first, p the next place. -/
def Chain (n : Nat) (K X : Nat → Nat) (ch : Nat → Nat) : List Nat → Nat → Prop
  | [], _ => True
  | s :: rest, p => Open K X s (ch s) p ∧ p ≤ X s ∧ X s ≤ n ∧ s < p ∧ (∀ r ∈ rest, r < s) ∧ Chain n K X ch rest (X s)

/-- What holds ahead of round i. -/
structure Inv (n : Nat) (K X : Nat → Nat) (i : Nat) (st : List Nat) (ch : Nat → Nat) : Prop where
  nodes : ∀ j, j < i → Node n K X j
  chain : Chain n K X ch st i
  low : ∀ s ∈ st, s < i
  fin : ∀ j, j < i → j ∈ st ∨ ∃ c, Done K X j c
  zero : ∀ j, i ≤ j → ch j = 0
  small : ∀ j, ch j ≤ i
  len : st.length ≤ i

/-- THE SHAPE: what is known when every node has been met and every container closed. -/
structure Shape (n : Nat) (K X : Nat → Nat) : Prop where
  pos : 0 < n
  root : X 0 = n
  nodes : ∀ j, j < n → Node n K X j
  done : ∀ j, j < n → ∃ c, Done K X j c

theorem Chain.congr {n : Nat} {K X ch ch' : Nat → Nat} : ∀ {st : List Nat} {p : Nat}, (∀ s ∈ st, ch' s = ch s) → Chain n K X ch st p → Chain n K X ch' st p
  | [], _, _, _ => trivial
  | s :: rest, p, h, ⟨h1, h2, h3, h4, h5, h6⟩ => ⟨by rw [h s (by simp)]; exact h1, h2, h3, h4, h5, Chain.congr (fun r hr => h r (by simp [hr])) h6⟩

theorem Inv.start (n : Nat) (K X : Nat → Nat) : Inv n K X 0 [] (fun _ => 0) :=
  ⟨fun j h => by omega, trivial, fun s h => by simp at h, fun j h => by omega, fun _ _ => rfl, fun _ => Nat.le_refl _, Nat.le_refl _⟩

/-- A pop: the innermost container's next has been reached. -/
theorem Inv.pop {n : Nat} {K X ch : Nat → Nat} {i s : Nat} {rest : List Nat} (h : Inv n K X i (s :: rest) ch) (hx : X s ≤ i) (hev : K s = 6 → ch s % 2 = 0) : Inv n K X i rest ch := by
  obtain ⟨h1, h2, h3, h4, h5, h6⟩ := h.chain
  have e : X s = i := by omega
  refine ⟨h.nodes, by rw [← e]; exact h6, fun r hr => h.low r (by simp [hr]), fun j hj => ?_, h.zero, h.small, by have := h.len; simp at this; omega⟩
  rcases h.fin j hj with hm | hd
  · rcases List.mem_cons.1 hm with rfl | hm
    · exact .inr ⟨ch j, by rw [← e] at h1; exact h1, hev⟩
    · exact .inl hm
  · exact .inr hd

theorem Inv.top_lt {n : Nat} {K X ch : Nat → Nat} {i s : Nat} {rest : List Nat} (h : Inv n K X i (s :: rest) ch) : s < i := h.low s (by simp)

/-- What a step does to the children's counts: one more at s. -/
def bump (ch : Nat → Nat) (s : Nat) : Nat → Nat := fun j => if j = s then ch j + 1 else ch j

theorem node_old {n : Nat} {K X : Nat → Nat} {i : Nat} (h : ∀ j, j < i → Node n K X j) (hn : Node n K X i) : ∀ j, j < i + 1 → Node n K X j := fun j hj => by
  rcases Nat.lt_succ_iff_lt_or_eq.1 hj with h' | rfl
  · exact h j h'
  · exact hn

/-- The chain behind a child's arrival at i under the innermost container s. -/
theorem chain_child {n : Nat} {K X ch : Nat → Nat} {i s : Nat} {rest : List Nat} (h : Inv n K X i (s :: rest) ch) (hle : X i ≤ X s) (hn : Node n K X i)
    (hst : K s = 6 → ch s % 2 = 0 → K i = 4) : Chain n K X (bump ch s) (s :: rest) (X i) := by
  obtain ⟨h1, h2, h3, h4, h5, h6⟩ := h.chain
  have hs := h.top_lt
  have hb : bump ch s s = ch s + 1 := by simp [bump]
  refine ⟨?_, hle, h3, by have := hn.1; omega, h5, Chain.congr (fun r hr => by have := h5 r hr; simp [bump]; omega) h6⟩
  rw [hb]
  have hni := hn.1
  refine ⟨by rw [hop_last, h1.1], fun d hd => ?_, fun hk d hd hev => ?_⟩
  · rcases Nat.lt_succ_iff_lt_or_eq.1 hd with h' | rfl
    · have := h1.2.1 d h'; omega
    · rw [h1.1]; exact hni
  · rcases Nat.lt_succ_iff_lt_or_eq.1 hd with h' | rfl
    · exact h1.2.2 hk d h' hev
    · rw [h1.1]; exact hst hk hev

theorem done_leaf {n : Nat} {K X : Nat → Nat} {i : Nat} (hn : Node n K X i) (h5 : K i ≠ 5) (h6 : K i ≠ 6) : Done K X i 0 :=
  ⟨⟨(hn.2.2.2.2 h5 h6).symm, fun d hd => by omega, fun h => absurd h h6⟩, fun h => absurd h h6⟩

/-- A leaf under s. -/
theorem Inv.leaf {n : Nat} {K X ch : Nat → Nat} {i s : Nat} {rest : List Nat} (h : Inv n K X i (s :: rest) ch) (hle : X i ≤ X s) (hn : Node n K X i)
    (hst : K s = 6 → ch s % 2 = 0 → K i = 4) (h5 : K i ≠ 5) (h6 : K i ≠ 6) : Inv n K X (i + 1) (s :: rest) (bump ch s) := by
  have hc := chain_child h hle hn hst
  have hs := h.top_lt
  have hx := hn.2.2.2.2 h5 h6
  refine ⟨node_old h.nodes hn, by rw [← hx]; exact hc, fun r hr => by have := h.low r hr; omega, fun j hj => ?_, fun j hj => ?_, fun j => ?_, by have := h.len; omega⟩
  · rcases Nat.lt_succ_iff_lt_or_eq.1 hj with h' | rfl
    · exact h.fin j h'
    · exact .inr ⟨0, done_leaf hn h5 h6⟩
  · have := h.zero j (by omega); simp only [bump]; split <;> omega
  · have := h.small j; simp only [bump]; split <;> omega

/-- A container under s. -/
theorem Inv.push {n : Nat} {K X ch : Nat → Nat} {i s : Nat} {rest : List Nat} (h : Inv n K X i (s :: rest) ch) (hle : X i ≤ X s) (hn : Node n K X i)
    (hst : K s = 6 → ch s % 2 = 0 → K i = 4) : Inv n K X (i + 1) (i :: s :: rest) (bump ch s) := by
  have hc := chain_child h hle hn hst
  have hs := h.top_lt
  have hz : bump ch s i = 0 := by have := h.zero i (Nat.le_refl _); simp only [bump]; split <;> omega
  refine ⟨node_old h.nodes hn, ⟨by rw [hz]; exact ⟨rfl, fun d hd => by omega, fun _ d hd => by omega⟩, hn.1, hn.2.1, by omega, fun r hr => h.low r hr, hc⟩, fun r hr => ?_, fun j hj => ?_, fun j hj => ?_, fun j => ?_, by have := h.len; simp at this ⊢; omega⟩
  · rcases List.mem_cons.1 hr with rfl | hr
    · omega
    · have := h.low r hr; omega
  · rcases Nat.lt_succ_iff_lt_or_eq.1 hj with h' | rfl
    · rcases h.fin j h' with hm | hd
      · exact .inl (by simp at hm ⊢; exact .inr hm)
      · exact .inr hd
    · exact .inl (by simp)
  · have := h.zero j (by omega); simp only [bump]; split <;> omega
  · have := h.small j; simp only [bump]; split <;> omega

/-- The root, a leaf. -/
theorem Inv.root_leaf {n : Nat} {K X ch : Nat → Nat} (h : Inv n K X 0 [] ch) (hn : Node n K X 0) (h5 : K 0 ≠ 5) (h6 : K 0 ≠ 6) : Inv n K X 1 [] ch := by
  refine ⟨node_old h.nodes hn, trivial, fun s h => by simp at h, fun j hj => ?_, fun j hj => h.zero j (by omega), fun j => by have := h.small j; omega, by simp⟩
  obtain rfl : j = 0 := by omega
  exact .inr ⟨0, done_leaf hn h5 h6⟩

/-- The root, a container. -/
theorem Inv.root_push {n : Nat} {K X ch : Nat → Nat} (h : Inv n K X 0 [] ch) (hn : Node n K X 0) : Inv n K X 1 [0] ch := by
  refine ⟨node_old h.nodes hn, ⟨by rw [h.zero 0 (Nat.le_refl _)]; exact ⟨rfl, fun d hd => by omega, fun _ d hd => by omega⟩, hn.1, hn.2.1, by omega, fun r hr => by simp at hr, trivial⟩, fun s h => by simp at h; omega, fun j hj => ?_, fun j hj => h.zero j (by omega), fun j => by have := h.small j; omega, by simp⟩
  obtain rfl : j = 0 := by omega
  exact .inl (by simp)

/-- At the end every container's next is n. -/
theorem Inv.last {n : Nat} {K X ch : Nat → Nat} {s : Nat} {rest : List Nat} (h : Inv n K X n (s :: rest) ch) : X s ≤ n := h.chain.2.2.1

theorem Inv.shape {n : Nat} {K X ch : Nat → Nat} (h : Inv n K X n [] ch) (hp : 0 < n) (hr : X 0 = n) : Shape n K X :=
  ⟨hp, hr, h.nodes, fun j hj => by
    rcases h.fin j hj with hm | hd
    · simp at hm
    · exact hd⟩

/-! ### The sum -/

/-- The sum of C over a .. a + m - 1. -/
def sumC (C : Nat → Nat) (a : Nat) : Nat → Nat
  | 0 => 0
  | m + 1 => sumC C a m + C (a + m)

theorem sumC_add (C : Nat → Nat) (a m : Nat) : ∀ k, sumC C a (m + k) = sumC C a m + sumC C (a + m) k
  | 0 => rfl
  | k + 1 => by
    show sumC C a (m + k) + C (a + (m + k)) = sumC C a m + (sumC C (a + m) k + C (a + m + k))
    rw [sumC_add C a m k, Nat.add_assoc a m k]
    omega

theorem sumC_head (C : Nat → Nat) (a m : Nat) : sumC C a (m + 1) = C a + sumC C (a + 1) m := by
  rw [Nat.add_comm m 1, sumC_add C a 1 m]
  simp [sumC]

/-- A forest from a to b with c roots: its nodes' children counts come to b - a - c. -/
theorem forest {n : Nat} {K X : Nat → Nat} (hN : ∀ j, j < n → Node n K X j) (C : Nat → Nat) (hC : ∀ j, j < n → hop X (C j) (j + 1) = X j ∧ ∀ d, d < C j → hop X d (j + 1) < X j) :
    ∀ (m a c : Nat), a + m ≤ n → hop X c a = a + m → (∀ d, d < c → hop X d a < a + m) → sumC C a m + c = m := by
  intro m
  induction m using Nat.strongRecOn with
  | ind m ih =>
    intro a c hle hh hlt
    cases c with
    | zero =>
      have : a = a + m := hh
      obtain rfl : m = 0 := by omega
      rfl
    | succ c =>
      have h0 : a < a + m := hlt 0 (by omega)
      have hn := hN a (by omega)
      have hx1 : a < X a := hn.1
      have hxle : X a ≤ a + m := by
        rcases Nat.eq_zero_or_pos c with rfl | hc
        · have : X a = a + m := hh
          omega
        · have := hlt 1 (by omega)
          have e : hop X 1 a = X a := rfl
          omega
      obtain ⟨k, hk⟩ : ∃ k, X a = a + 1 + k := ⟨X a - a - 1, by omega⟩
      obtain ⟨r, hr⟩ : ∃ r, a + m = X a + r := ⟨a + m - X a, by omega⟩
      have em : m = (1 + k) + r := by omega
      -- the first tree's inside
      have hin : ∀ d, d < C a → hop X d (a + 1) < a + 1 + k := fun d hd => by rw [← hk]; exact (hC a (by omega)).2 d hd
      have i1 := ih k (by omega) (a + 1) (C a) (by omega) (by rw [(hC a (by omega)).1]; exact hk) hin
      have i2 := ih r (by omega) (X a) c (by omega) (by rw [← hr, ← hh]; rfl) (fun d hd => by
        have := hlt (d + 1) (by omega)
        rw [← hr]
        exact this)
      rw [em, sumC_add, Nat.add_comm 1 k, sumC_head]
      have ea : a + (k + 1) = X a := by omega
      rw [ea]
      omega

/-- **THE PLAIN LAW**: the children counts of all nodes come to n - 1. -/
theorem total {n : Nat} {K X : Nat → Nat} (S : Shape n K X) (C : Nat → Nat) (hC : ∀ j, j < n → Done K X j (C j)) : sumC C 0 n + 1 = n := by
  have hp := S.pos
  refine forest S.nodes C (fun j hj => ⟨(hC j hj).1.1, (hC j hj).1.2.1⟩) n 0 1 (by omega) (by rw [Nat.zero_add]; exact S.root) (fun d hd => ?_)
  obtain rfl : d = 0 := by omega
  show 0 < 0 + n
  omega

end Go.Proofs.Qxb6603622a.Plain
