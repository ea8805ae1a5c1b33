/-
  A proof of 'Rows.FnValueLenCountsCoverEveryNodeSaid'. The frame is the one that the kit's tool writes for this function; the walk is this seat's: Plain, Shape, Count, Len, Build, Law.
-/
import Derived.Test.Qxb6603622aRows
import Derived.WalkKit
import Derived.ProofKit
import Derived.OpenShut
import Derived.ShutString
import Derived.ChangeOld
import Derived.Below
import Derived.Test.Qxb6603622aLaw
namespace Go.Proofs.Qxb6603622a.fnValueLenCountsCoverEveryNode
open Go.ChangeShapes Go.WideShapes Go.ChangeAt Go.RowKit
open Go.ChangeMaps (open_string shut_string)
set_option linter.unusedVariables false

theorem own : ownKnob Try.prog.godebug = none := by kernel_rfl
theorem laidOut : laidOutB Try.prog = true := by kernel_rfl

/-- WHAT THE WALK IS TOLD OF A SLICE OF INTEGERS THAT CAME IN: it is nil; or it leads to a row of 'cap' cells, the numbers 'zs' (the first 'len' are its elements, the rest its spare room), each fitting its kind. -/
def IsRow (k : IntKind) (w : World) (a : Option Addr) (len cap : Nat) (zs : List Int) : Prop :=
  (a = none ∧ len = 0 ∧ cap = 0 ∧ zs = []) ∨
  ∃ x, a = some x ∧ len ≤ cap ∧ cap ≤ maxLen ∧ zs.length = cap ∧ (∀ i, i < zs.length → w.cell? (x.add i) = some (.int k (zs.getD i 0))) ∧ ∀ n ∈ zs, (Lit.int k n).wf = true

/-! ### STEP 1: THE WALK: the Go text returns true, AND WRITES NOTHING THAT WAS THERE: 'Below w.heap.size w w'' (Derived/Below.lean: '.refl', '.alloc', '.drew', '.setCell' at a new block, '.trans'). Open each 'IsRow' by 'rcases' AHEAD of 'go_enter'; part every test ahead of the walk. -/
theorem walk (a0 : Option Addr) (len0 cap0 : Nat) (z0 : List Int) (a1 : Option Addr) (len1 cap1 : Nat) (z1 : List Int) (w : World) (w0 : IsRow .u8 w a0 len0 cap0 z0) (w1 : IsRow .u32 w a1 len1 cap1 z1) :
    Calls Try.prog 4 #[.slice a0 len0 cap0, .slice a1 len1 cap1] w fun e w' => e = .returned (.bool true) ∧ Below w.heap.size w w' := by
  have hw : ∀ {k : IntKind} {zs : List Int}, (∀ n ∈ zs, (Lit.int k n).wf = true) → (Lit.int k 0).wf = true → ∀ i, (Lit.int k (zs.getD i 0)).wf = true := by
    intro k zs h h0 i
    by_cases hi : i < zs.length
    · exact h _ (by rw [List.getD_eq_getElem?_getD, List.getElem?_eq_getElem hi]; exact List.getElem_mem hi)
    · rw [List.getD_eq_getElem?_getD, List.getElem?_eq_none (by omega)]; exact h0
  have hm0 : len0 ≤ 9223372036854775807 := by
    rcases w0 with ⟨_, rfl, _⟩ | ⟨_, _, h, h', _⟩
    · omega
    · unfold maxLen at h'; omega
  have hm1 : len1 ≤ 9223372036854775807 := by
    rcases w1 with ⟨_, rfl, _⟩ | ⟨_, _, h, h', _⟩
    · omega
    · unfold maxLen at h'; omega
  by_cases hlong : 65536 < len0 ∨ 65536 < len1
  · exact (law_long a0 len0 cap0 a1 len1 cap1 hm0 hm1 hlong w).mono fun e w' ⟨he, h⟩ => ⟨he, by subst h; exact Below.refl _ _⟩
  by_cases hshort : len0 = 0 ∨ len1 ≠ len0
  · exact (law_short a0 len0 cap0 a1 len1 cap1 (by omega) (by omega) hshort w).mono fun e w' ⟨he, h⟩ => ⟨he, by subst h; exact Below.refl _ _⟩
  obtain rfl : len1 = len0 := by omega
  rcases w0 with ⟨_, h, _⟩ | ⟨⟨b0, o0, s0⟩, rfl, hl0, _, hz0, hc0, hwf0⟩
  · omega
  rcases w1 with ⟨_, h, _⟩ | ⟨⟨b1, o1, s1⟩, rfl, hl1, _, hz1, hc1, hwf1⟩
  · omega
  obtain rfl : s0 = none := by simpa [Addr.add] using World.cell?_spot (hc0 0 (by omega))
  obtain rfl : s1 = none := by simpa [Addr.add] using World.cell?_spot (hc1 0 (by omega))
  have e0 : ∀ i, 0 ≤ z0.getD i 0 ∧ z0.getD i 0 ≤ 255 := fun i => by have := bounds_u8 (hw hwf0 rfl i); omega
  have e1 : ∀ i, 0 ≤ z1.getD i 0 ∧ z1.getD i 0 ≤ 4294967295 := fun i => by have := bounds_u32 (hw hwf1 rfl i); omega
  have lt_of_cell : ∀ {a : Addr} {v : Value}, w.cell? a = some v → a.block < w.heap.size := by
    intro a v h
    rcases Nat.lt_or_ge a.block w.heap.size with h' | h'
    · exact h'
    · simp [World.cell?, Array.getElem?_eq_none h'] at h
  refine law_main b0 o0 cap0 b1 o1 cap1 len1 (fun i => (z0.getD i 0).toNat) (fun i => (z1.getD i 0).toNat) (by omega) (by omega) w (fun i hi => ?_) (fun i hi => ?_) (lt_of_cell (hc0 0 (by omega))) (lt_of_cell (hc1 0 (by omega))) (fun i => by have := e0 i; omega) (fun i => by have := e1 i; omega)
  · rw [Int.toNat_of_nonneg (e0 i).1, ← add_plain]
    exact hc0 i (by omega)
  · rw [Int.toNat_of_nonneg (e1 i).1, ← add_plain]
    exact hc1 i (by omega)

/-! ### THE ROW's STEP: WRITTEN OUT: LEAVE IT -/
set_option maxRecDepth 100000 in
theorem lifted (os : Os) (started : os.Started) (H : Type) (enc : TypeId × Value → H) :
    ReturnsInHanded {} Try.checked os 4 .any (Rows.fnValueLenCountsCoverEveryNodeSpec.pre6 enc Try.prog Try.f4 Rows.fnValueLenCountsCoverEveryNodeRow.domain false) (Rows.fnValueLenCountsCoverEveryNodeSpec.post enc Try.prog Try.f4 false true false false) := by
  refine returnsInHanded_of_change (C := Try.checked) own started (by kernel_rfl) Try.func4
    (ChangeSpec.witness6 (enc := enc) (C := Try.checked) false ⟨#[], #[.slice none 0 0, .slice none 0 0], []⟩ 8 (by kernel_rfl) (by kernel_rfl) (by kernel_rfl) (by kernel_rfl)) ?_
  intro W base args ds gs before hval0 hW hcnd _
  have hval : ∀ (j : Nat) t v, Try.f4.params[j]? = some t → args[j]? = some v → Value.okWide Try.prog W .any base t v := hval0
  have hW' := hW
  obtain ⟨p, q, hA0, hV, rfl, hfz, hnd⟩ := hW
  have hA : DataW.TrodAll enc Try.prog W 0 (fun _ => true) true Try.f4.params.toList args.toList ds p := hA0
  rw [Try.params4] at hA hval
  obtain ⟨v0, vs0, d0, ds0, p0, q0, hargs, rfl, rfl, h0, r0⟩ := trodAll_cons hA
  obtain ⟨v1, vs1, d1, ds1, p1, q1, rfl, rfl, rfl, h1, r1⟩ := trodAll_cons r0
  obtain ⟨rfl, rfl, rfl⟩ := trodAll_nil r1
  obtain rfl : args = #[v0, v1] := by cases args; simp_all
  obtain ⟨rfl, rfl⟩ := trodVars_none hV
  obtain ⟨a0, len0, cap0, rfl⟩ := okWide_slice Try.underlying22 (hval 0 22 v0 rfl rfl)
  have k0 := h0
  have lt0 : ∀ x ∈ p0, x.block < W.heap.size := by obtain ⟨m, hm⟩ := k0; exact DataW.trod_lt m _ _ _ hm
  obtain ⟨z0, w0⟩ : ∃ zs, IsRow .u8 W a0 len0 cap0 zs := by
    obtain ⟨fuel, hf⟩ := h0
    rcases open_ints Try.underlying22 Try.underlying5 (by kernel_rfl) hf with ⟨hcs, _⟩ | ⟨x, l, c, zs, hcs, _, hl, hm, hz, _, hcell, hwz⟩
    · simp [Value.cells] at hcs
      obtain ⟨rfl, rfl, rfl⟩ := hcs
      exact ⟨[], .inl ⟨rfl, rfl, rfl, rfl⟩⟩
    · simp [Value.cells] at hcs
      obtain ⟨rfl, rfl, rfl⟩ := hcs
      exact ⟨zs, .inr ⟨_, rfl, hl, hm, by simpa using hz, hcell, hwz⟩⟩
  obtain ⟨a1, len1, cap1, rfl⟩ := okWide_slice Try.underlying23 (hval 1 23 v1 rfl rfl)
  have k1 := h1
  have lt1 : ∀ x ∈ p1, x.block < W.heap.size := by obtain ⟨m, hm⟩ := k1; exact DataW.trod_lt m _ _ _ hm
  obtain ⟨z1, w1⟩ : ∃ zs, IsRow .u32 W a1 len1 cap1 zs := by
    obtain ⟨fuel, hf⟩ := h1
    rcases open_ints Try.underlying23 Try.underlying24 (by kernel_rfl) hf with ⟨hcs, _⟩ | ⟨x, l, c, zs, hcs, _, hl, hm, hz, _, hcell, hwz⟩
    · simp [Value.cells] at hcs
      obtain ⟨rfl, rfl, rfl⟩ := hcs
      exact ⟨[], .inl ⟨rfl, rfl, rfl, rfl⟩⟩
    · simp [Value.cells] at hcs
      obtain ⟨rfl, rfl, rfl⟩ := hcs
      exact ⟨zs, .inr ⟨_, rfl, hl, hm, by simpa using hz, hcell, hwz⟩⟩
  clear hA0 hval0
  refine (walk a0 len0 cap0 z0 a1 len1 cap1 z1 W w0 w1).mono fun e W' ⟨he, bel⟩ => ?_
  subst he
  exact ⟨_, rfl, _, _, _, [], _, [], hW', trodAll_mk1 (shut_bool Try.underlying4 _), (trodAll_cons_mk (Below.trod laidOut (by kernel_rfl) (of_decide_eq_true (by kernel_rfl)) k0 bel lt0) (trodAll_cons_mk (Below.trod laidOut (by kernel_rfl) (of_decide_eq_true (by kernel_rfl)) k1 bel lt1) trodAll_mk0)), rfl, bel.frame _, fun h => by cases h⟩

theorem over : Rows.fnValueLenCountsCoverEveryNodeRow.holds Try.pinned (OpenSpec.ofChange Rows.fnValueLenCountsCoverEveryNodeSpec) :=
  OpenClaim.holds_of_wide 4 Try.f4 rfl rfl rfl rfl rfl rfl rfl ⟨rfl, rfl, rfl, rfl, rfl⟩ rfl rfl rfl rfl rfl (by kernel_rfl) Try.func4 (by kernel_rfl)
    (of_decide_eq_true (by kernel_rfl)) (by unfold Func.isWrapper; first | (rw [if_pos (by decide +kernel)]; kernel_rfl) | (rw [if_neg (by decide +kernel)]; exact ⟨rfl, rfl⟩))
    (fun os started H enc _ => lifted os started H enc)

/-- ████ THE STATEMENT ████ -/
theorem proved : Rows.FnValueLenCountsCoverEveryNodeSaid := over
#print axioms proved
end Go.Proofs.Qxb6603622a.fnValueLenCountsCoverEveryNode
