/-
  A proof of 'Rows.FnSwapChainMovesOneRankSaid'. The frame is the one that the kit's tool writes for a law over slices, turned to a slice of structs; the walk is this seat's: Mem, Rank, Swap, Walks, Chain, Open.
-/
import Derived.Test.Qxb6603638aRows
import Derived.Test.Qxb6603638aChain
import Derived.Test.Qxb6603638aOpen
import Derived.WalkKit
import Derived.ProofKit
import Derived.OpenShut
import Derived.ShutString
import Derived.ChangeOld
import Derived.Below
namespace Go.Proofs.Qxb6603638a.fnSwapChainMovesOneRank
open Go.ChangeShapes Go.WideShapes Go.ChangeAt Go.RowKit
set_option linter.unusedVariables false

theorem own : ownKnob Try.prog.godebug = none := by kernel_rfl
theorem laidOut : laidOutB Try.prog = true := by kernel_rfl

theorem walk (a0 : Option Addr) (len0 cap0 : Nat) (R : Nat → List Value) (i j : Int) (w : World) (w0 : IsRanks w a0 len0 cap0 R) :
    Calls Try.prog 5 #[.slice a0 len0 cap0, .int .i64 i, .int .i64 j] w fun e w' => e = .returned (.bool true) ∧ Below w.heap.size w w' := by
  by_cases hout : len0 ≤ 4096 ∧ (i < 0 ∨ (len0 : Int) ≤ i ∨ j < 0 ∨ (len0 : Int) ≤ j)
  · exact chain_out a0 len0 cap0 i j hout.1 hout.2 w
  rcases w0 with ⟨rfl, rfl, rfl⟩ | ⟨x, b, off, rfl, hx, hl, hg, hb, hr⟩
  · omega
  · unfold maxLen at hl
    by_cases h : len0 ≤ 4096
    · obtain ⟨i', rfl⟩ := Int.eq_ofNat_of_zero_le (show 0 ≤ i by omega)
      obtain ⟨j', rfl⟩ := Int.eq_ofNat_of_zero_le (show 0 ≤ j by omega)
      by_cases hij : i' < j'
      · exact chain_up x b off len0 cap0 i' j' hx h (by omega) (by omega) hij R hg w hb hr
      · exact chain_down x b off len0 cap0 i' j' hx h (by omega) (by omega) (by omega) R hg w hb hr
    · exact chain_long (some x) len0 cap0 i j (by omega) (by omega) w

set_option maxRecDepth 100000 in
theorem lifted (os : Os) (started : os.Started) (H : Type) (enc : TypeId × Value → H) :
    ReturnsInHanded {} Try.checked os 5 .any (Rows.fnSwapChainMovesOneRankSpec.pre6 enc Try.prog Try.f5 Rows.fnSwapChainMovesOneRankRow.domain false) (Rows.fnSwapChainMovesOneRankSpec.post enc Try.prog Try.f5 false true false false) := by
  refine returnsInHanded_of_change (C := Try.checked) own started (by kernel_rfl) Try.func5
    (ChangeSpec.witness6 (enc := enc) (C := Try.checked) false ⟨#[], #[.slice none 0 0, .int .i64 0, .int .i64 0], []⟩ 8 (by kernel_rfl) (by kernel_rfl) (by kernel_rfl) (by kernel_rfl)) ?_
  intro W base args ds gs before hval0 hW hcnd _
  have hval : ∀ (j : Nat) t v, Try.f5.params[j]? = some t → args[j]? = some v → Value.okWide Try.prog W .any base t v := hval0
  have hW' := hW
  obtain ⟨p, q, hA0, hV, rfl, hfz, hnd⟩ := hW
  have hA : DataW.TrodAll enc Try.prog W 0 (fun _ => true) true Try.f5.params.toList args.toList ds p := hA0
  rw [Try.params5] at hA hval
  obtain ⟨v0, vs0, d0, ds0, p0, q0, hargs, rfl, rfl, h0, r0⟩ := trodAll_cons hA
  obtain ⟨v1, vs1, d1, ds1, p1, q1, rfl, rfl, rfl, h1, r1⟩ := trodAll_cons r0
  obtain ⟨v2, vs2, d2, ds2, p2, q2, rfl, rfl, rfl, h2, r2⟩ := trodAll_cons r1
  obtain ⟨rfl, rfl, rfl⟩ := trodAll_nil r2
  obtain rfl : args = #[v0, v1, v2] := by cases args; simp_all
  obtain ⟨rfl, rfl⟩ := trodVars_none hV
  obtain ⟨a0, len0, cap0, rfl⟩ := okWide_slice Try.underlying46 (hval 0 46 v0 rfl rfl)
  have k0 := h0
  have lt0 : ∀ x ∈ p0, x.block < W.heap.size := by obtain ⟨m, hm⟩ := k0; exact DataW.trod_lt m _ _ _ hm
  obtain ⟨R, w0⟩ : ∃ R, IsRanks W a0 len0 cap0 R := by
    obtain ⟨fuel, hf⟩ := h0
    exact open_ranks hf
  obtain ⟨a1, rfl, rfl, rfl, w1⟩ := open_int Try.underlying3 (hval 1 3 v1 rfl rfl) h1
  obtain ⟨a2, rfl, rfl, rfl, w2⟩ := open_int Try.underlying3 (hval 2 3 v2 rfl rfl) h2
  clear hA0 hval0
  refine (walk a0 len0 cap0 R a1 a2 W w0).mono fun e W' ⟨he, bel⟩ => ?_
  subst he
  exact ⟨_, rfl, _, _, _, [], _, [], hW', trodAll_mk1 (shut_bool Try.underlying4 _), (trodAll_cons_mk (Below.trod laidOut (by kernel_rfl) (of_decide_eq_true (by kernel_rfl)) k0 bel lt0) (trodAll_cons_mk (shut_int Try.underlying3 w1) (trodAll_cons_mk (shut_int Try.underlying3 w2) trodAll_mk0))), rfl, bel.frame _, fun h => by cases h⟩

theorem over : Rows.fnSwapChainMovesOneRankRow.holds Try.pinned (OpenSpec.ofChange Rows.fnSwapChainMovesOneRankSpec) :=
  OpenClaim.holds_of_wide 5 Try.f5 rfl rfl rfl rfl rfl rfl rfl ⟨rfl, rfl, rfl, rfl, rfl⟩ rfl rfl rfl rfl rfl (by kernel_rfl) Try.func5 (by kernel_rfl)
    (of_decide_eq_true (by kernel_rfl)) (by unfold Func.isWrapper; first | (rw [if_pos (by decide +kernel)]; kernel_rfl) | (rw [if_neg (by decide +kernel)]; exact ⟨rfl, rfl⟩))
    (fun os started H enc _ => lifted os started H enc)

/-- THE STATEMENT -/
theorem proved : Rows.FnSwapChainMovesOneRankSaid := over
#print axioms proved
end Go.Proofs.Qxb6603638a.fnSwapChainMovesOneRank
