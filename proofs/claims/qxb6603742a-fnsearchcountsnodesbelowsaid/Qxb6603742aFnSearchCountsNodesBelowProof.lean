/-
  A proof of 'Rows.FnSearchCountsNodesBelowSaid'. The frame is the one that the kit's tool writes for a law over slices; the walk is this seat's: Plain, Words, Ring, More, Law.
-/
import Derived.Test.Qxb6603742aRows
import Derived.Test.Qxb6603742aLaw
import Derived.WalkKit
import Derived.ProofKit
import Derived.OpenShut
import Derived.ShutString
import Derived.ChangeOld
import Derived.ChangeSlices
import Derived.SliceStrings
import Derived.Below
namespace Go.Proofs.Qxb6603742a.fnSearchCountsNodesBelow
open Go.ChangeShapes Go.WideShapes Go.ChangeAt Go.RowKit
set_option linter.unusedVariables false

theorem own : ownKnob Try.prog.godebug = none := by kernel_rfl
theorem laidOut : laidOutB Try.prog = true := by kernel_rfl

/-- A slice of words that came in. -/
def InWords (w : World) (a : Option Addr) (len cap : Nat) (D : List Int) : Prop := D.length = len ∧ len ≤ cap ∧ len ≤ maxLen ∧ (a = none → D = [] ∧ cap = 0) ∧ Words w a D
/-- A slice of names that came in. -/
def InNames (w : World) (a : Option Addr) (len cap : Nat) (S : Nat → ByteArray) : Prop := len ≤ maxLen ∧ (a = none → len = 0 ∧ cap = 0) ∧ Names w a len S

theorem open_words {H : Type} {enc : TypeId × Value → H} {w : World} {fuel : Nat} {a : Option Addr} {len cap : Nat} {y : DataW H × List MemPlace}
    (h : DataW.trod enc Try.prog w 0 (fun _ => true) true fuel 22 [.slice a len cap] = some y) : ∃ D, InWords w a len cap D := by
  rcases open_ints Try.underlying22 Try.underlying45 (by kernel_rfl) h with ⟨e, _⟩ | ⟨x, len', cap', zs, e, _, hlc, hcm, hl, _, hc, _⟩
  · simp at e
    obtain ⟨rfl, rfl, rfl⟩ := e
    exact ⟨[], rfl, Nat.le_refl _, Nat.zero_le _, fun _ => ⟨rfl, rfl⟩, 0, 0, fun h => absurd h (by simp), fun k h => absurd h (by simp)⟩
  · simp at e
    obtain ⟨rfl, rfl, rfl⟩ := e
    simp only [if_true] at hl
    have hlt : (zs.take len).length = len := by simp; omega
    refine ⟨zs.take len, hlt, hlc, by omega, fun h => (by cases h), ?_⟩
    obtain ⟨b, off, spot⟩ := x
    have hspot : 0 < len → spot = none := fun h => by simpa [Addr.add] using World.cell?_spot (hc 0 (by omega))
    refine ⟨b, off, fun h => by rw [hspot (by omega)], fun k hk => ?_⟩
    have := hc k (by omega)
    rw [hspot (by omega), add_plain] at this
    rw [this]
    simp [List.getD_eq_getElem?_getD, show k < len by omega]

theorem open_names {H : Type} {enc : TypeId × Value → H} {w : World} {fuel : Nat} {a : Option Addr} {len cap : Nat} {y : DataW H × List MemPlace}
    (h : DataW.trod enc Try.prog w 0 (fun _ => true) true fuel 23 [.slice a len cap] = some y) : ∃ S, InNames w a len cap S := by
  rcases open_strings Try.underlying23 Try.underlying9 (by kernel_rfl) h with ⟨e, _⟩ | ⟨x, len', cap', ss, e, _, hlc, hcm, hl, _, hc, hz⟩
  · simp at e
    obtain ⟨rfl, rfl, rfl⟩ := e
    exact ⟨fun _ => ByteArray.empty, Nat.zero_le _, fun _ => ⟨rfl, rfl⟩, 0, 0, fun h => absurd h (by omega), fun k h => absurd h (by omega)⟩
  · simp at e
    obtain ⟨rfl, rfl, rfl⟩ := e
    simp only [if_true] at hl
    refine ⟨fun k => ss.getD k ByteArray.empty, by omega, fun h => (by cases h), ?_⟩
    obtain ⟨b, off, spot⟩ := x
    have hspot : 0 < len → spot = none := fun h => by simpa [Addr.add] using World.cell?_spot (hc 0 (by omega))
    refine ⟨b, off, fun h => ⟨by rw [hspot h], ?_⟩, fun k hk => ⟨?_, ?_⟩⟩
    · simpa [Addr.add] using block_lt_of_cell (hc 0 (by omega))
    · have := hc k (by omega)
      rw [hspot (by omega), add_plain] at this
      exact this
    · have hk' : k < ss.length := by omega
      have := hz (ss.getD k ByteArray.empty) (by simp [List.getD_eq_getElem?_getD, hk'])
      unfold maxLen at this
      exact this

theorem walk (x y : Int) (a1 a2 a3 : Option Addr) (l1 c1 l2 c2 l3 c3 : Nat) (D P : List Int) (S : Nat → ByteArray) (w : World) (i1 : InWords w a1 l1 c1 D) (i2 : InNames w a2 l2 c2 S) (i3 : InWords w a3 l3 c3 P) :
    Calls Try.prog 3 #[.int .i64 x, .int .i64 y, .slice a1 l1 c1, .slice a2 l2 c2, .slice a3 l3 c3] w fun e w' => e = .returned (.bool true) ∧ Below w.heap.size w w' := by
  obtain ⟨rfl, hc1, hm1, n1, hD⟩ := i1
  obtain ⟨hm2, n2, hS⟩ := i2
  obtain ⟨rfl, hc3, hm3, n3, hP⟩ := i3
  unfold maxLen at hm1 hm2 hm3
  show Calls _ _ _ _ (LawPost w)
  by_cases h : 131072 < (D.length : Int) ∨ 65536 < (l2 : Int) ∨ 131072 < (P.length : Int)
  · exact law_long x y a1 a2 a3 _ c1 l2 c2 _ c3 (by omega) (by omega) (by omega) S w hS h
  by_cases hy : y < 1
  · exact law_thin x y a1 a2 a3 _ c1 l2 c2 _ c3 (by omega) (by omega) (by omega) S w hS hy
  obtain ⟨W, rfl⟩ := Int.eq_ofNat_of_zero_le (show 0 ≤ y by omega)
  exact law_main x W _ D P a1 a2 a3 c1 l2 c2 c3 n1 n2 n3 (by omega) hc1 (by omega) (by omega) S (by omega) rfl w hD hS hP

set_option maxRecDepth 100000 in
theorem lifted (os : Os) (started : os.Started) (H : Type) (enc : TypeId × Value → H) :
    ReturnsInHanded {} Try.checked os 3 .any (Rows.fnSearchCountsNodesBelowSpec.pre6 enc Try.prog Try.f3 Rows.fnSearchCountsNodesBelowRow.domain false) (Rows.fnSearchCountsNodesBelowSpec.post enc Try.prog Try.f3 false true false false) := by
  refine returnsInHanded_of_change (C := Try.checked) own started (by kernel_rfl) Try.func3
    (ChangeSpec.witness6 (enc := enc) (C := Try.checked) false ⟨#[], #[.int .i64 0, .int .i64 0, .slice none 0 0, .slice none 0 0, .slice none 0 0], []⟩ 8 (by kernel_rfl) (by kernel_rfl) (by kernel_rfl) (by kernel_rfl)) ?_
  intro W base args ds gs before hval0 hW hcnd _
  have hval : ∀ (j : Nat) t v, Try.f3.params[j]? = some t → args[j]? = some v → Value.okWide Try.prog W .any base t v := hval0
  have hW' := hW
  obtain ⟨p, q, hA0, hV, rfl, hfz, hnd⟩ := hW
  have hA : DataW.TrodAll enc Try.prog W 0 (fun _ => true) true Try.f3.params.toList args.toList ds p := hA0
  rw [Try.params3] at hA hval
  obtain ⟨v0, vs0, d0, ds0, p0, q0, hargs, rfl, rfl, h0, r0⟩ := trodAll_cons hA
  obtain ⟨v1, vs1, d1, ds1, p1, q1, rfl, rfl, rfl, h1, r1⟩ := trodAll_cons r0
  obtain ⟨v2, vs2, d2, ds2, p2, q2, rfl, rfl, rfl, h2, r2⟩ := trodAll_cons r1
  obtain ⟨v3, vs3, d3, ds3, p3, q3, rfl, rfl, rfl, h3, r3⟩ := trodAll_cons r2
  obtain ⟨v4, vs4, d4, ds4, p4, q4, rfl, rfl, rfl, h4, r4⟩ := trodAll_cons r3
  obtain ⟨rfl, rfl, rfl⟩ := trodAll_nil r4
  obtain rfl : args = #[v0, v1, v2, v3, v4] := by cases args; simp_all
  obtain ⟨rfl, rfl⟩ := trodVars_none hV
  obtain ⟨a2, len2, cap2, rfl⟩ := okWide_slice Try.underlying22 (hval 2 22 v2 rfl rfl)
  obtain ⟨a3, len3, cap3, rfl⟩ := okWide_slice Try.underlying23 (hval 3 23 v3 rfl rfl)
  obtain ⟨a4, len4, cap4, rfl⟩ := okWide_slice Try.underlying22 (hval 4 22 v4 rfl rfl)
  have k2 := h2
  have k3 := h3
  have k4 := h4
  have lt2 : ∀ x ∈ p2, x.block < W.heap.size := by obtain ⟨m, hm⟩ := k2; exact DataW.trod_lt m _ _ _ hm
  have lt3 : ∀ x ∈ p3, x.block < W.heap.size := by obtain ⟨m, hm⟩ := k3; exact DataW.trod_lt m _ _ _ hm
  have lt4 : ∀ x ∈ p4, x.block < W.heap.size := by obtain ⟨m, hm⟩ := k4; exact DataW.trod_lt m _ _ _ hm
  obtain ⟨D, i2⟩ : ∃ D, InWords W a2 len2 cap2 D := by
    obtain ⟨fuel, hf⟩ := h2
    exact open_words hf
  obtain ⟨S, i3⟩ : ∃ S, InNames W a3 len3 cap3 S := by
    obtain ⟨fuel, hf⟩ := h3
    exact open_names hf
  obtain ⟨P, i4⟩ : ∃ D, InWords W a4 len4 cap4 D := by
    obtain ⟨fuel, hf⟩ := h4
    exact open_words hf
  obtain ⟨x0, rfl, rfl, rfl, w0⟩ := open_int Try.underlying3 (hval 0 3 v0 rfl rfl) h0
  obtain ⟨x1, rfl, rfl, rfl, w1⟩ := open_int Try.underlying3 (hval 1 3 v1 rfl rfl) h1
  clear hA0 hval0
  refine (walk x0 x1 a2 a3 a4 len2 cap2 len3 cap3 len4 cap4 D P S W i2 i3 i4).mono fun e W' ⟨he, bel⟩ => ?_
  subst he
  exact ⟨_, rfl, _, _, _, [], _, [], hW', trodAll_mk1 (shut_bool Try.underlying4 _), (trodAll_cons_mk (shut_int Try.underlying3 w0) (trodAll_cons_mk (shut_int Try.underlying3 w1) (trodAll_cons_mk (Below.trod laidOut (by kernel_rfl) (of_decide_eq_true (by kernel_rfl)) k2 bel lt2) (trodAll_cons_mk (Below.trod laidOut (by kernel_rfl) (of_decide_eq_true (by kernel_rfl)) k3 bel lt3) (trodAll_cons_mk (Below.trod laidOut (by kernel_rfl) (of_decide_eq_true (by kernel_rfl)) k4 bel lt4) trodAll_mk0))))), rfl, bel.frame _, fun h => by cases h⟩

theorem over : Rows.fnSearchCountsNodesBelowRow.holds Try.pinned (OpenSpec.ofChange Rows.fnSearchCountsNodesBelowSpec) :=
  OpenClaim.holds_of_wide 3 Try.f3 rfl rfl rfl rfl rfl rfl rfl ⟨rfl, rfl, rfl, rfl, rfl⟩ rfl rfl rfl rfl rfl (by kernel_rfl) Try.func3 (by kernel_rfl)
    (of_decide_eq_true (by kernel_rfl)) (by unfold Func.isWrapper; first | (rw [if_pos (by decide +kernel)]; kernel_rfl) | (rw [if_neg (by decide +kernel)]; exact ⟨rfl, rfl⟩))
    (fun os started H enc _ => lifted os started H enc)

/-- THE STATEMENT -/
theorem proved : Rows.FnSearchCountsNodesBelowSaid := over
#print axioms proved
end Go.Proofs.Qxb6603742a.fnSearchCountsNodesBelow
