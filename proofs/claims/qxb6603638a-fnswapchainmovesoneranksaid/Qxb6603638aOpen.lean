/-
  A SLICE OF RANKS THAT CAME IN, OPENED: what the walks are told of it.
-/
import Derived.Test.Qxb6603638aRows
import Derived.Test.Qxb6603638aWalks
import Derived.ProofKit
import Derived.Deep.Slices
namespace Go.Proofs.Qxb6603638a
open Go.RowKit Go.Deep

/-- It is nil; or it leads to 'len' ranks R, each 23 cells that read as a rank. -/
def IsRanks (w : World) (a : Option Addr) (len cap : Nat) (R : Nat → List Value) : Prop :=
  (a = none ∧ len = 0 ∧ cap = 0) ∨
  ∃ (x : Addr) (b off : Nat), a = some x ∧ (0 < len → x = ⟨b, off, none⟩) ∧ len ≤ maxLen ∧ (∀ k, k < len → Good (R k)) ∧ (0 < len → b < w.heap.size) ∧ ∀ k, k < len → w.rangeAt b (off + k * 23) (R k)

theorem open_ranks {H : Type} {enc : TypeId × Value → H} {w : World} {fuel : Nat} {a : Option Addr} {len cap : Nat} {y : DataW H × List MemPlace}
    (h : DataW.trod enc Try.prog w 0 (fun _ => true) true fuel 46 [.slice a len cap] = some y) : ∃ R, IsRanks w a len cap R := by
  rcases open_slice Try.underlying46 h with ⟨e, _⟩ | ⟨x, len', cap', m, n, D, Pl, e, _, hlc, hcm, hm, _, hel⟩
  · simp at e
    exact ⟨fun _ => [], .inl e⟩
  · simp at e
    obtain ⟨rfl, rfl, rfl⟩ := e
    simp only [if_true] at hm
    subst hm
    rw [Try.cells58] at hel
    obtain ⟨R, hR⟩ := choose_lt (α := List Value) (n := len) (p := fun i cs => w.cells? 0 (x.add (i * 23)) 23 = some cs ∧ DataW.trod enc Try.prog w 0 (fun _ => true) true n 58 cs = some (D i, Pl i)) (fun i hi => hel i (by omega))
    obtain ⟨b, off, spot⟩ := x
    have key : ∀ k, k < len → ∀ j v, (R k)[j]? = some v → w.cell? ((⟨b, off, spot⟩ : Addr).add (k * 23 + j)) = some v := fun k hk j v hv => by
      obtain ⟨_, hl, hc⟩ := World.cells?_some (hR k hk).1
      have hj : j < 23 := by rw [← hl]; exact (List.getElem?_eq_some_iff.1 hv).1
      rw [← add_add, hc j hj, hv]
    have good : ∀ k, k < len → Good (R k) := fun k hk => ⟨_, (keyLits_of_trod 4 58 (by kernel_rfl) n (R k) _ (hR k hk).2).1⟩
    have first : 0 < len → ∃ v, w.cell? ((⟨b, off, spot⟩ : Addr).add 0) = some v := fun h => by
      have hl := (good 0 h).len
      exact ⟨_, key 0 h 0 _ (List.getElem?_eq_getElem (by omega))⟩
    have hspot : 0 < len → spot = none := fun h => by
      obtain ⟨v, hv⟩ := first h
      simpa [Addr.add] using World.cell?_spot hv
    refine ⟨R, .inr ⟨⟨b, off, spot⟩, b, off, rfl, fun h => by rw [hspot h], by omega, good, fun h => ?_, fun k hk j v hv => ?_⟩⟩
    · obtain ⟨v, hv⟩ := first h
      have := block_lt_of_cell hv
      simpa [Addr.add] using this
    · have := key k hk j v hv
      rw [hspot (by omega)] at this
      rw [Nat.add_assoc, ← Addr.add_mid]
      exact this
end Go.Proofs.Qxb6603638a
