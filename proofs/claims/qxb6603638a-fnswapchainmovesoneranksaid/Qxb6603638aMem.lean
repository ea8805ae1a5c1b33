/-
  RECORDS OF 23 CELLS IN MEMORY: no Go function in sight.
-/
import Derived.WalkKit
import Derived.Deep.MidRow
namespace Go.Proofs.Qxb6603638a
open Go.RowKit

/-- Block g holds n records of 23 cells each, record k being R k; each may be written. -/
structure Recs (w : World) (g n : Nat) (R : Nat → List Value) : Prop where
  range : ∀ k, k < n → w.rangeAt g (k * 23) (R k)
  there : ∀ k, k < n → w.there g (k * 23) 23
  len : ∀ k, k < n → (R k).length = 23

/-- Record k set to V. -/
def upd (R : Nat → List Value) (k : Nat) (V : List Value) : Nat → List Value := fun j => if j = k then V else R j

theorem Recs.congr {w : World} {g n : Nat} {R R' : Nat → List Value} (h : Recs w g n R) (e : ∀ k, k < n → R' k = R k) : Recs w g n R' :=
  ⟨fun k hk => by rw [e k hk]; exact h.range k hk, h.there, fun k hk => by rw [e k hk]; exact h.len k hk⟩

theorem Recs.drew {w : World} {g n : Nat} {R : Nat → List Value} (h : Recs w g n R) : Recs w.drew g n R := ⟨h.range, h.there, h.len⟩

theorem Recs.alloc {w : World} {g n : Nat} {R : Nat → List Value} (h : Recs w g n R) (o : Obj) : Recs (w.alloc o) g n R :=
  ⟨fun k hk => World.rangeAt_alloc (h.range k hk) o, fun k hk => World.there_alloc (h.there k hk) o, h.len⟩

theorem Recs.set {w : World} {g n : Nat} {R : Nat → List Value} (h : Recs w g n R) {k : Nat} (hk : k < n) {V : List Value} (hV : V.length = 23) : Recs (w.setCells g (k * 23) V) g n (upd R k V) := by
  refine ⟨fun j hj => ?_, fun j hj => World.there_setCells (h.there j hj) _ _ _, fun j hj => ?_⟩
  · simp only [upd]
    split
    · next e => subst e; exact World.rangeAt_setCells_same _ _ _ _ (by rw [hV]; exact h.there j hj)
    · next e =>
      refine World.rangeAt_setCells_apart (h.range j hj) _ _ _ (.inr ?_)
      rw [h.len j hj, hV]
      omega
  · simp only [upd]
    split
    · exact hV
    · exact h.len j hj

theorem Recs.other {w : World} {g n : Nat} {R : Nat → List Value} (h : Recs w g n R) {b : Nat} (hb : g ≠ b) (o : Nat) (V : List Value) : Recs (w.setCells b o V) g n R :=
  ⟨fun k hk => World.rangeAt_setCells_apart (h.range k hk) _ _ _ (.inl hb), fun k hk => World.there_setCells (h.there k hk) _ _ _, h.len⟩

theorem rangeAt_of_cells {w w' : World} {b o : Nat} {V : List Value} (h : w.rangeAt b o V) (e : ∀ j, w'.cell? ⟨b, j, none⟩ = w.cell? ⟨b, j, none⟩) : w'.rangeAt b o V := fun j v hv => (e _).trans (h j v hv)

theorem Recs.below {w w' : World} {B g n : Nat} {R : Nat → List Value} (h : Recs w g n R) (hb : Below B w w') (hg : g < B) : Recs w' g n R :=
  ⟨fun k hk => rangeAt_of_cells (h.range k hk) (fun j => hb.cell (p := ⟨g, j, none⟩) hg), fun k hk j hj => by
    rw [hb.cell (p := ⟨g, _, none⟩) hg, hb.frozen (p := ⟨g, _, none⟩) hg]; exact h.there k hk j hj, h.len⟩

theorem below_setCells {B : Nat} {a : World} (b : Nat) (hb : B ≤ b) : ∀ (V : List Value) (o : Nat) (w : World), Below B a w → Below B a (w.setCells b o V)
  | [], _, _, h => h
  | v :: V, o, w, h => by
    rw [World.setCells]
    exact below_setCells b hb V (o + 1) _ (h.setCell (p := ⟨b, o, none⟩) hb v)

/-- A record that is there: the block is. -/
theorem Recs.lt {w : World} {g n : Nat} {R : Nat → List Value} (h : Recs w g n R) (hn : 0 < n) : g < w.heap.size :=
  block_lt_of_cell (a := ⟨g, 0 * 23 + 0, none⟩) (h.range 0 hn 0 _ (List.getElem?_eq_getElem (by rw [h.len 0 hn]; omega)))

/-- A new block of n records, whatever they are. -/
theorem Recs.made (w : World) (C : Array Value) (t : TypeId) (n : Nat) (hC : C.size = n * 23) : Recs (w.alloc (.cells C t)) w.heap.size n (fun k => (C.extract (k * 23) (k * 23 + 23)).toList) := by
  have hb : (w.alloc (.cells C t)).heap[w.heap.size]? = some (.cells C t (0, 0)) := heap_alloc_new w _
  refine ⟨fun k _ => World.rangeAt_of_block hb _ _, fun k hk j hj => ⟨?_, frozen_of_row _ _ _ C t hb⟩, fun k hk => ?_⟩
  · rw [cell_of_row _ _ _ C t _ hb, Array.getElem?_eq_getElem (by omega)]; rfl
  · simp; omega

/-- What a swap does. -/
def swapR (R : Nat → List Value) (i j : Nat) : Nat → List Value := upd (upd R i (R j)) j (R i)

theorem Recs.swap {w : World} {g n : Nat} {R : Nat → List Value} (h : Recs w g n R) {i j : Nat} (hi : i < n) (hj : j < n) : Recs ((w.drew.setCells g (i * 23) (R j)).setCells g (j * 23) (R i)) g n (swapR R i j) :=
  (h.drew.set hi (h.len j hj)).set hj (h.len i hi)

end Go.Proofs.Qxb6603638a
