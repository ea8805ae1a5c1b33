import Derived.Test.Qxb6603622aCount
import Derived.WalkKit
import Derived.WalkSmall
import Derived.Deep.QuietTactic
import Derived.BigQuiet
namespace Go.Proofs.Qxb6603622a
open Go.RowKit

theorem Doc.later {Bd g cap n : Nat} {K X : Nat → Nat} {A B : World} (h : Doc (· < A.heap.size) A Bd g cap n K X) (hb : Below A.heap.size A B) : Doc (· < B.heap.size) B Bd g cap n K X :=
  (h.keeps (KeepsIn.of_below hb (fun _ h => h))).mono (Nat.lt_of_lt_of_le h.bd hb.size) (Nat.lt_of_lt_of_le h.gd hb.size)

set_option maxHeartbeats 400000 in
theorem kind_any (Bd g cap n t : Nat) (K X : Nat → Nat) (ht : t < n) (w : World) (hD : Doc (· < w.heap.size) w Bd g cap n K X) :
    Calls Try.prog 18 #[.agg #[.pointer (some ⟨Bd, 0, none⟩), .int .u32 (t : Nat)]] w fun e w' => e = .returned (.int .u8 (K t)) ∧ Below w.heap.size w w' := by
  have hs := hD.slot
  have hk := hD.kind t ht
  have hbd := hD.bd
  have hgd := hD.gd
  have hti : (t : Int) < (n : Int) := by omega
  go_enter Try.func18, Try.ntmps18
  go_wp2
  go_quiet (fail)
  go_wp2
  go_ret
  exact ⟨rfl, below_drewN ((Below.refl _ _).alloc (Nat.le_refl _) _) _⟩

set_option maxHeartbeats 400000 in
theorem len_any (Bd g cap n t r : Nat) (K X : Nat → Nat) (ht : t < n) (hn : n ≤ 65536) (hr : r ≤ 65536) (hN : ∀ j, j < n → Plain.Node n K X j) (hd : (K t ≠ 6 ∧ Plain.Done K X t r) ∨ (K t = 6 ∧ Plain.Done K X t (2 * r))) (w : World) (hD : Doc (· < w.heap.size) w Bd g cap n K X) :
    Calls Try.prog 10 #[.agg #[.pointer (some ⟨Bd, 0, none⟩), .int .u32 (t : Nat)]] w fun e w' => e = .returned (.int .i64 (r : Nat)) ∧ Below w.heap.size w w' := by
  have hk1 := (hN t ht).2.2.1
  have t1 : (((K t : Nat) : Int) == 0) = false := by simp; omega
  have hcnt : ∀ W : World, Doc (· < W.heap.size) W Bd g cap n K X → Calls Try.prog 20 #[.pointer (some ⟨Bd, 0, none⟩), .int .u32 (t : Nat)] W fun e W' => e = .returned (.int .i64 (r : Nat)) ∧ Below W.heap.size W W' := by
    intro W hW
    rcases hd with ⟨h6, h⟩ | ⟨h6, h⟩
    · exact callsIn_wide.1 (count_else Bd g cap n t r K X hn ht hr hN h h6 W hW)
    · exact callsIn_wide.1 (count_obj Bd g cap n t r K X hn ht hr hN h h6 W hW)
  have HH : Hid (∀ W : World, Doc (· < W.heap.size) W Bd g cap n K X → Calls Try.prog 20 #[.pointer (some ⟨Bd, 0, none⟩), .int .u32 (t : Nat)] W fun e W' => e = .returned (.int .i64 (r : Nat)) ∧ Below W.heap.size W W') := hcnt
  clear hcnt hd
  go_enter Try.func10, Try.ntmps10
  go_wp2_with fail
  have hB0 : Below w.heap.size w (w.alloc (.cells #[.pointer (some ⟨Bd, 0, none⟩), .int .u32 (t : Nat)] 33)) := (Below.refl _ w).alloc (Nat.le_refl _) _
  have hD0 := hD.later hB0
  refine (kind_any Bd g cap n t K X ht _ hD0).mono ?_
  rintro e w1 ⟨rfl, hb1⟩
  have c0 : w1.cell? ⟨w.heap.size, 0, none⟩ = some (.pointer (some ⟨Bd, 0, none⟩)) := (hb1.cell (p := ⟨w.heap.size, 0, none⟩) (by simp)).trans (by simp)
  have c1 : w1.cell? ⟨w.heap.size, 1, none⟩ = some (.int .u32 (t : Nat)) := (hb1.cell (p := ⟨w.heap.size, 1, none⟩) (by simp)).trans (by simp)
  have hD1 := hD0.later hb1
  have hb01 := hB0.trans (hb1.mono (by simp))
  clear hD hD0 hB0 hb1
  go_wp2_with fail
  refine (HH.out w1 hD1).mono ?_
  rintro e w2 ⟨rfl, hb2⟩
  go_wp2
  go_ret
  exact ⟨rfl, hb01.trans (hb2.mono hb01.size)⟩
end Go.Proofs.Qxb6603622a
