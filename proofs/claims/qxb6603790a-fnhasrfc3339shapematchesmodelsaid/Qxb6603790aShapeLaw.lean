import Derived.Test.Qxb6603790aModel
import Derived.Test.Qxb6603790aRead
namespace Go.Proofs.Qxb6603790a
open Go.RowKit
set_option linter.unusedVariables false

theorem read_all (s : ByteArray) (h : (s.size : Int) ≤ 1048576) (w : World) : Calls Try.prog 11 #[.string s] w (ShapePost s w) := by
  by_cases h1 : (s.size : Int) ≤ 19
  · exact read_short s h1 w
  · exact read_any s (by omega) h w

theorem zzread_all (s : ByteArray) (h : (s.size : Int) ≤ 1048576) (w : World) : Calls Try.prog 6 #[.string s] w (ShapePost s w) := by
  have HH : Hid (∀ _ : Unit, Calls Try.prog 11 #[.string s] w (ShapePost s w)) := fun _ => read_all s h w
  go_enter Try.func6, Try.ntmps6
  go_wp2_with fail
  refine (HH.out ()).mono ?_
  rintro e w1 ⟨⟨b, rfl, hb⟩, hbel⟩
  have HP : Hid (ShapePost s w (.returned (.bool b)) w1) := ⟨⟨b, rfl, hb⟩, hbel⟩
  clear hb hbel
  go_wp2
  go_ret
  exact HP.out

/-- Yes, and nothing that was there has turned. -/
def Yes' (w : World) (e : Ending) (w' : World) : Prop := e = .returned (.bool true) ∧ Below w.heap.size w w'

set_option maxRecDepth 100000 in
set_option maxHeartbeats 400000 in
theorem shape_law (s : ByteArray) (hm : s.size ≤ 9223372036854775807) (w : World) : Calls Try.prog 3 #[.string s] w (Yes' w) := by
  by_cases h : (s.size : Int) ≤ 1048576
  case neg =>
    have h' : 1048576 < (s.size : Int) := by omega
    clear h
    go_enter Try.func3, Try.ntmps3
    go_wp2_with fail
    refine (bytes5_no s (by omega) _).mono ?_
    rintro e w1 ⟨rfl, rfl⟩
    go_wp2
    go_ret
    exact ⟨rfl, Below.refl _ _⟩
  case pos =>
    have H6 : Hid (∀ _ : Unit, Calls Try.prog 6 #[.string s] w (ShapePost s w)) := fun _ => zzread_all s h w
    have H7 : Hid (∀ w1, Calls Try.prog 7 #[.string s] w1 (ShapePost s w1)) := fun w1 => model_all s h w1
    go_enter Try.func3, Try.ntmps3
    go_wp2_with fail
    refine (bytes5_yes s (by omega) _).mono ?_
    rintro e w1 ⟨rfl, rfl⟩
    go_wp2_with fail
    refine (H6.out ()).mono ?_
    rintro e w1 ⟨⟨b, rfl, hb⟩, hbel⟩
    have HB : Hid (b = true ↔ Shape s) := hb
    have HBEL : Hid (Below w.heap.size w w1) := hbel
    clear hb hbel
    go_wp2_with fail
    refine (H7.out w1).mono ?_
    rintro e w2 ⟨⟨b2, rfl, hb2⟩, hbel2⟩
    obtain rfl : b = b2 := by rw [Bool.eq_iff_iff]; exact HB.out.trans hb2.symm
    have HBEL2 : Hid (Below w.heap.size w w2) := HBEL.out.trans (hbel2.mono HBEL.out.size)
    clear hb2 hbel2
    cases b
    all_goals
      go_wp2
      go_ret
      exact ⟨rfl, HBEL2.out⟩
end Go.Proofs.Qxb6603790a
