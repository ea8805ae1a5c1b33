import Derived.Test.Qxb6603790aModelZ
import Derived.Test.Qxb6603790aModelSix
namespace Go.Proofs.Qxb6603790a
open Go.RowKit
set_option linter.unusedVariables false

set_option maxRecDepth 100000 in
set_option maxHeartbeats 1000000 in
theorem model_thin (s : ByteArray) (B : Nat) (hB19 : (19 : Int) ≤ (B : Int)) (hs : (s.size : Int) = (B : Int) + 1) (h2 : (B : Int) ≤ 23) (hfr : Front s) (hz : bt s B ≠ 90 ∧ bt s B ≠ 122) (w : World) : Calls Try.prog 7 #[.string s] w (ShapePost s w) := by
  have HN : Hid (¬ Shape s) := shape_short (B := B) (by omega) (by omega) hz
  have HSZ : Hid ((19 : Int) ≤ (s.size : Int)) := by show _ ≤ _; omega
  have HFR : Hid (Front s) := hfr
  clear hfr
  obtain ⟨l, hl⟩ : ∃ l, l = bt s B := ⟨_, rfl⟩
  have hxl : ∀ wx, (Instr.index 9 (.string s) (.int .i64 (B : Int))).run Try.prog wx = .ok (.int .u8 l) wx := fun wx => by
    rw [hl]; exact run_at' s B (by omega) wx
  rw [← hl] at hz
  have z1 : (l == 90) = false := by simp; omega
  have z2 : (l == 122) = false := by simp; omega
  clear hl hz
  have a1 : (B : Int) + 1 - 1 = (B : Int) := by omega
  go_enter Try.func7, Try.ntmps7
  go_wp2_with fail
  refine (front_yes s HSZ.out HFR.out _).mono ?_
  rintro e w2 ⟨rfl, rfl⟩
  go_wp2
  go_ret
  exact ShapePost.no HN.out (Below.refl _ _)

theorem model_all (s : ByteArray) (h : (s.size : Int) ≤ 1048576) (w : World) : Calls Try.prog 7 #[.string s] w (ShapePost s w) := by
  by_cases h1 : (s.size : Int) < 20
  · exact model_short s h1 w
  by_cases hf : Front s
  case neg => exact model_front s (by omega) h hf w
  obtain ⟨B, hB⟩ : ∃ B, s.size = B + 1 := ⟨s.size - 1, by omega⟩
  by_cases hz : bt s B = 90 ∨ bt s B = 122
  · exact model_z s B (by omega) (by omega) (by omega) hf hz w
  have hz' : bt s B ≠ 90 ∧ bt s B ≠ 122 := ⟨fun q => hz (.inl q), fun q => hz (.inr q)⟩
  by_cases h6 : s.size < 25
  · exact model_thin s B (by omega) (by omega) (by omega) hf hz' w
  · refine model_six s (s.size - 6) (by omega) (by omega) (by omega) hf ?_ w
    rw [show s.size - 6 + 5 = B from by omega]
    exact hz'
end Go.Proofs.Qxb6603790a
