import Derived.Test.Qxb6603790aFrac
namespace Go.Proofs.Qxb6603790a
open Go.RowKit
set_option linter.unusedVariables false

/-- What place i of the front asks for. -/
def want (i : Nat) : Int := [48, 48, 48, 48, 45, 48, 48, 45, 48, 48, 84, 48, 48, 58, 48, 48, 58, 48, 48].getD i 0
/-- The byte c is what v asks for. -/
def Fits (v c : Int) : Prop := (v = 48 ∧ Dig c) ∨ (v = 84 ∧ (c = 84 ∨ c = 116)) ∨ (v ≠ 48 ∧ v ≠ 84 ∧ c = v)
/-- The front: the date and the time of day. -/
def Front (s : ByteArray) : Prop := ∀ i, i < 19 → Fits (want i) (bt s i)

theorem want_dash : ∀ k, k = 4 ∨ k = 7 → want k = 45 := by rintro k (rfl | rfl) <;> rfl
theorem want_colon : ∀ k, k = 13 ∨ k = 16 → want k = 58 := by rintro k (rfl | rfl) <;> rfl
theorem want_cases : ∀ k, k < 19 → k = 4 ∨ k = 7 ∨ k = 10 ∨ k = 13 ∨ k = 16 ∨ want k = 48 := by decide
theorem want_digit (k : Nat) (h : k < 19) (h1 : k ≠ 4) (h2 : k ≠ 7) (h3 : k ≠ 10) (h4 : k ≠ 13) (h5 : k ≠ 16) : want k = 48 := by
  rcases want_cases k h with q | q | q | q | q | q
  all_goals first | exact q | exact absurd q (by assumption)
theorem want_range : ∀ k, k < 19 → want k = 48 ∨ want k = 84 ∨ want k = 45 ∨ want k = 58 := by decide

/-- What a test of the front leaves. -/
def FrontPost (s : ByteArray) (w : World) (e : Ending) (w' : World) : Prop := (∃ b, e = .returned (.bool b) ∧ (b = true ↔ Front s)) ∧ w = w'
theorem FrontPost.no {s : ByteArray} (w : World) (k : Nat) (hk : k < 19) (h : ¬ Fits (want k) (bt s k)) : FrontPost s w (.returned (.bool false)) w :=
  ⟨⟨false, rfl, ⟨fun q => (by cases q), fun q => absurd (q k hk) h⟩⟩, rfl⟩
theorem FrontPost.yes {s : ByteArray} (w : World) (h : Front s) : FrontPost s w (.returned (.bool true)) w := ⟨⟨true, rfl, ⟨fun _ => h, fun _ => rfl⟩⟩, rfl⟩

set_option maxRecDepth 100000 in
set_option maxHeartbeats 2000000 in
theorem front_any (s : ByteArray) (h1 : (19 : Int) ≤ (s.size : Int)) (w : World) : Calls Try.prog 12 #[.string s] w (FrontPost s w) := by
  go_enter Try.func12, Try.ntmps12
  go_wp2
  go_loop [3] (fun i => ∃ k : Nat, k ≤ 19 ∧ i = .int .i64 k ∧ ∀ j, j < k → Fits (want j) (bt s j)) (fun i => 19 - (intOf i).toNat)
  case atStart => exact ⟨0, Nat.zero_le _, rfl, fun j h => by omega⟩
  case round =>
    obtain ⟨k, hk, rfl, hall⟩ := hrel
    have HA : Hid (∀ j, j < k → Fits (want j) (bt s j)) := hall
    clear hall
    have HSTEP : Hid (Fits (want k) (bt s k) → ∀ j, j < k + 1 → Fits (want j) (bt s j)) := fun hf j hj => by
      rcases Nat.lt_succ_iff_lt_or_eq.1 hj with q | rfl
      · exact HA.out j q
      · exact hf
    by_cases hlt : k < 19
    · have hx := fun wx => run_at' s k (by omega) wx
      obtain ⟨c, hc⟩ : ∃ c, c = bt s k := ⟨_, rfl⟩
      rw [← hc] at hx HSTEP
      have HNO : Hid (¬ Fits (want k) c → FrontPost s w (.returned (.bool false)) w) := fun h => FrontPost.no w k hlt (by rw [← hc]; exact h)
      clear hc
      by_cases k1 : k = 4 ∨ k = 7
      · have HW : Hid (want k = 45) := want_dash k k1
        by_cases cc : c = 45
        · have HF : Hid (Fits (want k) c) := by show Fits _ _; rw [HW.out]; exact .inr (.inr ⟨by omega, by omega, cc⟩)
          have c1 : (c == 45) = true := by simp [cc]
          clear cc
          rcases k1 with q | q
          · have b1 : ((k : Int) == 4) = true := by simp; omega
            have b1' : k ≤ 18 := by omega
            have Q : Hid (k = 4) := q
            clear q
            go_wp2
            go_round
            case rel => exact ⟨k + 1, by omega, by go_num, HSTEP.out HF.out⟩
            case measure => simp [intOf]; omega
          · have b1 : ((k : Int) == 4) = false := by simp; omega
            have b2 : ((k : Int) == 7) = true := by simp; omega
            have Q : Hid (k = 7) := q
            clear q
            go_wp2
            go_round
            case rel => exact ⟨k + 1, by omega, by go_num, HSTEP.out HF.out⟩
            case measure => simp [intOf]; omega
        · have HF : Hid (¬ Fits (want k) c) := by
            show ¬ Fits _ _
            rw [HW.out]; unfold Fits; omega
          have c1 : (c == 45) = false := by simp; omega
          clear cc
          rcases k1 with q | q
          · have b1 : ((k : Int) == 4) = true := by simp; omega
            have Q : Hid (k = 4) := q
            clear q
            go_wp2
            go_ret
            exact HNO.out HF.out
          · have b1 : ((k : Int) == 4) = false := by simp; omega
            have b2 : ((k : Int) == 7) = true := by simp; omega
            have Q : Hid (k = 7) := q
            clear q
            go_wp2
            go_ret
            exact HNO.out HF.out
      have b1 : ((k : Int) == 4) = false := by simp; omega
      have b2 : ((k : Int) == 7) = false := by simp; omega
      by_cases k2 : k = 10
      · have HW : Hid (want k = 84) := by show want k = 84; rw [k2]; rfl
        have b3 : ((k : Int) == 10) = true := by simp; omega
        have Q : Hid (k = 10) := k2
        clear k2
        by_cases cc : c = 84
        · have HF : Hid (Fits (want k) c) := by show Fits _ _; rw [HW.out]; exact .inr (.inl ⟨rfl, .inl cc⟩)
          obtain rfl := cc
          go_wp2
          go_round
          case rel => exact ⟨k + 1, by omega, by go_num, HSTEP.out HF.out⟩
          case measure => simp [intOf]; omega
        · have c1 : (c != 84) = true := by simp; omega
          by_cases cc2 : c = 116
          · have HF : Hid (Fits (want k) c) := by show Fits _ _; rw [HW.out]; exact .inr (.inl ⟨rfl, .inr cc2⟩)
            obtain rfl := cc2
            clear cc c1
            go_wp2
            go_round
            case rel => exact ⟨k + 1, by omega, by go_num, HSTEP.out HF.out⟩
            case measure => simp [intOf]; omega
          · have c2 : (c != 116) = true := by simp; omega
            have HF : Hid (¬ Fits (want k) c) := by
              show ¬ Fits _ _
              rw [HW.out]; unfold Fits; omega
            clear cc cc2
            go_wp2
            go_ret
            exact HNO.out HF.out
      have b3 : ((k : Int) == 10) = false := by simp; omega
      by_cases k3 : k = 13 ∨ k = 16
      · have HW : Hid (want k = 58) := want_colon k k3
        by_cases cc : c = 58
        · have HF : Hid (Fits (want k) c) := by show Fits _ _; rw [HW.out]; exact .inr (.inr ⟨by omega, by omega, cc⟩)
          have c1 : (c == 58) = true := by simp [cc]
          clear cc
          rcases k3 with q | q
          · have b4 : ((k : Int) == 13) = true := by simp; omega
            have Q : Hid (k = 13) := q
            clear q
            go_wp2
            go_round
            case rel => exact ⟨k + 1, by omega, by go_num, HSTEP.out HF.out⟩
            case measure => simp [intOf]; omega
          · have b4 : ((k : Int) == 13) = false := by simp; omega
            have b5 : ((k : Int) == 16) = true := by simp; omega
            have Q : Hid (k = 16) := q
            clear q
            go_wp2
            go_round
            case rel => exact ⟨k + 1, by omega, by go_num, HSTEP.out HF.out⟩
            case measure => simp [intOf]; omega
        · have HF : Hid (¬ Fits (want k) c) := by
            show ¬ Fits _ _
            rw [HW.out]; unfold Fits; omega
          have c1 : (c == 58) = false := by simp; omega
          clear cc
          rcases k3 with q | q
          · have b4 : ((k : Int) == 13) = true := by simp; omega
            have Q : Hid (k = 13) := q
            clear q
            go_wp2
            go_ret
            exact HNO.out HF.out
          · have b4 : ((k : Int) == 13) = false := by simp; omega
            have b5 : ((k : Int) == 16) = true := by simp; omega
            have Q : Hid (k = 16) := q
            clear q
            go_wp2
            go_ret
            exact HNO.out HF.out
      have b4 : ((k : Int) == 13) = false := by simp; omega
      have b5 : ((k : Int) == 16) = false := by simp; omega
      have HW : Hid (want k = 48) := want_digit k hlt (by omega) (by omega) (by omega) (by omega) (by omega)
      by_cases dg : Dig c
      · have HD : Hid (Dig c) := dg
        have HF : Hid (Fits (want k) c) := by show Fits _ _; rw [HW.out]; exact .inl ⟨rfl, dg⟩
        clear dg
        go_wp2_with fail
        refine (lawDigit_yes c HD.out.1 HD.out.2 _).mono ?_
        rintro e w2 ⟨rfl, rfl⟩
        go_wp2
        go_round
        case rel => exact ⟨k + 1, by omega, by go_num, HSTEP.out HF.out⟩
        case measure => simp [intOf]; omega
      · have HD : Hid (¬ Dig c) := dg
        have HF : Hid (¬ Fits (want k) c) := by
          show ¬ Fits _ _
          rw [HW.out]
          rintro (⟨_, q⟩ | ⟨q, _⟩ | ⟨q, _⟩)
          · exact dg q
          · omega
          · omega
        clear dg
        go_wp2_with fail
        refine (lawDigit_no c HD.out _).mono ?_
        rintro e w2 ⟨rfl, rfl⟩
        go_wp2
        go_ret
        exact HNO.out HF.out
    · obtain rfl : k = 19 := by omega
      go_wp2
      go_ret
      exact FrontPost.yes w HA.out
end Go.Proofs.Qxb6603790a
