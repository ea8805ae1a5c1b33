import Derived.Test.Qxb6603790aShape
namespace Go.Proofs.Qxb6603790a
open Go.RowKit
set_option linter.unusedVariables false

set_option maxRecDepth 100000 in
set_option maxHeartbeats 8000000 in
theorem model_six (s : ByteArray) (B : Nat) (hB19 : (19 : Int) ≤ (B : Int)) (hs : (s.size : Int) = (B : Int) + 6) (h2 : (B : Int) ≤ 1048570) (hfr : Front s) (hz : bt s (B + 5) ≠ 90 ∧ bt s (B + 5) ≠ 122) (w : World) : Calls Try.prog 7 #[.string s] w (ShapePost s w) := by
  have HSIX : Hid (Shape s ↔ Six (bt s B) (bt s (B + 1)) (bt s (B + 2)) (bt s (B + 3)) (bt s (B + 4)) (bt s (B + 5)) ∧ Mid s B) := shape_six (by omega) (by omega) hfr hz
  have HSZ : Hid ((19 : Int) ≤ (s.size : Int)) := by show _ ≤ _; omega
  have HFR : Hid (Front s) := hfr
  clear hfr
  have hx0 : ∀ wx, (Instr.index 9 (.string s) (.int .i64 (B : Int))).run Try.prog wx = .ok (.int .u8 (bt s B)) wx := fun wx => run_at' s B (by omega) wx
  have hx1 : ∀ wx, (Instr.index 9 (.string s) (.int .i64 ((B : Int) + 1))).run Try.prog wx = .ok (.int .u8 (bt s (B + 1))) wx := fun wx => run_at' s (B + 1) (by omega) wx
  have hx2 : ∀ wx, (Instr.index 9 (.string s) (.int .i64 ((B : Int) + 2))).run Try.prog wx = .ok (.int .u8 (bt s (B + 2))) wx := fun wx => run_at' s (B + 2) (by omega) wx
  have hx3 : ∀ wx, (Instr.index 9 (.string s) (.int .i64 ((B : Int) + 3))).run Try.prog wx = .ok (.int .u8 (bt s (B + 3))) wx := fun wx => run_at' s (B + 3) (by omega) wx
  have hx4 : ∀ wx, (Instr.index 9 (.string s) (.int .i64 ((B : Int) + 4))).run Try.prog wx = .ok (.int .u8 (bt s (B + 4))) wx := fun wx => run_at' s (B + 4) (by omega) wx
  have hx5 : ∀ wx, (Instr.index 9 (.string s) (.int .i64 ((B : Int) + 5))).run Try.prog wx = .ok (.int .u8 (bt s (B + 5))) wx := fun wx => run_at' s (B + 5) (by omega) wx
  obtain ⟨c0, e0⟩ : ∃ c, c = bt s B := ⟨_, rfl⟩
  obtain ⟨c1, e1⟩ : ∃ c, c = bt s (B + 1) := ⟨_, rfl⟩
  obtain ⟨c2, e2⟩ : ∃ c, c = bt s (B + 2) := ⟨_, rfl⟩
  obtain ⟨c3, e3⟩ : ∃ c, c = bt s (B + 3) := ⟨_, rfl⟩
  obtain ⟨c4, e4⟩ : ∃ c, c = bt s (B + 4) := ⟨_, rfl⟩
  obtain ⟨c5, e5⟩ : ∃ c, c = bt s (B + 5) := ⟨_, rfl⟩
  rw [← e5] at hz
  rw [← e0, ← e1, ← e2, ← e3, ← e4, ← e5] at HSIX
  rw [← e0] at hx0
  rw [← e1] at hx1
  rw [← e2] at hx2
  rw [← e3] at hx3
  rw [← e4] at hx4
  rw [← e5] at hx5
  clear e0 e1 e2 e3 e4 e5
  have z1 : (c5 == 90) = false := by simp; omega
  have z2 : (c5 == 122) = false := by simp; omega
  clear hz
  have a1 : (B : Int) + 6 - 1 = (B : Int) + 5 := by omega
  by_cases g0 : c0 = 43 ∨ c0 = 45
  case neg =>
    have HN : Hid (¬ Shape s) := fun q => g0 (HSIX.out.1 q).1.1
    have z3 : (c0 != 43) = true := by simp; omega
    have z4 : (c0 != 45) = true := by simp; omega
    clear g0
    go_enter Try.func7, Try.ntmps7
    go_wp2_with (first | (go_at_call 12; refine (front_yes s HSZ.out HFR.out _).mono ?_; rintro e w2 ⟨rfl, rfl⟩) | (go_at_call 10; refine (lawDigit_yes _ (by with_reducible assumption) (by with_reducible assumption) _).mono ?_; rintro e w2 ⟨rfl, rfl⟩) | (go_at_call 10; refine (lawDigit_no _ (by with_reducible assumption) _).mono ?_; rintro e w2 ⟨rfl, rfl⟩))
    go_ret
    exact ShapePost.no HN.out (Below.refl _ _)
  case pos =>
    rcases g0 with rfl | rfl
    all_goals
      by_cases g3 : c3 = 58
      case neg =>
        have HN : Hid (¬ Shape s) := fun q => g3 (HSIX.out.1 q).1.2.1
        have z3 : (c3 != 58) = true := by simp; omega
        clear g3
        go_enter Try.func7, Try.ntmps7
        go_wp2_with (first | (go_at_call 12; refine (front_yes s HSZ.out HFR.out _).mono ?_; rintro e w2 ⟨rfl, rfl⟩) | (go_at_call 10; refine (lawDigit_yes _ (by with_reducible assumption) (by with_reducible assumption) _).mono ?_; rintro e w2 ⟨rfl, rfl⟩) | (go_at_call 10; refine (lawDigit_no _ (by with_reducible assumption) _).mono ?_; rintro e w2 ⟨rfl, rfl⟩))
        go_ret
        exact ShapePost.no HN.out (Below.refl _ _)
      obtain rfl := g3
      by_cases g1 : Dig c1
      case neg =>
        have HN : Hid (¬ Shape s) := fun q => g1 (HSIX.out.1 q).1.2.2.1
        go_enter Try.func7, Try.ntmps7
        go_wp2_with (first | (go_at_call 12; refine (front_yes s HSZ.out HFR.out _).mono ?_; rintro e w2 ⟨rfl, rfl⟩) | (go_at_call 10; refine (lawDigit_yes _ (by with_reducible assumption) (by with_reducible assumption) _).mono ?_; rintro e w2 ⟨rfl, rfl⟩) | (go_at_call 10; refine (lawDigit_no _ (by with_reducible assumption) _).mono ?_; rintro e w2 ⟨rfl, rfl⟩))
        go_ret
        exact ShapePost.no HN.out (Below.refl _ _)
      obtain ⟨p1, q1⟩ : 48 ≤ c1 ∧ c1 ≤ 57 := g1
      by_cases g2 : Dig c2
      case neg =>
        have HN : Hid (¬ Shape s) := fun q => g2 (HSIX.out.1 q).1.2.2.2.1
        go_enter Try.func7, Try.ntmps7
        go_wp2_with (first | (go_at_call 12; refine (front_yes s HSZ.out HFR.out _).mono ?_; rintro e w2 ⟨rfl, rfl⟩) | (go_at_call 10; refine (lawDigit_yes _ (by with_reducible assumption) (by with_reducible assumption) _).mono ?_; rintro e w2 ⟨rfl, rfl⟩) | (go_at_call 10; refine (lawDigit_no _ (by with_reducible assumption) _).mono ?_; rintro e w2 ⟨rfl, rfl⟩))
        go_ret
        exact ShapePost.no HN.out (Below.refl _ _)
      obtain ⟨p2, q2⟩ : 48 ≤ c2 ∧ c2 ≤ 57 := g2
      by_cases g4 : Dig c4
      case neg =>
        have HN : Hid (¬ Shape s) := fun q => g4 (HSIX.out.1 q).1.2.2.2.2.2.1
        go_enter Try.func7, Try.ntmps7
        go_wp2_with (first | (go_at_call 12; refine (front_yes s HSZ.out HFR.out _).mono ?_; rintro e w2 ⟨rfl, rfl⟩) | (go_at_call 10; refine (lawDigit_yes _ (by with_reducible assumption) (by with_reducible assumption) _).mono ?_; rintro e w2 ⟨rfl, rfl⟩) | (go_at_call 10; refine (lawDigit_no _ (by with_reducible assumption) _).mono ?_; rintro e w2 ⟨rfl, rfl⟩))
        go_ret
        exact ShapePost.no HN.out (Below.refl _ _)
      obtain ⟨p4, q4⟩ : 48 ≤ c4 ∧ c4 ≤ 57 := g4
      by_cases g5 : Dig c5
      case neg =>
        have HN : Hid (¬ Shape s) := fun q => g5 (HSIX.out.1 q).1.2.2.2.2.2.2.2
        go_enter Try.func7, Try.ntmps7
        go_wp2_with (first | (go_at_call 12; refine (front_yes s HSZ.out HFR.out _).mono ?_; rintro e w2 ⟨rfl, rfl⟩) | (go_at_call 10; refine (lawDigit_yes _ (by with_reducible assumption) (by with_reducible assumption) _).mono ?_; rintro e w2 ⟨rfl, rfl⟩) | (go_at_call 10; refine (lawDigit_no _ (by with_reducible assumption) _).mono ?_; rintro e w2 ⟨rfl, rfl⟩))
        go_ret
        exact ShapePost.no HN.out (Below.refl _ _)
      obtain ⟨p5, q5⟩ : 48 ≤ c5 ∧ c5 ≤ 57 := g5
      by_cases gh : 23 < (c1 - 48) * 10 + (c2 - 48)
      · have HN : Hid (¬ Shape s) := fun q => by have := (HSIX.out.1 q).1.2.2.2.2.1; omega
        go_enter Try.func7, Try.ntmps7
        go_wp2_with (first | (go_at_call 12; refine (front_yes s HSZ.out HFR.out _).mono ?_; rintro e w2 ⟨rfl, rfl⟩) | (go_at_call 10; refine (lawDigit_yes _ (by with_reducible assumption) (by with_reducible assumption) _).mono ?_; rintro e w2 ⟨rfl, rfl⟩) | (go_at_call 10; refine (lawDigit_no _ (by with_reducible assumption) _).mono ?_; rintro e w2 ⟨rfl, rfl⟩))
        go_quiet (fail)
        go_wp2
        go_quiet (fail)
        go_wp2
        go_ret
        exact ShapePost.no HN.out (by repeat (first | exact Below.refl _ _ | apply belowDraw))
      by_cases gm : 59 < (c4 - 48) * 10 + (c5 - 48)
      · have HN : Hid (¬ Shape s) := fun q => by have := (HSIX.out.1 q).1.2.2.2.2.2.2.1; omega
        go_enter Try.func7, Try.ntmps7
        go_wp2_with (first | (go_at_call 12; refine (front_yes s HSZ.out HFR.out _).mono ?_; rintro e w2 ⟨rfl, rfl⟩) | (go_at_call 10; refine (lawDigit_yes _ (by with_reducible assumption) (by with_reducible assumption) _).mono ?_; rintro e w2 ⟨rfl, rfl⟩) | (go_at_call 10; refine (lawDigit_no _ (by with_reducible assumption) _).mono ?_; rintro e w2 ⟨rfl, rfl⟩))
        go_quiet (fail)
        go_wp2
        go_quiet (fail)
        go_wp2
        go_ret
        exact ShapePost.no HN.out (by repeat (first | exact Below.refl _ _ | apply belowDraw))
      have HT : Hid (Shape s ↔ Mid s B) := ⟨fun q => (HSIX.out.1 q).2, fun q => HSIX.out.2 ⟨⟨by omega, rfl, ⟨p1, q1⟩, ⟨p2, q2⟩, by omega, ⟨p4, q4⟩, by omega, ⟨p5, q5⟩⟩, q⟩⟩
      by_cases e19 : B = 19
      · have t1 : ((B : Int) == 19) = true := by simp; omega
        have HY : Hid (Shape s) := HT.out.2 (.inl e19)
        clear e19
        go_enter Try.func7, Try.ntmps7
        go_wp2_with (first | (go_at_call 12; refine (front_yes s HSZ.out HFR.out _).mono ?_; rintro e w2 ⟨rfl, rfl⟩) | (go_at_call 10; refine (lawDigit_yes _ (by with_reducible assumption) (by with_reducible assumption) _).mono ?_; rintro e w2 ⟨rfl, rfl⟩) | (go_at_call 10; refine (lawDigit_no _ (by with_reducible assumption) _).mono ?_; rintro e w2 ⟨rfl, rfl⟩))
        go_quiet (fail)
        go_wp2
        go_quiet (fail)
        go_wp2
        go_ret
        exact ShapePost.yes HY.out (by repeat (first | exact Below.refl _ _ | apply belowDraw))
      have t1 : ((B : Int) == 19) = false := by simp; omega
      by_cases d : bt s 19 = 46
      · have hx19 : ∀ wx, (Instr.index 9 (.string s) (.int .i64 19)).run Try.prog wx = .ok (.int .u8 46) wx := fun wx => by
          rw [← d]; exact run_at' s 19 (by omega) wx
        have HD : Hid (bt s 19 = 46) := d
        clear d
        by_cases e20 : B = 20
        · have t2 : ((B : Int) == 20) = true := by simp; omega
          have HN : Hid (¬ Shape s) := fun q => by
            rcases HT.out.1 q with e | ⟨_, e, _⟩
            · omega
            · omega
          clear e20 e19
          go_enter Try.func7, Try.ntmps7
          go_wp2_with (first | (go_at_call 12; refine (front_yes s HSZ.out HFR.out _).mono ?_; rintro e w2 ⟨rfl, rfl⟩) | (go_at_call 10; refine (lawDigit_yes _ (by with_reducible assumption) (by with_reducible assumption) _).mono ?_; rintro e w2 ⟨rfl, rfl⟩) | (go_at_call 10; refine (lawDigit_no _ (by with_reducible assumption) _).mono ?_; rintro e w2 ⟨rfl, rfl⟩))
          go_quiet (fail)
          go_wp2
          go_quiet (fail)
          go_wp2
          go_ret
          exact ShapePost.no HN.out (by repeat (first | exact Below.refl _ _ | apply belowDraw))
        · have t2 : ((B : Int) == 20) = false := by simp; omega
          have hB : 21 ≤ B := by omega
          clear e20 e19
          go_enter Try.func7, Try.ntmps7
          go_wp2_with (first | (go_at_call 12; refine (front_yes s HSZ.out HFR.out _).mono ?_; rintro e w2 ⟨rfl, rfl⟩) | (go_at_call 10; refine (lawDigit_yes _ (by with_reducible assumption) (by with_reducible assumption) _).mono ?_; rintro e w2 ⟨rfl, rfl⟩) | (go_at_call 10; refine (lawDigit_no _ (by with_reducible assumption) _).mono ?_; rintro e w2 ⟨rfl, rfl⟩))
          go_quiet (fail)
          go_wp2
          go_quiet (fail)
          go_wp2
          go_loop [9] (fun i => ∃ k : Nat, 20 ≤ k ∧ k ≤ B ∧ i = .int .i64 k ∧ ∀ j, 20 ≤ j → j < k → Dig (bt s j)) (fun i => B - (intOf i).toNat)
          case atStart => exact ⟨20, Nat.le_refl _, by omega, rfl, fun j h h' => by omega⟩
          case round =>
            obtain ⟨k, hk1, hk2, rfl, hall⟩ := hrel
            have HA : Hid (∀ j, 20 ≤ j → j < k → Dig (bt s j)) := hall
            clear hall
            by_cases hlt : k < B
            · have hx := fun wx => run_at' s k (by omega) wx
              obtain ⟨c, hc⟩ : ∃ c, c = bt s k := ⟨_, rfl⟩
              rw [← hc] at hx
              have HC : Hid (c = bt s k) := hc
              clear hc
              by_cases dg : Dig c
              · have HG : Hid (Dig c) := dg
                clear dg
                go_wp2_with fail
                refine (lawDigit_yes c HG.out.1 HG.out.2 _).mono ?_
                rintro e w2 ⟨rfl, rfl⟩
                go_wp2
                go_round
                case rel =>
                  refine ⟨k + 1, by omega, by omega, by go_num, fun j h h' => ?_⟩
                  rcases Nat.lt_or_ge j k with q | q
                  · exact HA.out j h q
                  · obtain rfl : j = k := by omega
                    rw [← HC.out]; exact HG.out
                case measure => simp [intOf]; omega
              · have HG : Hid (¬ Dig c) := dg
                have HN : Hid (¬ Shape s) := fun q => by
                  rcases HT.out.1 q with e | ⟨_, _, e⟩
                  · omega
                  · exact dg (by rw [HC.out]; exact e k hk1 hlt)
                clear dg
                go_wp2_with fail
                refine (lawDigit_no c HG.out _).mono ?_
                rintro e w2 ⟨rfl, rfl⟩
                go_wp2
                go_ret
                exact ShapePost.no HN.out (by repeat (first | exact Below.refl _ _ | apply belowDraw))
            · obtain rfl : k = B := by omega
              have HY : Hid (Shape s) := HT.out.2 (.inr ⟨HD.out, hB, HA.out⟩)
              go_wp2
              go_ret
              exact ShapePost.yes HY.out (by repeat (first | exact Below.refl _ _ | apply belowDraw))
      · obtain ⟨c19, hc19⟩ : ∃ c, c = bt s 19 := ⟨_, rfl⟩
        have hx19 : ∀ wx, (Instr.index 9 (.string s) (.int .i64 19)).run Try.prog wx = .ok (.int .u8 c19) wx := fun wx => by
          rw [hc19]; exact run_at' s 19 (by omega) wx
        have t2 : (c19 != 46) = true := by rw [hc19]; simpa using d
        have HN : Hid (¬ Shape s) := fun q => by
          rcases HT.out.1 q with e | ⟨e, _⟩
          · exact e19 e
          · exact d e
        clear e19 d hc19
        go_enter Try.func7, Try.ntmps7
        go_wp2_with (first | (go_at_call 12; refine (front_yes s HSZ.out HFR.out _).mono ?_; rintro e w2 ⟨rfl, rfl⟩) | (go_at_call 10; refine (lawDigit_yes _ (by with_reducible assumption) (by with_reducible assumption) _).mono ?_; rintro e w2 ⟨rfl, rfl⟩) | (go_at_call 10; refine (lawDigit_no _ (by with_reducible assumption) _).mono ?_; rintro e w2 ⟨rfl, rfl⟩))
        go_quiet (fail)
        go_wp2
        go_quiet (fail)
        go_wp2
        go_ret
        exact ShapePost.no HN.out (by repeat (first | exact Below.refl _ _ | apply belowDraw))

end Go.Proofs.Qxb6603790a
