import Derived.Test.Qxb6603790aShape
namespace Go.Proofs.Qxb6603790a
open Go.RowKit
set_option linter.unusedVariables false

set_option maxRecDepth 100000 in
set_option maxHeartbeats 400000 in
theorem model_short (s : ByteArray) (h : (s.size : Int) < 20) (w : World) : Calls Try.prog 7 #[.string s] w (ShapePost s w) := by
  have HN : Hid (¬ Shape s) := fun q => by have := q.1; omega
  go_enter Try.func7, Try.ntmps7
  go_wp2
  go_ret
  exact ShapePost.no HN.out (Below.refl _ _)

set_option maxRecDepth 100000 in
set_option maxHeartbeats 400000 in
theorem model_front (s : ByteArray) (h : (20 : Int) ≤ (s.size : Int)) (h2 : (s.size : Int) ≤ 1048576) (hf : ¬ Front s) (w : World) : Calls Try.prog 7 #[.string s] w (ShapePost s w) := by
  have HN : Hid (¬ Shape s) := fun q => hf q.2.1
  have HF : Hid (¬ Front s) := hf
  clear hf
  go_enter Try.func7, Try.ntmps7
  go_wp2_with fail
  refine (front_no s (by omega) HF.out _).mono ?_
  rintro e w2 ⟨rfl, rfl⟩
  go_wp2
  go_ret
  exact ShapePost.no HN.out (Below.refl _ _)

set_option maxRecDepth 100000 in
set_option maxHeartbeats 4000000 in
theorem model_z (s : ByteArray) (B : Nat) (hB19 : 19 ≤ B) (hs : (s.size : Int) = (B : Int) + 1) (h2 : (B : Int) ≤ 1048575) (hfr : Front s) (hz : bt s B = 90 ∨ bt s B = 122) (w : World) : Calls Try.prog 7 #[.string s] w (ShapePost s w) := by
  have HT : Hid (Shape s ↔ Mid s B) := shape_z hB19 (by omega) hfr hz
  have HSZ : Hid ((19 : Int) ≤ (s.size : Int)) := by show _ ≤ _; omega
  have HFR : Hid (Front s) := hfr
  clear hfr
  obtain ⟨l, hl⟩ : ∃ l, l = bt s B := ⟨_, rfl⟩
  have hxl : ∀ wx, (Instr.index 9 (.string s) (.int .i64 (B : Int))).run Try.prog wx = .ok (.int .u8 l) wx := fun wx => by
    rw [hl]; exact run_at' s B (by omega) wx
  rw [← hl] at hz
  clear hl
  have a1 : (B : Int) + 1 - 1 = (B : Int) := by omega
  rcases hz with rfl | rfl
  all_goals
    by_cases e19 : B = 19
    · have t1 : ((B : Int) == 19) = true := by simp; omega
      have HY : Hid (Shape s) := HT.out.2 (.inl e19)
      clear e19
      go_enter Try.func7, Try.ntmps7
      go_wp2_with (first | (go_at_call 12; refine (front_yes s HSZ.out HFR.out _).mono ?_; rintro e w2 ⟨rfl, rfl⟩) | (go_at_call 10; refine (lawDigit_yes _ (by with_reducible assumption) (by with_reducible assumption) _).mono ?_; rintro e w2 ⟨rfl, rfl⟩) | (go_at_call 10; refine (lawDigit_no _ (by with_reducible assumption) _).mono ?_; rintro e w2 ⟨rfl, rfl⟩))
      go_ret
      exact ShapePost.yes HY.out (Below.refl _ _)
    have t1 : ((B : Int) == 19) = false := by simp; omega
    by_cases d : bt s 19 = 46
    · have hx19 : ∀ wx, (Instr.index 9 (.string s) (.int .i64 19)).run Try.prog wx = .ok (.int .u8 46) wx := fun wx => by
        rw [← d]; exact run_at' s 19 (by omega) wx
      have HD : Hid (bt s 19 = 46) := d
      clear d
      by_cases e20 : B = 20
      · have t2 : ((B : Int) == 20) = true := by simp; omega
        have HN : Hid (¬ Shape s) := fun q => by
          rcases HT.out.1 q with e | ⟨_, e, _⟩
          · omega
          · omega
        clear e20 e19
        go_enter Try.func7, Try.ntmps7
        go_wp2_with (first | (go_at_call 12; refine (front_yes s HSZ.out HFR.out _).mono ?_; rintro e w2 ⟨rfl, rfl⟩) | (go_at_call 10; refine (lawDigit_yes _ (by with_reducible assumption) (by with_reducible assumption) _).mono ?_; rintro e w2 ⟨rfl, rfl⟩) | (go_at_call 10; refine (lawDigit_no _ (by with_reducible assumption) _).mono ?_; rintro e w2 ⟨rfl, rfl⟩))
        go_ret
        exact ShapePost.no HN.out (Below.refl _ _)
      · have t2 : ((B : Int) == 20) = false := by simp; omega
        have hB : 21 ≤ B := by omega
        clear e20 e19
        go_enter Try.func7, Try.ntmps7
        go_wp2_with (first | (go_at_call 12; refine (front_yes s HSZ.out HFR.out _).mono ?_; rintro e w2 ⟨rfl, rfl⟩) | (go_at_call 10; refine (lawDigit_yes _ (by with_reducible assumption) (by with_reducible assumption) _).mono ?_; rintro e w2 ⟨rfl, rfl⟩) | (go_at_call 10; refine (lawDigit_no _ (by with_reducible assumption) _).mono ?_; rintro e w2 ⟨rfl, rfl⟩))
        go_loop [9] (fun i => ∃ k : Nat, 20 ≤ k ∧ k ≤ B ∧ i = .int .i64 k ∧ ∀ j, 20 ≤ j → j < k → Dig (bt s j)) (fun i => B - (intOf i).toNat)
        case atStart => exact ⟨20, Nat.le_refl _, by omega, rfl, fun j h h' => by omega⟩
        case round =>
          obtain ⟨k, hk1, hk2, rfl, hall⟩ := hrel
          have HA : Hid (∀ j, 20 ≤ j → j < k → Dig (bt s j)) := hall
          clear hall
          by_cases hlt : k < B
          · have hx := fun wx => run_at' s k (by omega) wx
            obtain ⟨c, hc⟩ : ∃ c, c = bt s k := ⟨_, rfl⟩
            rw [← hc] at hx
            have HC : Hid (c = bt s k) := hc
            clear hc
            by_cases dg : Dig c
            · have HG : Hid (Dig c) := dg
              clear dg
              go_wp2_with fail
              refine (lawDigit_yes c HG.out.1 HG.out.2 _).mono ?_
              rintro e w2 ⟨rfl, rfl⟩
              go_wp2
              go_round
              case rel =>
                refine ⟨k + 1, by omega, by omega, by go_num, fun j h h' => ?_⟩
                rcases Nat.lt_or_ge j k with q | q
                · exact HA.out j h q
                · obtain rfl : j = k := by omega
                  rw [← HC.out]; exact HG.out
              case measure => simp [intOf]; omega
            · have HG : Hid (¬ Dig c) := dg
              have HN : Hid (¬ Shape s) := fun q => by
                rcases HT.out.1 q with e | ⟨_, _, e⟩
                · omega
                · exact dg (by rw [HC.out]; exact e k hk1 hlt)
              clear dg
              go_wp2_with fail
              refine (lawDigit_no c HG.out _).mono ?_
              rintro e w2 ⟨rfl, rfl⟩
              go_wp2
              go_ret
              exact ShapePost.no HN.out (Below.refl _ _)
          · obtain rfl : k = B := by omega
            have HY : Hid (Shape s) := HT.out.2 (.inr ⟨HD.out, hB, HA.out⟩)
            go_wp2
            go_ret
            exact ShapePost.yes HY.out (Below.refl _ _)
    · obtain ⟨c19, hc19⟩ : ∃ c, c = bt s 19 := ⟨_, rfl⟩
      have hx19 : ∀ wx, (Instr.index 9 (.string s) (.int .i64 19)).run Try.prog wx = .ok (.int .u8 c19) wx := fun wx => by
        rw [hc19]; exact run_at' s 19 (by omega) wx
      have t2 : (c19 != 46) = true := by rw [hc19]; simpa using d
      have HN : Hid (¬ Shape s) := fun q => by
        rcases HT.out.1 q with e | ⟨e, _⟩
        · exact e19 e
        · exact d e
      clear e19 d hc19
      go_enter Try.func7, Try.ntmps7
      go_wp2_with (first | (go_at_call 12; refine (front_yes s HSZ.out HFR.out _).mono ?_; rintro e w2 ⟨rfl, rfl⟩) | (go_at_call 10; refine (lawDigit_yes _ (by with_reducible assumption) (by with_reducible assumption) _).mono ?_; rintro e w2 ⟨rfl, rfl⟩) | (go_at_call 10; refine (lawDigit_no _ (by with_reducible assumption) _).mono ?_; rintro e w2 ⟨rfl, rfl⟩))
      go_ret
      exact ShapePost.no HN.out (Below.refl _ _)

end Go.Proofs.Qxb6603790a
