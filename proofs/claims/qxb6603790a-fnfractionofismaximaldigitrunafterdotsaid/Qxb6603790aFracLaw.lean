import Derived.Test.Qxb6603790aFrac
namespace Go.Proofs.Qxb6603790a
open Go.RowKit
set_option linter.unusedVariables false

/-- Yes, and the world stands. -/
def Yes (w : World) (e : Ending) (w' : World) : Prop := e = .returned (.bool true) ∧ w = w'

theorem zzfrac_dot (s : ByteArray) (h1 : 20 ≤ s.size) (h2 : s.size ≤ 1048576) (hd : bt s 19 = 46) (w : World) :
    Calls Try.prog 9 #[.string s] w fun e w' => ∃ q, e = .returned (.string (s.extract 20 q)) ∧ Run s 20 q ∧ w = w' := by
  have HH : Hid (∀ _ : Unit, Calls Try.prog 13 #[.string s] w fun e w' => ∃ q, e = .returned (.string (s.extract 20 q)) ∧ Run s 20 q ∧ w = w') := fun _ => frac_dot s (s.size - 19) (by omega) (by omega) h2 hd w
  clear hd
  go_enter Try.func9, Try.ntmps9
  go_wp2_with fail
  refine (HH.out ()).mono ?_
  rintro e w1 ⟨q, rfl, hq, rfl⟩
  go_wp2
  go_ret
  exact ⟨q, rfl, hq, rfl⟩

theorem zzfrac_none (s : ByteArray) (h1 : 20 ≤ s.size) (h2 : s.size ≤ 1048576) (hd : bt s 19 ≠ 46) (w : World) :
    Calls Try.prog 9 #[.string s] w fun e w' => e = .returned (.string ⟨#[]⟩) ∧ w = w' := by
  have HH : Hid (∀ _ : Unit, Calls Try.prog 13 #[.string s] w fun e w' => e = .returned (.string ⟨#[]⟩) ∧ w = w') := fun _ => frac_none s h1 h2 hd w
  clear hd
  go_enter Try.func9, Try.ntmps9
  go_wp2_with fail
  refine (HH.out ()).mono ?_
  rintro e w1 ⟨rfl, rfl⟩
  go_wp2
  go_ret
  exact ⟨rfl, rfl⟩

set_option maxRecDepth 100000 in
set_option maxHeartbeats 400000 in
theorem law_long (s : ByteArray) (hm : s.size ≤ 9223372036854775807) (h : 1048576 < (s.size : Int)) (w : World) : Calls Try.prog 4 #[.string s] w (Yes w) := by
  go_enter Try.func4, Try.ntmps4
  go_wp2_with fail
  refine (bytes8_no s (by omega) _).mono ?_
  rintro e w1 ⟨rfl, rfl⟩
  go_wp2
  go_ret
  exact ⟨rfl, rfl⟩

set_option maxRecDepth 100000 in
set_option maxHeartbeats 400000 in
theorem law_short (s : ByteArray) (h : (s.size : Int) ≤ 19) (w : World) : Calls Try.prog 4 #[.string s] w (Yes w) := by
  go_enter Try.func4, Try.ntmps4
  go_wp2_with fail
  refine (bytes8_yes s (by omega) _).mono ?_
  rintro e w1 ⟨rfl, rfl⟩
  go_wp2
  go_ret
  exact ⟨rfl, rfl⟩

set_option maxRecDepth 100000 in
set_option maxHeartbeats 400000 in
theorem law_none (s : ByteArray) (h1 : (20 : Int) ≤ (s.size : Int)) (h2 : (s.size : Int) ≤ 1048576) (hd : bt s 19 ≠ 46) (w : World) : Calls Try.prog 4 #[.string s] w (Yes w) := by
  have HH : Hid (∀ _ : Unit, Calls Try.prog 9 #[.string s] w fun e w' => e = .returned (.string ⟨#[]⟩) ∧ w = w') := fun _ => zzfrac_none s (by omega) (by omega) hd w
  obtain ⟨c, hc⟩ : ∃ c, c = bt s 19 := ⟨_, rfl⟩
  have hx : ∀ wx, (Instr.index 9 (.string s) (.int .i64 19)).run Try.prog wx = .ok (.int .u8 c) wx := fun wx => by
    rw [hc]; exact run_at' s 19 (by omega) wx
  have hc2 : (c == 46) = false := by rw [hc]; simpa using hd
  clear hc hd
  go_enter Try.func4, Try.ntmps4
  go_wp2_with fail
  refine (bytes8_yes s (by omega) _).mono ?_
  rintro e w1 ⟨rfl, rfl⟩
  go_wp2_with fail
  refine (HH.out ()).mono ?_
  rintro e w1 ⟨rfl, rfl⟩
  go_wp2
  go_ret
  exact ⟨rfl, rfl⟩

set_option maxRecDepth 100000 in
set_option maxHeartbeats 1000000 in
theorem law_dot (s : ByteArray) (h1 : (20 : Int) ≤ (s.size : Int)) (h2 : (s.size : Int) ≤ 1048576) (hd : bt s 19 = 46) (w : World) : Calls Try.prog 4 #[.string s] w (Yes w) := by
  have HH : Hid (∀ _ : Unit, Calls Try.prog 9 #[.string s] w fun e w' => ∃ q, e = .returned (.string (s.extract 20 q)) ∧ Run s 20 q ∧ w = w') := fun _ => zzfrac_dot s (by omega) (by omega) hd w
  have hx : ∀ wx, (Instr.index 9 (.string s) (.int .i64 19)).run Try.prog wx = .ok (.int .u8 46) wx := fun wx => by
    rw [← hd]; exact run_at' s 19 (by omega) wx
  clear hd
  have d1 : decide (1048576 < (s.size : Int)) = false := decide_eq_false (by omega)
  have d2 : decide ((s.size : Int) ≤ 19) = false := decide_eq_false (by omega)
  go_enter Try.func4, Try.ntmps4
  go_wp2_with fail
  refine (bytes8_yes s (by omega) _).mono ?_
  rintro e w1 ⟨rfl, rfl⟩
  go_wp2_with fail
  refine (HH.out ()).mono ?_
  rintro e w1 ⟨q, rfl, hrun, rfl⟩
  obtain ⟨f, hf⟩ : ∃ f, f = s.extract 20 q := ⟨_, rfl⟩
  have t1 := hrun.le
  have t2 := hrun.top
  have HRUN : Hid (Run s 20 q) := hrun
  have hfs : (f.size : Int) = (q : Int) - 20 := by rw [hf, ByteArray.size_extract]; omega
  have hsl : ∀ wx, (Instr.slice 9 (.string s) (some (.int .i64 20)) (some (.int .i64 (q : Int))) none).run Try.prog wx = .ok (.string f) wx := fun wx => by
    rw [run_slice_string wx 9 s .i64 .i64 20 q Try.underlying9 (by omega) (by omega) (by omega), hf]; rfl
  have hq : (20 : Int) + ((q : Int) - 20) = (q : Int) := by omega
  have d3 : decide (s.size < q) = false := decide_eq_false (by omega)
  rw [← hf]
  clear hf hrun
  go_wp2
  clear hsl hx hfs hq
  go_loop [5] (fun i => ∃ k : Nat, 20 ≤ k ∧ k ≤ q ∧ i = .int .i64 k) (fun i => q - (intOf i).toNat)
  case atStart => exact ⟨20, Nat.le_refl _, t1, rfl⟩
  case round =>
    obtain ⟨k, hk1, hk2, rfl⟩ := hrel
    by_cases hlt : k < q
    · have hx := fun wx => run_at' s k (by omega) wx
      have HD : Hid (Dig (bt s k)) := HRUN.out.dig k hk1 hlt
      go_wp2_with fail
      refine (lawDigit_yes (bt s k) HD.out.1 HD.out.2 _).mono ?_
      rintro e w2 ⟨rfl, rfl⟩
      go_wp2
      go_round
      case rel => exact ⟨k + 1, by omega, by omega, by go_num⟩
      case measure => simp [intOf]; omega
    · obtain rfl : k = q := by omega
      by_cases hend : k = s.size
      · have HE : Hid (k = s.size) := hend
        have he : ((k : Int) == (s.size : Int)) = true := by simp; omega
        clear hend
        go_wp2
        go_ret
        exact ⟨rfl, rfl⟩
      · have HD : Hid (¬ Dig (bt s k)) := HRUN.out.stop.resolve_left hend
        have he : ((k : Int) == (s.size : Int)) = false := by simp; omega
        have hx := fun wx => run_at' s k (by omega) wx
        clear hend
        go_wp2_with fail
        refine (lawDigit_no (bt s k) HD.out _).mono ?_
        rintro e w2 ⟨rfl, rfl⟩
        go_wp2
        go_ret
        exact ⟨rfl, rfl⟩

theorem law_all (s : ByteArray) (hm : s.size ≤ 9223372036854775807) (w : World) : Calls Try.prog 4 #[.string s] w (Yes w) := by
  by_cases h : 1048576 < (s.size : Int)
  · exact law_long s hm h w
  by_cases h1 : (s.size : Int) ≤ 19
  · exact law_short s h1 w
  by_cases hd : bt s 19 = 46
  · exact law_dot s (by omega) (by omega) hd w
  · exact law_none s (by omega) (by omega) hd w
end Go.Proofs.Qxb6603790a
