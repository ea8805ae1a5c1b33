import Derived.Test.Qxb6603790aText
namespace Go.Proofs.Qxb6603790a
open Go.RowKit
set_option linter.unusedVariables false

/-- The run of digits of a text from place p on ends at q. -/
structure Run (s : ByteArray) (p q : Nat) : Prop where
  le : p ≤ q
  top : q ≤ s.size
  dig : ∀ k, p ≤ k → k < q → Dig (bt s k)
  stop : q = s.size ∨ ¬ Dig (bt s q)

set_option maxRecDepth 100000 in
set_option maxHeartbeats 1000000 in
theorem frac_dot (s : ByteArray) (m : Nat) (hm : s.size = 19 + m) (h1 : 1 ≤ m) (h2 : s.size ≤ 1048576) (hd : bt s 19 = 46) (w : World) :
    Calls Try.prog 13 #[.string s] w fun e w' => ∃ q, e = .returned (.string (s.extract 20 q)) ∧ Run s 20 q ∧ w = w' := by
  have H : Hid (s.size = 19 + m) := hm
  have hmi : (s.size : Int) = 19 + (m : Int) := by omega
  obtain ⟨r, hr⟩ : ∃ r, r = s.extract 19 s.size := ⟨_, rfl⟩
  have HR : Hid (r = s.extract 19 s.size) := hr
  have hsl : ∀ wx, (Instr.slice 9 (.string s) (some (.int .i64 19)) none none).run Try.prog wx = .ok (.string r) wx := fun wx => by
    rw [run_slice_string_from_if wx 9 s .i64 19 Try.underlying9, if_pos ⟨by omega, by omega⟩, hr]; rfl
  have hrs : r.size = m := by rw [hr, ByteArray.size_extract]; omega
  have hri : (r.size : Int) = (m : Int) := by omega
  have HB : Hid (∀ k, k < m → bt r k = bt s (19 + k)) := fun k hk => by rw [hr]; exact bt_extract s 19 s.size k (by omega) (by omega)
  have hx0 : ∀ wx, (Instr.index 9 (.string r) (.int .i64 0)).run Try.prog wx = .ok (.int .u8 46) wx := fun wx => by
    have := run_at' r 0 (by omega) wx
    rw [HB.out 0 (by omega), hd] at this
    exact this
  have HX : Hid (∀ (k : Nat) wx, k < m → (Instr.index 9 (.string r) (.int .i64 k)).run Try.prog wx = .ok (.int .u8 (bt s (19 + k))) wx) := fun k wx hk => by
    rw [← HB.out k hk]; exact run_at' r k (by omega) wx
  have HS : Hid (∀ (k : Nat) wx, 1 ≤ k → k ≤ m → (Instr.slice 9 (.string r) (some (.int .i64 1)) (some (.int .i64 k)) none).run Try.prog wx = .ok (.string (s.extract 20 (19 + k))) wx) := fun k wx hk hk' => by
    rw [run_slice_string wx 9 r .i64 .i64 1 k Try.underlying9 (by omega) (by omega) (by omega), hr]
    show Result.ok (Value.string ((s.extract 19 s.size).extract 1 k)) wx = _
    rw [extract_extract s 19 s.size 1 k (by omega) (by omega)]
  clear hr hm hd
  go_enter Try.func13, Try.ntmps13
  go_wp2
  clear hsl hx0
  go_loop [4] (fun i => ∃ k : Nat, 1 ≤ k ∧ k ≤ m ∧ i = .int .i64 k ∧ ∀ j, 20 ≤ j → j < 19 + k → Dig (bt s j)) (fun i => m - (intOf i).toNat)
  case atStart => exact ⟨1, Nat.le_refl _, h1, rfl, fun j h h' => by omega⟩
  case round =>
    obtain ⟨k, hk1, hk2, rfl, hall⟩ := hrel
    have HA : Hid (∀ j, 20 ≤ j → j < 19 + k → Dig (bt s j)) := hall
    clear hall
    by_cases hlt : k < m
    · have hx := fun wx => HX.out k wx hlt
      obtain ⟨c, hc⟩ : ∃ c, c = bt s (19 + k) := ⟨_, rfl⟩
      rw [← hc] at hx
      have HC : Hid (c = bt s (19 + k)) := hc
      clear hc
      by_cases hdg : Dig c
      · have HD : Hid (Dig c) := hdg
        clear hdg
        go_wp2_with fail
        refine (isDigit_yes c HD.out.1 HD.out.2 _).mono ?_
        rintro e w2 ⟨rfl, rfl⟩
        go_wp2
        go_round
        case rel =>
          refine ⟨k + 1, by omega, by omega, by go_num, fun j h h' => ?_⟩
          rcases Nat.lt_or_ge j (19 + k) with q | q
          · exact HA.out j h q
          · obtain rfl : j = 19 + k := by omega
            rw [← HC.out]; exact HD.out
        case measure => simp [intOf]; omega
      · have HD : Hid (¬ Dig c) := hdg
        clear hdg
        have hs := fun wx => HS.out k wx hk1 hk2
        go_wp2_with fail
        refine (isDigit_no c HD.out _).mono ?_
        rintro e w2 ⟨rfl, rfl⟩
        go_wp2
        go_ret
        exact ⟨19 + k, rfl, ⟨by omega, by rw [H.out]; omega, HA.out, .inr (by rw [← HC.out]; exact HD.out)⟩, rfl⟩
    · have hs := fun wx => HS.out k wx hk1 hk2
      go_wp2
      go_ret
      exact ⟨19 + k, rfl, ⟨by omega, by rw [H.out]; omega, HA.out, .inl (by rw [H.out]; omega)⟩, rfl⟩

set_option maxRecDepth 100000 in
set_option maxHeartbeats 400000 in
theorem frac_none (s : ByteArray) (h1 : 20 ≤ s.size) (h2 : s.size ≤ 1048576) (hd : bt s 19 ≠ 46) (w : World) :
    Calls Try.prog 13 #[.string s] w fun e w' => e = .returned (.string ⟨#[]⟩) ∧ w = w' := by
  obtain ⟨r, hr⟩ : ∃ r, r = s.extract 19 s.size := ⟨_, rfl⟩
  have hsl : ∀ wx, (Instr.slice 9 (.string s) (some (.int .i64 19)) none none).run Try.prog wx = .ok (.string r) wx := fun wx => by
    rw [run_slice_string_from_if wx 9 s .i64 19 Try.underlying9, if_pos ⟨by omega, by omega⟩, hr]; rfl
  have hrs : r.size = s.size - 19 := by rw [hr, ByteArray.size_extract]; omega
  obtain ⟨c, hc⟩ : ∃ c, c = bt s 19 := ⟨_, rfl⟩
  have hx0 : ∀ wx, (Instr.index 9 (.string r) (.int .i64 0)).run Try.prog wx = .ok (.int .u8 c) wx := fun wx => by
    have := run_at' r 0 (by omega) wx
    rw [hr, bt_extract s 19 s.size 0 (by omega) (by omega)] at this
    rw [hr, hc]
    exact this
  have hc2 : (c == 46) = false := by rw [hc]; simpa using hd
  clear hr hrs hc hd
  go_enter Try.func13, Try.ntmps13
  go_wp2
  go_ret
  exact ⟨rfl, rfl⟩
end Go.Proofs.Qxb6603790a
