import Derived.Test.Qxb6603622aBuild
import Derived.Test.Qxb6603622aShape
namespace Go.Proofs.Qxb6603622a
open Go.RowKit

namespace Plain
theorem sumC_mono (C : Nat → Nat) (a m : Nat) : ∀ k, sumC C a m ≤ sumC C a (m + k) := fun k => by rw [sumC_add]; omega

/-- The children counts as one function, and what the walk asks of it. -/
theorem counts {n : Nat} {K X : Nat → Nat} (S : Shape n K X) : ∃ C : Nat → Nat, (∀ j, j < n → Done K X j (C j)) ∧ sumC C 0 n + 1 = n ∧ ∀ j, j < n → sumC C 0 (j + 1) < n := by
  have h : ∀ j, ∃ c, j < n → Done K X j c := fun j => by
    by_cases hj : j < n
    · obtain ⟨c, hc⟩ := S.done j hj; exact ⟨c, fun _ => hc⟩
    · exact ⟨0, fun h => absurd h hj⟩
  obtain ⟨C, hC⟩ := Classical.skolem.1 h
  have ht := total S C hC
  refine ⟨C, hC, ht, fun j hj => ?_⟩
  have := sumC_mono C 0 (j + 1) (n - (j + 1))
  rw [show j + 1 + (n - (j + 1)) = n from by omega] at this
  omega
end Plain

set_option maxHeartbeats 400000 in
theorem value_at (p : Option Addr) (t : Int) (w : World) :
    Calls Try.prog 9 #[.pointer p, .int .u32 t] w fun e w' => e = .returned (.agg #[.pointer p, .int .u32 t]) ∧ Below w.heap.size w w' := by
  go_enter Try.func9, Try.ntmps9
  go_wp2
  exact bodyPost_ret (v := .agg #[.pointer p, .int .u32 t]) (by simp [results, Try.results9, go_sem]) rfl ⟨rfl, (Below.refl _ _).alloc (Nat.le_refl _) _⟩

set_option maxRecDepth 100000 in
set_option maxHeartbeats 1000000 in
/-- The lengths are too great: true at once. -/
theorem law_long (a0 : Option Addr) (len0 c0 : Nat) (a1 : Option Addr) (len1 c1 : Nat) (h0 : len0 ≤ 9223372036854775807) (h1 : len1 ≤ 9223372036854775807) (h : 65536 < len0 ∨ 65536 < len1) (w : World) :
    Calls Try.prog 4 #[.slice a0 len0 c0, .slice a1 len1 c1] w fun e w' => e = .returned (.bool true) ∧ w' = w := by
  by_cases g0 : 65536 < len0
  · go_enter Try.func4, Try.ntmps4
    go_wp2
    all_goals (go_ret; exact ⟨rfl, rfl⟩)
  · have g1 : 65536 < len1 := by omega
    clear h
    go_enter Try.func4, Try.ntmps4
    go_wp2
    all_goals (go_ret; exact ⟨rfl, rfl⟩)

set_option maxRecDepth 100000 in
set_option maxHeartbeats 1000000 in
/-- The lengths do not fit: true. -/
theorem law_short (a0 : Option Addr) (len0 c0 : Nat) (a1 : Option Addr) (len1 c1 : Nat) (h0 : len0 ≤ 65536) (h1 : len1 ≤ 65536) (h : len0 = 0 ∨ len1 ≠ len0) (w : World) :
    Calls Try.prog 4 #[.slice a0 len0 c0, .slice a1 len1 c1] w fun e w' => e = .returned (.bool true) ∧ w' = w := by
  have HH : Hid (len0 = 0 ∨ len1 ≠ len0) := h
  clear h
  go_enter Try.func4, Try.ntmps4
  go_wp2_with (first | (go_at_call 7; refine (shape_short _ _ _ _ _ _ HH.out (by omega) _).mono ?_; rintro e w' ⟨rfl, rfl⟩) | go_in)
  go_ret
  exact ⟨rfl, rfl⟩

set_option maxRecDepth 100000 in
set_option maxHeartbeats 1000000 in
theorem law_main (b0 o0 c0 b1 o1 c1 n : Nat) (K X : Nat → Nat) (hn : 0 < n) (hn2 : n ≤ 65536) (w : World)
    (hk : ∀ i, i < n → w.cell? ⟨b0, o0 + i, none⟩ = some (.int .u8 (K i))) (hx : ∀ i, i < n → w.cell? ⟨b1, o1 + i, none⟩ = some (.int .u32 (X i)))
    (hb0 : b0 < w.heap.size) (hb1 : b1 < w.heap.size) (hK : ∀ i, K i ≤ 255) (hX : ∀ i, X i ≤ 4294967295) :
    Calls Try.prog 4 #[.slice (some ⟨b0, o0, none⟩) n c0, .slice (some ⟨b1, o1, none⟩) n c1] w fun e w' => e = .returned (.bool true) ∧ Below w.heap.size w w' := by
  have HK : Hid (∀ i, i < n → w.cell? ⟨b0, o0 + i, none⟩ = some (.int .u8 (K i))) := hk
  have HX : Hid (∀ i, i < n → w.cell? ⟨b1, o1 + i, none⟩ = some (.int .u32 (X i))) := hx
  have HK2 : Hid (∀ i, K i ≤ 255) := hK
  have HX2 : Hid (∀ i, X i ≤ 4294967295) := hX
  clear hk hx hK hX
  go_enter Try.func4, Try.ntmps4
  go_wp2_with (first | (go_at_call 11; go_in) | fail)
  refine (shape_main b0 o0 c0 b1 o1 c1 n K X hn hn2 w HK.out HX.out hb0 hb1 HK2.out HX2.out).mono ?_
  rintro e w1 ⟨v, b, rfl, hbel1, hsh⟩
  cases b with
  | false =>
    clear hsh
    go_wp2
    go_ret
    exact ⟨rfl, hbel1⟩
  | true =>
    obtain ⟨C, hC, htot, hlt⟩ := Plain.counts (hsh rfl)
    have S := hsh rfl
    clear hsh
    have hk1 : ∀ i, i < n → w1.cell? ⟨b0, o0 + i, none⟩ = some (.int .u8 (K i)) := fun i hi => (hbel1.cell (p := ⟨b0, o0 + i, none⟩) hb0).trans (HK.out i hi)
    have hx1 : ∀ i, i < n → w1.cell? ⟨b1, o1 + i, none⟩ = some (.int .u32 (X i)) := fun i hi => (hbel1.cell (p := ⟨b1, o1 + i, none⟩) hb1).trans (HX.out i hi)
    have HB : Hid (∀ v : Unit, Calls Try.prog 8 #[.slice (some ⟨b0, o0, none⟩) n c0, .slice (some ⟨b1, o1, none⟩) n c1] w1 fun e w' => ∃ v, e = .returned (.pointer (some ⟨w1.heap.size, 0, none⟩)) ∧ Part w1.heap.size n K X w1 v w') :=
      fun _ => build_any b0 o0 c0 b1 o1 c1 n K X hn2 w1 hk1 hx1 (Nat.lt_of_lt_of_le hb0 hbel1.size) (Nat.lt_of_lt_of_le hb1 hbel1.size)
    have HT : Hid (Plain.sumC C 0 n + 1 = n) := htot
    have HC : Hid (∀ j, j < n → Plain.Done K X j (C j)) := hC
    have HL : Hid (∀ j, j < n → Plain.sumC C 0 (j + 1) < n) := hlt
    clear hk1 hx1 htot hC hlt
    go_wp2_with fail
    refine (HB.out ()).mono ?_
    rintro e w2 ⟨v2, rfl, hp⟩
    obtain ⟨g, cap, hD⟩ := hp.doc hn
    have hbel2 : Below w.heap.size w w2 := hbel1.trans (hp.bel.mono hbel1.size)
    clear hp HB
    go_wp2_with fail
    go_loopw [8, 9] (fun s i wr => ∃ k : Nat, k ≤ n ∧ i = .int .i64 k ∧ s = .int .i64 (Plain.sumC C 0 k : Nat) ∧ Doc (· < wr.heap.size) wr w1.heap.size g cap n K X ∧ Below w.heap.size w wr) (fun _ i _ => n - (intOf i).toNat)
    case atStart => exact ⟨0, Nat.zero_le _, rfl, rfl, hD, hbel2⟩
    case round =>
      clear hD hbel2
      obtain ⟨k, hk1, rfl, rfl, hD, hbel⟩ := hrel
      by_cases hlt : k < n
      · have hkk : wr.cell? ⟨b0, o0 + k, none⟩ = some (.int .u8 (K k)) := (hbel.cell (p := ⟨b0, o0 + k, none⟩) hb0).trans (HK.out k hlt)
        have hsum : Plain.sumC C 0 k + C k < n := by have := HL.out k hlt; simpa [Plain.sumC] using this
        have hd := HC.out k hlt
        have hKk := HK2.out k
        obtain ⟨r, hr, hr2⟩ : ∃ r, ((K k ≠ 6 ∧ Plain.Done K X k r) ∨ (K k = 6 ∧ Plain.Done K X k (2 * r))) ∧ C k = (if K k = 6 then 2 * r else r) := by
          by_cases h6 : K k = 6
          · have := hd.2 h6
            refine ⟨C k / 2, .inr ⟨h6, by rw [show 2 * (C k / 2) = C k from by omega]; exact hd⟩, by rw [if_pos h6]; omega⟩
          · exact ⟨C k, .inl ⟨h6, hd⟩, by rw [if_neg h6]⟩
        have HR := (show Hid ((K k ≠ 6 ∧ Plain.Done K X k r) ∨ (K k = 6 ∧ Plain.Done K X k (2 * r))) from hr)
        clear hr hd
        by_cases h6 : K k = 6
        · rw [if_pos h6] at hr2
          have t1 : (((K k : Nat) : Int) == 6) = true := by simp; omega
          have HE : Hid (Plain.sumC C 0 (k + 1) = Plain.sumC C 0 k + 2 * r) := by show Plain.sumC C 0 k + C (0 + k) = _; rw [Nat.zero_add, hr2]
          have hs2 : Plain.sumC C 0 k + 2 * r < n := by omega
          clear hr2 h6 hsum
          go_wp2_with (first | (go_at_call 9; refine (value_at _ _ _).mono ?_; rintro e w3 ⟨rfl, hb3⟩) | (go_at_call 10; refine (len_any w1.heap.size g cap n k r K X hlt hn2 (by omega) S.nodes HR.out _ (hD.later hb3)).mono ?_; rintro e w4 ⟨rfl, hb4⟩; have hbel4 := (hbel.trans (hb3.mono hbel.size)).trans (hb4.mono (Nat.le_trans hbel.size hb3.size)); have hkk4 := (hbel4.cell (p := ⟨b0, o0 + k, none⟩) hb0).trans (HK.out k hlt)))
          go_roundw
          case rel => exact ⟨k + 1, by omega, by go_num, by rw [HE.out]; go_num, (hD.later hb3).later hb4, hbel4⟩
          case measure => simp [intOf]; omega
        · rw [if_neg h6] at hr2
          have t1 : (((K k : Nat) : Int) == 6) = false := by simp; omega
          have HE : Hid (Plain.sumC C 0 (k + 1) = Plain.sumC C 0 k + r) := by show Plain.sumC C 0 k + C (0 + k) = _; rw [Nat.zero_add, hr2]
          have hs2 : Plain.sumC C 0 k + r < n := by omega
          clear hr2 h6 hsum
          go_wp2_with (first | (go_at_call 9; refine (value_at _ _ _).mono ?_; rintro e w3 ⟨rfl, hb3⟩) | (go_at_call 10; refine (len_any w1.heap.size g cap n k r K X hlt hn2 (by omega) S.nodes HR.out _ (hD.later hb3)).mono ?_; rintro e w4 ⟨rfl, hb4⟩; have hbel4 := (hbel.trans (hb3.mono hbel.size)).trans (hb4.mono (Nat.le_trans hbel.size hb3.size)); have hkk4 := (hbel4.cell (p := ⟨b0, o0 + k, none⟩) hb0).trans (HK.out k hlt)))
          go_roundw
          case rel => exact ⟨k + 1, by omega, by go_num, by rw [HE.out]; go_num, (hD.later hb3).later hb4, hbel4⟩
          case measure => simp [intOf]; omega
      · obtain rfl : k = n := by omega
        have ht := HT.out
        have t1 : (((Plain.sumC C 0 k : Nat) : Int) == (k : Int) - 1) = true := by simp; omega
        clear ht
        go_wp2
        go_ret
        exact ⟨rfl, hbel⟩
end Go.Proofs.Qxb6603622a
