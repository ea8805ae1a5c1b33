import Derived.Test.Qxb6603790aWords
import Derived.Lib.SlBytesConst
namespace Go.Proofs.Qxb6603790a
open Go.RowKit
set_option linter.unusedVariables false

set_option maxRecDepth 100000 in
set_option maxHeartbeats 400000 in
theorem read_short (s : ByteArray) (h : (s.size : Int) ≤ 19) (w : World) : Calls Try.prog 11 #[.string s] w (ShapePost s w) := by
  have HN : Hid (¬ Shape s) := fun q => by have := q.1; omega
  go_enter Try.func11, Try.ntmps11
  go_wp2
  go_ret
  exact ShapePost.no HN.out (Below.refl _ _)

/-- The row of what is wanted, new at the end of the heap. -/
def laid (w : World) : World := w.alloc (.cells #[.int .u8 48, .int .u8 48, .int .u8 48, .int .u8 48, .int .u8 45, .int .u8 48, .int .u8 48, .int .u8 45, .int .u8 48, .int .u8 48, .int .u8 84, .int .u8 48, .int .u8 48, .int .u8 58, .int .u8 48, .int .u8 48, .int .u8 58, .int .u8 48, .int .u8 48] 5 (19, 20))
theorem laid_cell (w : World) : ∀ k, k < 19 → (laid w).cell? ⟨w.heap.size, k, none⟩ = some (.int .u8 (want k)) := by
  intro k hk
  have : (laid w).heap[w.heap.size]? = some (.cells #[.int .u8 48, .int .u8 48, .int .u8 48, .int .u8 48, .int .u8 45, .int .u8 48, .int .u8 48, .int .u8 45, .int .u8 48, .int .u8 48, .int .u8 84, .int .u8 48, .int .u8 48, .int .u8 58, .int .u8 48, .int .u8 48, .int .u8 58, .int .u8 48, .int .u8 48] 5 (19, 20)) := by
    show (w.heap.push _)[w.heap.size]? = _
    simp
  unfold World.cell?
  rw [this]
  match k, hk with
  | 0, _ => rfl
  | 1, _ => rfl
  | 2, _ => rfl
  | 3, _ => rfl
  | 4, _ => rfl
  | 5, _ => rfl
  | 6, _ => rfl
  | 7, _ => rfl
  | 8, _ => rfl
  | 9, _ => rfl
  | 10, _ => rfl
  | 11, _ => rfl
  | 12, _ => rfl
  | 13, _ => rfl
  | 14, _ => rfl
  | 15, _ => rfl
  | 16, _ => rfl
  | 17, _ => rfl
  | 18, _ => rfl
  | _ + 19, h => exact absurd h (by omega)
theorem laid_below (w : World) : Below w.heap.size w (laid w) := (Below.refl _ w).alloc (Nat.le_refl _) _

/-- One byte more. -/
theorem front_step {s : ByteArray} {k : Nat} (h : ∀ j, j < k → Fits (want j) (bt s j)) (hk : Fits (want k) (bt s k)) : ∀ j, j < k + 1 → Fits (want j) (bt s j) := fun j hj => by
  rcases Nat.lt_succ_iff_lt_or_eq.1 hj with q | rfl
  · exact h j q
  · exact hk

set_option maxRecDepth 100000 in
set_option maxHeartbeats 16000000 in
theorem read_any (s : ByteArray) (h1 : (20 : Int) ≤ (s.size : Int)) (h2 : (s.size : Int) ≤ 1048576) (w : World) : Calls Try.prog 11 #[.string s] w (ShapePost s w) := by
  obtain ⟨W1, hW1⟩ : ∃ W1, W1 = laid w := ⟨_, rfl⟩
  have HCELL : Hid (∀ k, k < 19 → W1.cell? ⟨w.heap.size, k, none⟩ = some (.int .u8 (want k))) := by rw [hW1]; exact laid_cell w
  have HBEL : Hid (Below w.heap.size w W1) := by rw [hW1]; exact laid_below w
  have kc : (convert 25 25 (.slice (some ⟨w.heap.size, 0, none⟩) 19 19)).run Try.prog (w.alloc (.cells #[.int .u8 48, .int .u8 48, .int .u8 48, .int .u8 48, .int .u8 45, .int .u8 48, .int .u8 48, .int .u8 45, .int .u8 48, .int .u8 48, .int .u8 84, .int .u8 48, .int .u8 48, .int .u8 58, .int .u8 48, .int .u8 48, .int .u8 58, .int .u8 48, .int .u8 48] 5)) = .ok (.slice (some ⟨w.heap.size, 0, none⟩) 19 19) W1 := by
    rw [hW1]; exact Lib.run_convert_bytes_const w 25 5 #[.int .u8 48, .int .u8 48, .int .u8 48, .int .u8 48, .int .u8 45, .int .u8 48, .int .u8 48, .int .u8 45, .int .u8 48, .int .u8 48, .int .u8 84, .int .u8 48, .int .u8 48, .int .u8 58, .int .u8 48, .int .u8 48, .int .u8 58, .int .u8 48, .int .u8 48] 19 19 Try.underlying25 Try.underlying5
  clear hW1
  have d1 : decide ((s.size : Int) ≤ 19) = false := decide_eq_false (by omega)
  go_enter Try.func11, Try.ntmps11
  go_wp2
  clear kc
  go_loop [14] (fun i => ∃ k : Nat, k ≤ 19 ∧ i = .int .i64 k ∧ ∀ j, j < k → Fits (want j) (bt s j)) (fun i => 19 - (intOf i).toNat)
  case atStart => exact ⟨0, Nat.zero_le _, rfl, fun j h => by omega⟩
  case round =>
    obtain ⟨k, hk, rfl, hall⟩ := hrel
    have HA : Hid (∀ j, j < k → Fits (want j) (bt s j)) := hall
    clear hall
    by_cases hlt : k < 19
    · have hx := fun wx => run_at' s k (by omega) wx
      have hcell := HCELL.out k hlt
      obtain ⟨c, hc⟩ : ∃ c, c = bt s k := ⟨_, rfl⟩
      obtain ⟨v, hv⟩ : ∃ v, v = want k := ⟨_, rfl⟩
      have HSTEP : Hid (Fits v c → ∀ j, j < k + 1 → Fits (want j) (bt s j)) := fun hf => front_step HA.out (by rw [← hc, ← hv]; exact hf)
      have HNO : Hid (¬ Fits v c → ¬ Shape s) := fun hf q => hf (by rw [hc, hv]; exact q.2.1 k hlt)
      have hvr := want_range k hlt
      rw [← hv] at hcell hvr
      rw [← hc] at hx
      clear hc hv
      rcases hvr with rfl | rfl | rfl | rfl
      · by_cases dg : Dig c
        · have HF : Hid (Fits 48 c) := .inl ⟨rfl, dg⟩
          obtain ⟨p1, q1⟩ : 48 ≤ c ∧ c ≤ 57 := dg
          go_wp2_with (first | (go_at_call 14; refine (isDigit_yes _ (by with_reducible assumption) (by with_reducible assumption) _).mono ?_; rintro e w2 ⟨rfl, rfl⟩) | (go_at_call 14; refine (isDigit_no _ (by with_reducible assumption) _).mono ?_; rintro e w2 ⟨rfl, rfl⟩))
          go_round
          case rel => exact ⟨k + 1, by omega, by go_num, HSTEP.out HF.out⟩
          case measure => simp [intOf]; omega
        · have HN : Hid (¬ Shape s) := HNO.out (by
            rintro (⟨_, q⟩ | ⟨q, _⟩ | ⟨q, _⟩)
            · exact dg q
            · omega
            · omega)
          go_wp2_with (first | (go_at_call 14; refine (isDigit_yes _ (by with_reducible assumption) (by with_reducible assumption) _).mono ?_; rintro e w2 ⟨rfl, rfl⟩) | (go_at_call 14; refine (isDigit_no _ (by with_reducible assumption) _).mono ?_; rintro e w2 ⟨rfl, rfl⟩))
          go_ret
          exact ShapePost.no HN.out HBEL.out
      · by_cases cc : c = 84
        · have HF : Hid (Fits 84 c) := .inr (.inl ⟨rfl, .inl cc⟩)
          obtain rfl := cc
          go_wp2
          go_round
          case rel => exact ⟨k + 1, by omega, by go_num, HSTEP.out HF.out⟩
          case measure => simp [intOf]; omega
        by_cases cc2 : c = 116
        · have HF : Hid (Fits 84 c) := .inr (.inl ⟨rfl, .inr cc2⟩)
          obtain rfl := cc2
          clear cc
          go_wp2
          go_round
          case rel => exact ⟨k + 1, by omega, by go_num, HSTEP.out HF.out⟩
          case measure => simp [intOf]; omega
        · have HN : Hid (¬ Shape s) := HNO.out (by unfold Fits; omega)
          have z1 : (c != 84) = true := by simp; omega
          have z2 : (c != 116) = true := by simp; omega
          clear cc cc2
          go_wp2
          go_ret
          exact ShapePost.no HN.out HBEL.out
      · by_cases cc : c = 45
        · have HF : Hid (Fits 45 c) := .inr (.inr ⟨by omega, by omega, cc⟩)
          obtain rfl := cc
          go_wp2
          go_round
          case rel => exact ⟨k + 1, by omega, by go_num, HSTEP.out HF.out⟩
          case measure => simp [intOf]; omega
        · have HN : Hid (¬ Shape s) := HNO.out (by unfold Fits; omega)
          have z1 : (c != 45) = true := by simp; omega
          clear cc
          go_wp2
          go_ret
          exact ShapePost.no HN.out HBEL.out
      · by_cases cc : c = 58
        · have HF : Hid (Fits 58 c) := .inr (.inr ⟨by omega, by omega, cc⟩)
          obtain rfl := cc
          go_wp2
          go_round
          case rel => exact ⟨k + 1, by omega, by go_num, HSTEP.out HF.out⟩
          case measure => simp [intOf]; omega
        · have HN : Hid (¬ Shape s) := HNO.out (by unfold Fits; omega)
          have z1 : (c != 58) = true := by simp; omega
          clear cc
          go_wp2
          go_ret
          exact ShapePost.no HN.out HBEL.out
    · obtain rfl : k = 19 := by omega
      have HFR : Hid (Front s) := HA.out
      clear HA HCELL
      by_cases hd : bt s 19 = 46
      case neg =>
        obtain ⟨zs, hzs⟩ : ∃ zs, zs = s.extract 19 s.size := ⟨_, rfl⟩
        obtain ⟨m, hm⟩ : ∃ m : Nat, (s.size : Int) = 19 + (m : Int) := ⟨s.size - 19, by omega⟩
        obtain ⟨z, hz⟩ : ∃ z : Nat, z = 19 := ⟨_, rfl⟩
        have HSH : Hid (Shape s ↔ Zone s z) := by rw [hz]; exact shape_plain (by omega) HFR.out hd
        have hms : zs.size = m := by rw [hzs, ByteArray.size_extract]; omega
        have hsl : ∀ wx, (Instr.slice 9 (.string s) (some (.int .i64 19)) none none).run Try.prog wx = .ok (.string zs) wx := fun wx => by
          rw [run_slice_string_from_if wx 9 s .i64 19 Try.underlying9, if_pos ⟨by omega, by omega⟩, hzs]; rfl
        have HBT : Hid (∀ i, i < m → bt zs i = bt s (z + i)) := fun i hi => by rw [hzs, hz]; exact bt_extract s 19 s.size i (by omega) (by omega)
        have hzm : z + m = s.size := by omega
        have hf : ∀ wx, (Instr.index 9 (.string zs) (.int .i64 0)).run Try.prog wx = .ok (.int .u8 (bt zs 0)) wx := fun wx => run_at' zs 0 (by omega) wx
        have hf2 : (bt zs 0 == 46) = false := by rw [HBT.out 0 (by omega), hz]; simpa using hd
        have HZ : Hid (z = 19) := hz
        clear hd hzs hz
        -- the zone: zs, of m bytes, from place z of the text on
        have eZ := eq_one zs 90
        have ez := eq_one zs 122
        by_cases gz : m = 1 ∧ (bt zs 0 = 90 ∨ bt zs 0 = 122)
        · have HY : Hid (Shape s) := HSH.out.2 (.inl ⟨by omega, by have := HBT.out 0 (by omega); rw [Nat.add_zero] at this; rw [← this]; exact gz.2⟩)
          obtain ⟨hm1, gz⟩ := gz
          rcases gz with gz | gz
          · rw [decide_eq_true (show zs.size = 1 ∧ bt zs 0 = ((90 : UInt8).toNat : Int) from ⟨by omega, gz⟩)] at eZ
            clear ez gz hm1
            go_wp2_with (first | (go_at_call 14; refine (isDigit_yes _ (by with_reducible assumption) (by with_reducible assumption) _).mono ?_; rintro e w2 ⟨rfl, rfl⟩) | (go_at_call 14; refine (isDigit_no _ (by with_reducible assumption) _).mono ?_; rintro e w2 ⟨rfl, rfl⟩))
            go_ret
            exact ShapePost.yes HY.out HBEL.out
          · rw [decide_eq_true (show zs.size = 1 ∧ bt zs 0 = ((122 : UInt8).toNat : Int) from ⟨by omega, gz⟩)] at ez
            rw [decide_eq_false (show ¬ (zs.size = 1 ∧ bt zs 0 = ((90 : UInt8).toNat : Int)) from fun q => by have := q.2; rw [gz] at this; exact absurd this (by decide))] at eZ
            clear gz hm1
            go_wp2_with (first | (go_at_call 14; refine (isDigit_yes _ (by with_reducible assumption) (by with_reducible assumption) _).mono ?_; rintro e w2 ⟨rfl, rfl⟩) | (go_at_call 14; refine (isDigit_no _ (by with_reducible assumption) _).mono ?_; rintro e w2 ⟨rfl, rfl⟩))
            go_ret
            exact ShapePost.yes HY.out HBEL.out
        rw [decide_eq_false (show ¬ (zs.size = 1 ∧ bt zs 0 = ((90 : UInt8).toNat : Int)) from fun q => gz ⟨by omega, .inl q.2⟩)] at eZ
        rw [decide_eq_false (show ¬ (zs.size = 1 ∧ bt zs 0 = ((122 : UInt8).toNat : Int)) from fun q => gz ⟨by omega, .inr q.2⟩)] at ez
        by_cases gm : m = 6
        case neg =>
          have HN : Hid (¬ Shape s) := fun q => by
            rcases HSH.out.1 q with ⟨e, e'⟩ | ⟨e, _⟩
            · exact gz ⟨by omega, by have := HBT.out 0 (by omega); rw [Nat.add_zero] at this; rw [this]; exact e'⟩
            · omega
          have z6 : ((m : Int) == 6) = false := by simp; omega
          clear gz gm
          go_wp2_with (first | (go_at_call 14; refine (isDigit_yes _ (by with_reducible assumption) (by with_reducible assumption) _).mono ?_; rintro e w2 ⟨rfl, rfl⟩) | (go_at_call 14; refine (isDigit_no _ (by with_reducible assumption) _).mono ?_; rintro e w2 ⟨rfl, rfl⟩))
          go_ret
          exact ShapePost.no HN.out HBEL.out
        have HSIX : Hid (Shape s ↔ Six (bt zs 0) (bt zs 1) (bt zs 2) (bt zs 3) (bt zs 4) (bt zs 5)) := by
          rw [show bt zs 0 = bt s z from HBT.out 0 (by omega), HBT.out 1 (by omega), HBT.out 2 (by omega), HBT.out 3 (by omega), HBT.out 4 (by omega), HBT.out 5 (by omega)]
          refine HSH.out.trans ⟨fun q => ?_, fun q => .inr ⟨by omega, q⟩⟩
          rcases q with ⟨e, _⟩ | ⟨_, e⟩
          · omega
          · exact e
        have hz0 : ∀ wx, (Instr.index 9 (.string zs) (.int .i64 0)).run Try.prog wx = .ok (.int .u8 (bt zs 0)) wx := fun wx => run_at' zs 0 (by omega) wx
        have hz1 : ∀ wx, (Instr.index 9 (.string zs) (.int .i64 1)).run Try.prog wx = .ok (.int .u8 (bt zs 1)) wx := fun wx => run_at' zs 1 (by omega) wx
        have hz2 : ∀ wx, (Instr.index 9 (.string zs) (.int .i64 2)).run Try.prog wx = .ok (.int .u8 (bt zs 2)) wx := fun wx => run_at' zs 2 (by omega) wx
        have hz3 : ∀ wx, (Instr.index 9 (.string zs) (.int .i64 3)).run Try.prog wx = .ok (.int .u8 (bt zs 3)) wx := fun wx => run_at' zs 3 (by omega) wx
        have hz4 : ∀ wx, (Instr.index 9 (.string zs) (.int .i64 4)).run Try.prog wx = .ok (.int .u8 (bt zs 4)) wx := fun wx => run_at' zs 4 (by omega) wx
        have hz5 : ∀ wx, (Instr.index 9 (.string zs) (.int .i64 5)).run Try.prog wx = .ok (.int .u8 (bt zs 5)) wx := fun wx => run_at' zs 5 (by omega) wx
        have HLE : Hid (Dig (bt zs 1) → Dig (bt zs 2) → binOp .leq 9 (.string (zs.extract 1 3)) (.string ⟨#[50, 51]⟩) = pure (.bool (decide ((bt zs 1 - 48) * 10 + (bt zs 2 - 48) ≤ 23)))) := le_two zs (by omega)
        have hz13 : ∀ wx, (Instr.slice 9 (.string zs) (some (.int .i64 1)) (some (.int .i64 3)) none).run Try.prog wx = .ok (.string (zs.extract 1 3)) wx := fun wx => by
          rw [run_slice_string wx 9 zs .i64 .i64 1 3 Try.underlying9 (by omega) (by omega) (by omega)]; rfl
        obtain ⟨t2, ht2⟩ : ∃ t, t = zs.extract 1 3 := ⟨_, rfl⟩
        rw [← ht2] at HLE hz13
        clear ht2
        obtain ⟨c0, e0⟩ : ∃ c, c = bt zs 0 := ⟨_, rfl⟩
        obtain ⟨c1, e1⟩ : ∃ c, c = bt zs 1 := ⟨_, rfl⟩
        obtain ⟨c2, e2⟩ : ∃ c, c = bt zs 2 := ⟨_, rfl⟩
        obtain ⟨c3, e3⟩ : ∃ c, c = bt zs 3 := ⟨_, rfl⟩
        obtain ⟨c4, e4⟩ : ∃ c, c = bt zs 4 := ⟨_, rfl⟩
        obtain ⟨c5, e5⟩ : ∃ c, c = bt zs 5 := ⟨_, rfl⟩
        rw [← e0, ← e1, ← e2, ← e3, ← e4, ← e5] at HSIX
        rw [← e1, ← e2] at HLE
        rw [← e0] at hz0
        rw [← e1] at hz1
        rw [← e2] at hz2
        rw [← e3] at hz3
        rw [← e4] at hz4
        rw [← e5] at hz5
        rw [← e0] at hf2
        clear hf
        have z6 : ((m : Int) == 6) = true := by simp; omega
        have HM : Hid (m = 6) := gm
        clear e0 e1 e2 e3 e4 e5 gm gz
        by_cases g0 : c0 = 43 ∨ c0 = 45
        case neg =>
          have HN : Hid (¬ Shape s) := fun q => g0 (HSIX.out.1 q).1
          have y1 : (c0 == 43) = false := by simp; omega
          have y2 : (c0 == 45) = false := by simp; omega
          clear g0
          go_wp2_with (first | (go_at_call 14; refine (isDigit_yes _ (by with_reducible assumption) (by with_reducible assumption) _).mono ?_; rintro e w2 ⟨rfl, rfl⟩) | (go_at_call 14; refine (isDigit_no _ (by with_reducible assumption) _).mono ?_; rintro e w2 ⟨rfl, rfl⟩))
          go_ret
          exact ShapePost.no HN.out HBEL.out
        rcases g0 with rfl | rfl
        all_goals
          by_cases g3 : c3 = 58
          case neg =>
            have HN : Hid (¬ Shape s) := fun q => g3 (HSIX.out.1 q).2.1
            have y1 : (c3 == 58) = false := by simp; omega
            clear g3
            go_wp2_with (first | (go_at_call 14; refine (isDigit_yes _ (by with_reducible assumption) (by with_reducible assumption) _).mono ?_; rintro e w2 ⟨rfl, rfl⟩) | (go_at_call 14; refine (isDigit_no _ (by with_reducible assumption) _).mono ?_; rintro e w2 ⟨rfl, rfl⟩))
            go_ret
            exact ShapePost.no HN.out HBEL.out
          obtain rfl := g3
          by_cases g1 : Dig c1
          case neg =>
            have HN : Hid (¬ Shape s) := fun q => g1 (HSIX.out.1 q).2.2.1
            go_wp2_with (first | (go_at_call 14; refine (isDigit_yes _ (by with_reducible assumption) (by with_reducible assumption) _).mono ?_; rintro e w2 ⟨rfl, rfl⟩) | (go_at_call 14; refine (isDigit_no _ (by with_reducible assumption) _).mono ?_; rintro e w2 ⟨rfl, rfl⟩))
            go_ret
            exact ShapePost.no HN.out HBEL.out
          by_cases g2 : Dig c2
          case neg =>
            have HN : Hid (¬ Shape s) := fun q => g2 (HSIX.out.1 q).2.2.2.1
            obtain ⟨p1, q1⟩ : 48 ≤ c1 ∧ c1 ≤ 57 := g1
            go_wp2_with (first | (go_at_call 14; refine (isDigit_yes _ (by with_reducible assumption) (by with_reducible assumption) _).mono ?_; rintro e w2 ⟨rfl, rfl⟩) | (go_at_call 14; refine (isDigit_no _ (by with_reducible assumption) _).mono ?_; rintro e w2 ⟨rfl, rfl⟩))
            go_ret
            exact ShapePost.no HN.out HBEL.out
          have hle := HLE.out g1 g2
          obtain ⟨p1, q1⟩ : 48 ≤ c1 ∧ c1 ≤ 57 := g1
          obtain ⟨p2, q2⟩ : 48 ≤ c2 ∧ c2 ≤ 57 := g2
          by_cases gh : (c1 - 48) * 10 + (c2 - 48) ≤ 23
          case neg =>
            have HN : Hid (¬ Shape s) := fun q => gh (HSIX.out.1 q).2.2.2.2.1
            rw [decide_eq_false gh] at hle
            clear gh
            go_wp2_with (first | (go_at_call 14; refine (isDigit_yes _ (by with_reducible assumption) (by with_reducible assumption) _).mono ?_; rintro e w2 ⟨rfl, rfl⟩) | (go_at_call 14; refine (isDigit_no _ (by with_reducible assumption) _).mono ?_; rintro e w2 ⟨rfl, rfl⟩))
            go_ret
            exact ShapePost.no HN.out HBEL.out
          rw [decide_eq_true gh] at hle
          have GH : Hid ((c1 - 48) * 10 + (c2 - 48) ≤ 23) := gh
          clear gh
          by_cases g4 : 48 ≤ c4
          case neg =>
            have HN : Hid (¬ Shape s) := fun q => g4 (HSIX.out.1 q).2.2.2.2.2.1.1
            go_wp2_with (first | (go_at_call 14; refine (isDigit_yes _ (by with_reducible assumption) (by with_reducible assumption) _).mono ?_; rintro e w2 ⟨rfl, rfl⟩) | (go_at_call 14; refine (isDigit_no _ (by with_reducible assumption) _).mono ?_; rintro e w2 ⟨rfl, rfl⟩))
            go_ret
            exact ShapePost.no HN.out HBEL.out
          by_cases g4' : c4 ≤ 53
          case neg =>
            have HN : Hid (¬ Shape s) := fun q => g4' (HSIX.out.1 q).2.2.2.2.2.2.1
            go_wp2_with (first | (go_at_call 14; refine (isDigit_yes _ (by with_reducible assumption) (by with_reducible assumption) _).mono ?_; rintro e w2 ⟨rfl, rfl⟩) | (go_at_call 14; refine (isDigit_no _ (by with_reducible assumption) _).mono ?_; rintro e w2 ⟨rfl, rfl⟩))
            go_ret
            exact ShapePost.no HN.out HBEL.out
          by_cases g5 : Dig c5
          case neg =>
            have HN : Hid (¬ Shape s) := fun q => g5 (HSIX.out.1 q).2.2.2.2.2.2.2
            go_wp2_with (first | (go_at_call 14; refine (isDigit_yes _ (by with_reducible assumption) (by with_reducible assumption) _).mono ?_; rintro e w2 ⟨rfl, rfl⟩) | (go_at_call 14; refine (isDigit_no _ (by with_reducible assumption) _).mono ?_; rintro e w2 ⟨rfl, rfl⟩))
            go_ret
            exact ShapePost.no HN.out HBEL.out
          have HY : Hid (Shape s) := HSIX.out.2 ⟨by omega, rfl, ⟨p1, q1⟩, ⟨p2, q2⟩, GH.out, ⟨g4, by omega⟩, g4', g5⟩
          obtain ⟨p5, q5⟩ : 48 ≤ c5 ∧ c5 ≤ 57 := g5
          go_wp2_with (first | (go_at_call 14; refine (isDigit_yes _ (by with_reducible assumption) (by with_reducible assumption) _).mono ?_; rintro e w2 ⟨rfl, rfl⟩) | (go_at_call 14; refine (isDigit_no _ (by with_reducible assumption) _).mono ?_; rintro e w2 ⟨rfl, rfl⟩))
          go_ret
          exact ShapePost.yes HY.out HBEL.out
      case pos =>
        obtain ⟨zs0, hzs0⟩ : ∃ zs, zs = s.extract 19 s.size := ⟨_, rfl⟩
        obtain ⟨m0, hm0⟩ : ∃ m : Nat, (s.size : Int) = 19 + (m : Int) := ⟨s.size - 19, by omega⟩
        have hms0 : zs0.size = m0 := by rw [hzs0, ByteArray.size_extract]; omega
        have HCALL : Hid (∀ _ : Unit, Calls Try.prog 13 #[.string s] W1 fun e w' => ∃ q, e = .returned (.string (s.extract 20 q)) ∧ Run s 20 q ∧ W1 = w') := fun _ => frac_dot s m0 (by omega) (by omega) (by omega) hd W1
        have hsl : ∀ wx, (Instr.slice 9 (.string s) (some (.int .i64 19)) none none).run Try.prog wx = .ok (.string zs0) wx := fun wx => by
          rw [run_slice_string_from_if wx 9 s .i64 19 Try.underlying9, if_pos ⟨by omega, by omega⟩, hzs0]; rfl
        have hf : ∀ wx, (Instr.index 9 (.string zs0) (.int .i64 0)).run Try.prog wx = .ok (.int .u8 46) wx := fun wx => by
          have := run_at' zs0 0 (by omega) wx
          rw [show bt zs0 0 = 46 from by rw [hzs0, bt_extract s 19 s.size 0 (by omega) (by omega)]; exact hd] at this
          exact this
        have HD : Hid (bt s 19 = 46) := hd
        have HZS0 : Hid (zs0 = s.extract 19 s.size) := hzs0
        have HM0 : Hid ((s.size : Int) = 19 + (m0 : Int)) := hm0
        have HMS0 : Hid (zs0.size = m0) := hms0
        clear hd hzs0 hm0 hms0
        go_wp2_with fail
        refine (HCALL.out ()).mono ?_
        rintro e w2 ⟨z, rfl, hrun, rfl⟩
        clear hsl hf
        have hm0 := HM0.out
        have hms0 := HMS0.out
        have t1 := hrun.le
        have t2 := hrun.top
        have HSH0 : Hid (Shape s ↔ 21 ≤ z ∧ Zone s z) := shape_dot (by omega) HFR.out HD.out hrun
        obtain ⟨f, hf⟩ : ∃ f, f = s.extract 20 z := ⟨_, rfl⟩
        obtain ⟨fl, hfl⟩ : ∃ fl : Nat, z = 20 + fl := ⟨z - 20, by omega⟩
        have hfs : f.size = fl := by rw [hf, ByteArray.size_extract]; omega
        rw [← hf]
        clear hf hrun
        have e0 := eq_none f
        by_cases gf : fl = 0
        · have HN : Hid (¬ Shape s) := fun q => by have := (HSH0.out.1 q).1; omega
          rw [decide_eq_true (show f.size = 0 from by omega)] at e0
          clear gf hfs hfl hm0 hms0
          go_wp2
          go_ret
          exact ShapePost.no HN.out HBEL.out
        rw [decide_eq_false (show ¬ f.size = 0 from by omega)] at e0
        have HSH : Hid (Shape s ↔ Zone s z) := HSH0.out.trans ⟨fun q => q.2, fun q => ⟨by omega, q⟩⟩
        obtain ⟨m, hm⟩ : ∃ m : Nat, s.size = z + m := ⟨s.size - z, by omega⟩
        obtain ⟨zs, hzs⟩ : ∃ zs, zs = s.extract z s.size := ⟨_, rfl⟩
        have hms : zs.size = m := by rw [hzs, ByteArray.size_extract]; omega
        have hsl2 : ∀ wx, (Instr.slice 9 (.string zs0) (some (.int .i64 (1 + (fl : Int)))) none none).run Try.prog wx = .ok (.string zs) wx := fun wx => by
          rw [run_slice_string_from_if wx 9 zs0 .i64 (1 + (fl : Int)) Try.underlying9, if_pos ⟨by omega, by omega⟩, show (1 + (fl : Int)).toNat = 1 + fl from by omega, hms0, HZS0.out, extract_extract s 19 s.size (1 + fl) m0 (by omega) (by omega), hzs, show 19 + (1 + fl) = z from by omega, show 19 + m0 = s.size from by omega]
        have HBT : Hid (∀ i, i < m → bt zs i = bt s (z + i)) := fun i hi => by rw [hzs]; exact bt_extract s z s.size i (by omega) (by omega)
        have hzm : z + m = s.size := by omega
        have hfi : (f.size : Int) = (fl : Int) := by omega
        have HFL : Hid (z = 20 + fl) := hfl
        have HMZ : Hid (s.size = z + m) := hm
        have b1 : (fl : Int) ≤ 1048576 := by omega
        clear hzs hfl gf hms0 hm0 hfs hm
        -- the zone: zs, of m bytes, from place z of the text on
        have eZ := eq_one zs 90
        have ez := eq_one zs 122
        by_cases gz : m = 1 ∧ (bt zs 0 = 90 ∨ bt zs 0 = 122)
        · have HY : Hid (Shape s) := HSH.out.2 (.inl ⟨by omega, by have := HBT.out 0 (by omega); rw [Nat.add_zero] at this; rw [← this]; exact gz.2⟩)
          obtain ⟨hm1, gz⟩ := gz
          rcases gz with gz | gz
          · rw [decide_eq_true (show zs.size = 1 ∧ bt zs 0 = ((90 : UInt8).toNat : Int) from ⟨by omega, gz⟩)] at eZ
            clear ez gz hm1
            go_wp2_with (first | (go_at_call 14; refine (isDigit_yes _ (by with_reducible assumption) (by with_reducible assumption) _).mono ?_; rintro e w2 ⟨rfl, rfl⟩) | (go_at_call 14; refine (isDigit_no _ (by with_reducible assumption) _).mono ?_; rintro e w2 ⟨rfl, rfl⟩))
            go_ret
            exact ShapePost.yes HY.out HBEL.out
          · rw [decide_eq_true (show zs.size = 1 ∧ bt zs 0 = ((122 : UInt8).toNat : Int) from ⟨by omega, gz⟩)] at ez
            rw [decide_eq_false (show ¬ (zs.size = 1 ∧ bt zs 0 = ((90 : UInt8).toNat : Int)) from fun q => by have := q.2; rw [gz] at this; exact absurd this (by decide))] at eZ
            clear gz hm1
            go_wp2_with (first | (go_at_call 14; refine (isDigit_yes _ (by with_reducible assumption) (by with_reducible assumption) _).mono ?_; rintro e w2 ⟨rfl, rfl⟩) | (go_at_call 14; refine (isDigit_no _ (by with_reducible assumption) _).mono ?_; rintro e w2 ⟨rfl, rfl⟩))
            go_ret
            exact ShapePost.yes HY.out HBEL.out
        rw [decide_eq_false (show ¬ (zs.size = 1 ∧ bt zs 0 = ((90 : UInt8).toNat : Int)) from fun q => gz ⟨by omega, .inl q.2⟩)] at eZ
        rw [decide_eq_false (show ¬ (zs.size = 1 ∧ bt zs 0 = ((122 : UInt8).toNat : Int)) from fun q => gz ⟨by omega, .inr q.2⟩)] at ez
        by_cases gm : m = 6
        case neg =>
          have HN : Hid (¬ Shape s) := fun q => by
            rcases HSH.out.1 q with ⟨e, e'⟩ | ⟨e, _⟩
            · exact gz ⟨by omega, by have := HBT.out 0 (by omega); rw [Nat.add_zero] at this; rw [this]; exact e'⟩
            · omega
          have z6 : ((m : Int) == 6) = false := by simp; omega
          clear gz gm
          go_wp2_with (first | (go_at_call 14; refine (isDigit_yes _ (by with_reducible assumption) (by with_reducible assumption) _).mono ?_; rintro e w2 ⟨rfl, rfl⟩) | (go_at_call 14; refine (isDigit_no _ (by with_reducible assumption) _).mono ?_; rintro e w2 ⟨rfl, rfl⟩))
          go_ret
          exact ShapePost.no HN.out HBEL.out
        have HSIX : Hid (Shape s ↔ Six (bt zs 0) (bt zs 1) (bt zs 2) (bt zs 3) (bt zs 4) (bt zs 5)) := by
          rw [show bt zs 0 = bt s z from HBT.out 0 (by omega), HBT.out 1 (by omega), HBT.out 2 (by omega), HBT.out 3 (by omega), HBT.out 4 (by omega), HBT.out 5 (by omega)]
          refine HSH.out.trans ⟨fun q => ?_, fun q => .inr ⟨by omega, q⟩⟩
          rcases q with ⟨e, _⟩ | ⟨_, e⟩
          · omega
          · exact e
        have hz0 : ∀ wx, (Instr.index 9 (.string zs) (.int .i64 0)).run Try.prog wx = .ok (.int .u8 (bt zs 0)) wx := fun wx => run_at' zs 0 (by omega) wx
        have hz1 : ∀ wx, (Instr.index 9 (.string zs) (.int .i64 1)).run Try.prog wx = .ok (.int .u8 (bt zs 1)) wx := fun wx => run_at' zs 1 (by omega) wx
        have hz2 : ∀ wx, (Instr.index 9 (.string zs) (.int .i64 2)).run Try.prog wx = .ok (.int .u8 (bt zs 2)) wx := fun wx => run_at' zs 2 (by omega) wx
        have hz3 : ∀ wx, (Instr.index 9 (.string zs) (.int .i64 3)).run Try.prog wx = .ok (.int .u8 (bt zs 3)) wx := fun wx => run_at' zs 3 (by omega) wx
        have hz4 : ∀ wx, (Instr.index 9 (.string zs) (.int .i64 4)).run Try.prog wx = .ok (.int .u8 (bt zs 4)) wx := fun wx => run_at' zs 4 (by omega) wx
        have hz5 : ∀ wx, (Instr.index 9 (.string zs) (.int .i64 5)).run Try.prog wx = .ok (.int .u8 (bt zs 5)) wx := fun wx => run_at' zs 5 (by omega) wx
        have HLE : Hid (Dig (bt zs 1) → Dig (bt zs 2) → binOp .leq 9 (.string (zs.extract 1 3)) (.string ⟨#[50, 51]⟩) = pure (.bool (decide ((bt zs 1 - 48) * 10 + (bt zs 2 - 48) ≤ 23)))) := le_two zs (by omega)
        have hz13 : ∀ wx, (Instr.slice 9 (.string zs) (some (.int .i64 1)) (some (.int .i64 3)) none).run Try.prog wx = .ok (.string (zs.extract 1 3)) wx := fun wx => by
          rw [run_slice_string wx 9 zs .i64 .i64 1 3 Try.underlying9 (by omega) (by omega) (by omega)]; rfl
        obtain ⟨t2, ht2⟩ : ∃ t, t = zs.extract 1 3 := ⟨_, rfl⟩
        rw [← ht2] at HLE hz13
        clear ht2
        obtain ⟨c0, e0⟩ : ∃ c, c = bt zs 0 := ⟨_, rfl⟩
        obtain ⟨c1, e1⟩ : ∃ c, c = bt zs 1 := ⟨_, rfl⟩
        obtain ⟨c2, e2⟩ : ∃ c, c = bt zs 2 := ⟨_, rfl⟩
        obtain ⟨c3, e3⟩ : ∃ c, c = bt zs 3 := ⟨_, rfl⟩
        obtain ⟨c4, e4⟩ : ∃ c, c = bt zs 4 := ⟨_, rfl⟩
        obtain ⟨c5, e5⟩ : ∃ c, c = bt zs 5 := ⟨_, rfl⟩
        rw [← e0, ← e1, ← e2, ← e3, ← e4, ← e5] at HSIX
        rw [← e1, ← e2] at HLE
        rw [← e0] at hz0
        rw [← e1] at hz1
        rw [← e2] at hz2
        rw [← e3] at hz3
        rw [← e4] at hz4
        rw [← e5] at hz5
        have z6 : ((m : Int) == 6) = true := by simp; omega
        have HM : Hid (m = 6) := gm
        clear e0 e1 e2 e3 e4 e5 gm gz
        by_cases g0 : c0 = 43 ∨ c0 = 45
        case neg =>
          have HN : Hid (¬ Shape s) := fun q => g0 (HSIX.out.1 q).1
          have y1 : (c0 == 43) = false := by simp; omega
          have y2 : (c0 == 45) = false := by simp; omega
          clear g0
          go_wp2_with (first | (go_at_call 14; refine (isDigit_yes _ (by with_reducible assumption) (by with_reducible assumption) _).mono ?_; rintro e w2 ⟨rfl, rfl⟩) | (go_at_call 14; refine (isDigit_no _ (by with_reducible assumption) _).mono ?_; rintro e w2 ⟨rfl, rfl⟩))
          go_ret
          exact ShapePost.no HN.out HBEL.out
        rcases g0 with rfl | rfl
        all_goals
          by_cases g3 : c3 = 58
          case neg =>
            have HN : Hid (¬ Shape s) := fun q => g3 (HSIX.out.1 q).2.1
            have y1 : (c3 == 58) = false := by simp; omega
            clear g3
            go_wp2_with (first | (go_at_call 14; refine (isDigit_yes _ (by with_reducible assumption) (by with_reducible assumption) _).mono ?_; rintro e w2 ⟨rfl, rfl⟩) | (go_at_call 14; refine (isDigit_no _ (by with_reducible assumption) _).mono ?_; rintro e w2 ⟨rfl, rfl⟩))
            go_ret
            exact ShapePost.no HN.out HBEL.out
          obtain rfl := g3
          by_cases g1 : Dig c1
          case neg =>
            have HN : Hid (¬ Shape s) := fun q => g1 (HSIX.out.1 q).2.2.1
            go_wp2_with (first | (go_at_call 14; refine (isDigit_yes _ (by with_reducible assumption) (by with_reducible assumption) _).mono ?_; rintro e w2 ⟨rfl, rfl⟩) | (go_at_call 14; refine (isDigit_no _ (by with_reducible assumption) _).mono ?_; rintro e w2 ⟨rfl, rfl⟩))
            go_ret
            exact ShapePost.no HN.out HBEL.out
          by_cases g2 : Dig c2
          case neg =>
            have HN : Hid (¬ Shape s) := fun q => g2 (HSIX.out.1 q).2.2.2.1
            obtain ⟨p1, q1⟩ : 48 ≤ c1 ∧ c1 ≤ 57 := g1
            go_wp2_with (first | (go_at_call 14; refine (isDigit_yes _ (by with_reducible assumption) (by with_reducible assumption) _).mono ?_; rintro e w2 ⟨rfl, rfl⟩) | (go_at_call 14; refine (isDigit_no _ (by with_reducible assumption) _).mono ?_; rintro e w2 ⟨rfl, rfl⟩))
            go_ret
            exact ShapePost.no HN.out HBEL.out
          have hle := HLE.out g1 g2
          obtain ⟨p1, q1⟩ : 48 ≤ c1 ∧ c1 ≤ 57 := g1
          obtain ⟨p2, q2⟩ : 48 ≤ c2 ∧ c2 ≤ 57 := g2
          by_cases gh : (c1 - 48) * 10 + (c2 - 48) ≤ 23
          case neg =>
            have HN : Hid (¬ Shape s) := fun q => gh (HSIX.out.1 q).2.2.2.2.1
            rw [decide_eq_false gh] at hle
            clear gh
            go_wp2_with (first | (go_at_call 14; refine (isDigit_yes _ (by with_reducible assumption) (by with_reducible assumption) _).mono ?_; rintro e w2 ⟨rfl, rfl⟩) | (go_at_call 14; refine (isDigit_no _ (by with_reducible assumption) _).mono ?_; rintro e w2 ⟨rfl, rfl⟩))
            go_ret
            exact ShapePost.no HN.out HBEL.out
          rw [decide_eq_true gh] at hle
          have GH : Hid ((c1 - 48) * 10 + (c2 - 48) ≤ 23) := gh
          clear gh
          by_cases g4 : 48 ≤ c4
          case neg =>
            have HN : Hid (¬ Shape s) := fun q => g4 (HSIX.out.1 q).2.2.2.2.2.1.1
            go_wp2_with (first | (go_at_call 14; refine (isDigit_yes _ (by with_reducible assumption) (by with_reducible assumption) _).mono ?_; rintro e w2 ⟨rfl, rfl⟩) | (go_at_call 14; refine (isDigit_no _ (by with_reducible assumption) _).mono ?_; rintro e w2 ⟨rfl, rfl⟩))
            go_ret
            exact ShapePost.no HN.out HBEL.out
          by_cases g4' : c4 ≤ 53
          case neg =>
            have HN : Hid (¬ Shape s) := fun q => g4' (HSIX.out.1 q).2.2.2.2.2.2.1
            go_wp2_with (first | (go_at_call 14; refine (isDigit_yes _ (by with_reducible assumption) (by with_reducible assumption) _).mono ?_; rintro e w2 ⟨rfl, rfl⟩) | (go_at_call 14; refine (isDigit_no _ (by with_reducible assumption) _).mono ?_; rintro e w2 ⟨rfl, rfl⟩))
            go_ret
            exact ShapePost.no HN.out HBEL.out
          by_cases g5 : Dig c5
          case neg =>
            have HN : Hid (¬ Shape s) := fun q => g5 (HSIX.out.1 q).2.2.2.2.2.2.2
            go_wp2_with (first | (go_at_call 14; refine (isDigit_yes _ (by with_reducible assumption) (by with_reducible assumption) _).mono ?_; rintro e w2 ⟨rfl, rfl⟩) | (go_at_call 14; refine (isDigit_no _ (by with_reducible assumption) _).mono ?_; rintro e w2 ⟨rfl, rfl⟩))
            go_ret
            exact ShapePost.no HN.out HBEL.out
          have HY : Hid (Shape s) := HSIX.out.2 ⟨by omega, rfl, ⟨p1, q1⟩, ⟨p2, q2⟩, GH.out, ⟨g4, by omega⟩, g4', g5⟩
          obtain ⟨p5, q5⟩ : 48 ≤ c5 ∧ c5 ≤ 57 := g5
          go_wp2_with (first | (go_at_call 14; refine (isDigit_yes _ (by with_reducible assumption) (by with_reducible assumption) _).mono ?_; rintro e w2 ⟨rfl, rfl⟩) | (go_at_call 14; refine (isDigit_no _ (by with_reducible assumption) _).mono ?_; rintro e w2 ⟨rfl, rfl⟩))
          go_ret
          exact ShapePost.yes HY.out HBEL.out

end Go.Proofs.Qxb6603790a
