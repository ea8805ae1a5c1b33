import Derived.Test.Qxb6603742aProg
import Derived.Test.Qxb6603742aPlain
import Derived.WalkKit
import Derived.WalkSmall
import Derived.WalkSpells
import Derived.Deep.QuietTactic
import Derived.BigQuiet
namespace Go.Proofs.Qxb6603742a
open Go.RowKit
set_option linter.unusedVariables false

/-- A slice of words at 'ao': what it leads to; of an empty one nothing is known. -/
def Words (w : World) (ao : Option Addr) (L : List Int) : Prop :=
  ∃ b off, (0 < L.length → ao = some ⟨b, off, none⟩) ∧ ∀ k, k < L.length → w.cell? ⟨b, off + k, none⟩ = some (.int .u64 (L.getD k 0))

theorem Words.draws {w : World} {ao : Option Addr} {L : List Int} (h : Words w ao L) (n : Nat) : Words (w.drewN n) ao L := h

theorem draws2 (w : World) (n m : Nat) : ∃ q, (w.drewN n).drewN m = w.drewN q := ⟨n + m, by simp [World.drewN, Nat.add_assoc]⟩
theorem draws3 (w : World) (n m k : Nat) : ∃ q, ((w.drewN n).drewN m).drewN k = w.drewN q := ⟨n + m + k, by simp [World.drewN, Nat.add_assoc]⟩

set_option maxHeartbeats 400000 in
theorem cmp64_any (x y : Int) (w : World) :
    Calls Try.prog 34 #[.int .u64 x, .int .u64 y] w fun e w' => e = .returned (.int .i64 (if x < y then -1 else if y < x then 1 else 0)) ∧ w' = w := by
  by_cases h1 : x < y
  · rw [if_pos h1]
    go_enter Try.func34, Try.ntmps34
    go_wp2
    go_ret
    exact ⟨rfl, rfl⟩
  · rw [if_neg h1]
    by_cases h2 : y < x
    · rw [if_pos h2]
      go_enter Try.func34, Try.ntmps34
      go_wp2
      go_ret
      exact ⟨rfl, rfl⟩
    · rw [if_neg h2]
      go_enter Try.func34, Try.ntmps34
      go_wp2
      go_ret
      exact ⟨rfl, rfl⟩

set_option maxRecDepth 100000 in
set_option maxHeartbeats 1000000 in
theorem cmpWords_any (L M : List Int) (a b : Option Addr) (ca cb : Nat) (hL : L.length ≤ 131072) (hM : M.length ≤ 131072) (w : World) (wa : Words w a L) (wb : Words w b M) :
    Calls Try.prog 15 #[.slice a L.length ca, .slice b M.length cb] w fun e w' => e = .returned (.int .i64 (Plain.cmpL L M)) ∧ ∃ nq, w' = w.drewN nq := by
  obtain ⟨ba, oa, ha, hca⟩ := wa
  obtain ⟨bb, ob, hb, hcb⟩ := wb
  obtain ⟨l, hl⟩ : ∃ l, l = L.length := ⟨_, rfl⟩
  obtain ⟨m, hm⟩ : ∃ m, m = M.length := ⟨_, rfl⟩
  rw [← hl] at hL ha hca
  rw [← hm] at hM hb hcb
  have HL : Hid (l = L.length) := hl
  have HM : Hid (m = M.length) := hm
  have HA : Hid (0 < l → a = some ⟨ba, oa, none⟩) := ha
  have HB : Hid (0 < m → b = some ⟨bb, ob, none⟩) := hb
  have CA : Hid (∀ k, k < l → w.cell? ⟨ba, oa + k, none⟩ = some (.int .u64 (L.getD k 0))) := hca
  have CB : Hid (∀ k, k < m → w.cell? ⟨bb, ob + k, none⟩ = some (.int .u64 (M.getD k 0))) := hcb
  obtain ⟨C, hC⟩ : ∃ C, C = Plain.cmpL L M := ⟨_, rfl⟩
  rw [← hl, ← hm, ← hC]
  have HC : Hid (C = Plain.cmpL L M) := hC
  clear hl hm ha hb hca hcb hC
  by_cases hlm : m < l
  · go_enter Try.func15, Try.ntmps15
    go_wp2
    go_loopw [6] (fun i wr => ∃ k nq : Nat, k ≤ m ∧ i = .int .i64 k ∧ C = Plain.cmpL (L.drop k) (M.drop k) ∧ wr = w.drewN nq) (fun i _ => m - (intOf i).toNat)
    case atStart => exact ⟨0, 0, Nat.zero_le _, rfl, HC.out, rfl⟩
    case round =>
      obtain ⟨k, nq, hk, rfl, hc, rfl⟩ := hrel
      by_cases hlt : k < m
      · obtain rfl := HA.out (by omega)
        obtain rfl := HB.out (by omega)
        have c1 := CA.out k (by omega)
        have c2 := CB.out k (by omega)
        rw [Plain.cmpL_drop (by rw [← HL.out]; omega) (by rw [← HM.out]; omega)] at hc
        obtain ⟨x, hx⟩ : ∃ x, x = L.getD k 0 := ⟨_, rfl⟩
        obtain ⟨y, hy⟩ : ∃ y, y = M.getD k 0 := ⟨_, rfl⟩
        rw [← hx] at c1 hc
        rw [← hy] at c2 hc
        have i1 : (k : Int) < (l : Int) := by omega
        have i2 : (k : Int) < (m : Int) := by omega
        have HCC : Hid (C = if x < y then -1 else if y < x then 1 else Plain.cmpL (L.drop (k + 1)) (M.drop (k + 1))) := hc
        clear hx hy hc
        by_cases h1 : x < y
        · have HCC' : Hid (C = -1) := by have := HCC.out; rw [if_pos h1] at this; exact this
          go_wp2
          go_quiet (fail)
          go_wp2
          go_ret
          exact ⟨by rw [HCC'.out]; rfl, draws2 _ _ _⟩
        · by_cases h2 : y < x
          · have HCC' : Hid (C = 1) := by have := HCC.out; rw [if_neg h1, if_pos h2] at this; exact this
            go_wp2
            go_quiet (fail)
            go_wp2
            go_quiet (fail)
            go_wp2
            go_ret
            exact ⟨by rw [HCC'.out]; rfl, draws3 _ _ _ _⟩
          · have HCC' : Hid (C = Plain.cmpL (L.drop (k + 1)) (M.drop (k + 1))) := by have := HCC.out; rw [if_neg h1, if_neg h2] at this; exact this
            go_wp2
            go_quiet (fail)
            go_wp2
            go_quiet (fail)
            go_wp2
            go_roundw
            case rel => exact ⟨k + 1, _, by omega, by go_num, HCC'.out, rfl⟩
            case measure => simp [intOf]; omega
      · rw [Plain.cmpL_end (by rw [← HL.out, ← HM.out]; omega) (by rw [← HL.out]; omega) (by rw [← HM.out]; omega), ← HL.out, ← HM.out] at hc
        have HCC : Hid (C = if l < m then -1 else if m < l then 1 else 0) := hc
        clear hc
        by_cases h1 : l < m
        · have HCC' : Hid (C = -1) := by have := HCC.out; rw [if_pos h1] at this; exact this
          go_wp2
          go_ret
          exact ⟨by rw [HCC'.out]; rfl, _, rfl⟩
        · by_cases h2 : m < l
          · have HCC' : Hid (C = 1) := by have := HCC.out; rw [if_neg h1, if_pos h2] at this; exact this
            go_wp2
            go_ret
            exact ⟨by rw [HCC'.out]; rfl, _, rfl⟩
          · exact absurd hlm h2
  · go_enter Try.func15, Try.ntmps15
    go_wp2
    go_loopw [6] (fun i wr => ∃ k nq : Nat, k ≤ l ∧ i = .int .i64 k ∧ C = Plain.cmpL (L.drop k) (M.drop k) ∧ wr = w.drewN nq) (fun i _ => l - (intOf i).toNat)
    case atStart => exact ⟨0, 0, Nat.zero_le _, rfl, HC.out, rfl⟩
    case round =>
      obtain ⟨k, nq, hk, rfl, hc, rfl⟩ := hrel
      by_cases hlt : k < l
      · obtain rfl := HA.out (by omega)
        obtain rfl := HB.out (by omega)
        have c1 := CA.out k (by omega)
        have c2 := CB.out k (by omega)
        rw [Plain.cmpL_drop (by rw [← HL.out]; omega) (by rw [← HM.out]; omega)] at hc
        obtain ⟨x, hx⟩ : ∃ x, x = L.getD k 0 := ⟨_, rfl⟩
        obtain ⟨y, hy⟩ : ∃ y, y = M.getD k 0 := ⟨_, rfl⟩
        rw [← hx] at c1 hc
        rw [← hy] at c2 hc
        have i1 : (k : Int) < (l : Int) := by omega
        have i2 : (k : Int) < (m : Int) := by omega
        have HCC : Hid (C = if x < y then -1 else if y < x then 1 else Plain.cmpL (L.drop (k + 1)) (M.drop (k + 1))) := hc
        clear hx hy hc
        by_cases h1 : x < y
        · have HCC' : Hid (C = -1) := by have := HCC.out; rw [if_pos h1] at this; exact this
          go_wp2
          go_quiet (fail)
          go_wp2
          go_ret
          exact ⟨by rw [HCC'.out]; rfl, draws2 _ _ _⟩
        · by_cases h2 : y < x
          · have HCC' : Hid (C = 1) := by have := HCC.out; rw [if_neg h1, if_pos h2] at this; exact this
            go_wp2
            go_quiet (fail)
            go_wp2
            go_quiet (fail)
            go_wp2
            go_ret
            exact ⟨by rw [HCC'.out]; rfl, draws3 _ _ _ _⟩
          · have HCC' : Hid (C = Plain.cmpL (L.drop (k + 1)) (M.drop (k + 1))) := by have := HCC.out; rw [if_neg h1, if_neg h2] at this; exact this
            go_wp2
            go_quiet (fail)
            go_wp2
            go_quiet (fail)
            go_wp2
            go_roundw
            case rel => exact ⟨k + 1, _, by omega, by go_num, HCC'.out, rfl⟩
            case measure => simp [intOf]; omega
      · rw [Plain.cmpL_end (by rw [← HL.out, ← HM.out]; omega) (by rw [← HL.out]; omega) (by rw [← HM.out]; omega), ← HL.out, ← HM.out] at hc
        have HCC : Hid (C = if l < m then -1 else if m < l then 1 else 0) := hc
        clear hc
        by_cases h1 : l < m
        · have HCC' : Hid (C = -1) := by have := HCC.out; rw [if_pos h1] at this; exact this
          go_wp2
          go_ret
          exact ⟨by rw [HCC'.out]; rfl, _, rfl⟩
        · by_cases h2 : m < l
          · exact absurd h2 hlm
          · have HCC' : Hid (C = 0) := by have := HCC.out; rw [if_neg h1, if_neg h2] at this; exact this
            go_wp2
            go_ret
            exact ⟨by rw [HCC'.out]; rfl, _, rfl⟩

theorem cmp64_lt {x y : Int} (h : x < y) (w : World) : Calls Try.prog 34 #[.int .u64 x, .int .u64 y] w fun e w' => e = .returned (.int .i64 (-1)) ∧ w = w' :=
  (cmp64_any x y w).mono fun e w' ⟨he, hw⟩ => ⟨by rw [he, if_pos h], hw.symm⟩
theorem cmp64_gt {x y : Int} (h : ¬ x < y) (h' : y < x) (w : World) : Calls Try.prog 34 #[.int .u64 x, .int .u64 y] w fun e w' => e = .returned (.int .i64 1) ∧ w = w' :=
  (cmp64_any x y w).mono fun e w' ⟨he, hw⟩ => ⟨by rw [he, if_neg h, if_pos h'], hw.symm⟩
theorem cmp64_eq {x y : Int} (h : ¬ x < y) (h' : ¬ y < x) (w : World) : Calls Try.prog 34 #[.int .u64 x, .int .u64 y] w fun e w' => e = .returned (.int .i64 0) ∧ w = w' :=
  (cmp64_any x y w).mono fun e w' ⟨he, hw⟩ => ⟨by rw [he, if_neg h, if_neg h'], hw.symm⟩

set_option maxRecDepth 100000 in
set_option maxHeartbeats 1000000 in
/-- slices.Compare at positions. -/
theorem compare_any (L M : List Int) (a b : Option Addr) (ca cb : Nat) (hL : L.length ≤ 131072) (hM : M.length ≤ 131072) (w : World) (wa : Words w a L) (wb : Words w b M) :
    Calls Try.prog 32 #[.slice a L.length ca, .slice b M.length cb] w fun e w' => e = .returned (.int .i64 (Plain.cmpL L M)) ∧ w = w' := by
  obtain ⟨ba, oa, ha, hca⟩ := wa
  obtain ⟨bb, ob, hb, hcb⟩ := wb
  obtain ⟨l, hl⟩ : ∃ l, l = L.length := ⟨_, rfl⟩
  obtain ⟨m, hm⟩ : ∃ m, m = M.length := ⟨_, rfl⟩
  rw [← hl] at hL ha hca
  rw [← hm] at hM hb hcb
  have HL : Hid (l = L.length) := hl
  have HM : Hid (m = M.length) := hm
  have HA : Hid (0 < l → a = some ⟨ba, oa, none⟩) := ha
  have HB : Hid (0 < m → b = some ⟨bb, ob, none⟩) := hb
  have CA : Hid (∀ k, k < l → w.cell? ⟨ba, oa + k, none⟩ = some (.int .u64 (L.getD k 0))) := hca
  have CB : Hid (∀ k, k < m → w.cell? ⟨bb, ob + k, none⟩ = some (.int .u64 (M.getD k 0))) := hcb
  obtain ⟨C, hC⟩ : ∃ C, C = Plain.cmpL L M := ⟨_, rfl⟩
  rw [← hl, ← hm, ← hC]
  have HC : Hid (C = Plain.cmpL L M) := hC
  clear hl hm ha hb hca hcb hC
  go_enter Try.func32, Try.ntmps32
  go_wp2
  go_loop [11] (fun i => ∃ k : Nat, k ≤ l ∧ k ≤ m ∧ i = .int .i64 k ∧ C = Plain.cmpL (L.drop k) (M.drop k)) (fun i => l - (intOf i).toNat)
  case atStart => exact ⟨0, Nat.zero_le _, Nat.zero_le _, rfl, HC.out⟩
  case round =>
    obtain ⟨k, hk, hkm, rfl, hc⟩ := hrel
    by_cases hlt : k < l
    · obtain rfl := HA.out (by omega)
      have c1 := CA.out k (by omega)
      have i1 : (k : Int) < (l : Int) := by omega
      by_cases hm2 : k < m
      · obtain rfl := HB.out (by omega)
        have c2 := CB.out k (by omega)
        rw [Plain.cmpL_drop (by rw [← HL.out]; omega) (by rw [← HM.out]; omega)] at hc
        obtain ⟨x, hx⟩ : ∃ x, x = L.getD k 0 := ⟨_, rfl⟩
        obtain ⟨y, hy⟩ : ∃ y, y = M.getD k 0 := ⟨_, rfl⟩
        rw [← hx] at c1 hc
        rw [← hy] at c2 hc
        have i2 : (k : Int) < (m : Int) := by omega
        have HCC : Hid (C = if x < y then -1 else if y < x then 1 else Plain.cmpL (L.drop (k + 1)) (M.drop (k + 1))) := hc
        clear hx hy hc
        by_cases h1 : x < y
        · have HCC' : Hid (C = -1) := by have := HCC.out; rw [if_pos h1] at this; exact this
          go_wp2_with (go_at_call 34; refine (cmp64_lt h1 _).mono ?_; rintro e w' ⟨rfl, rfl⟩)
          go_ret
          exact ⟨by rw [HCC'.out]; rfl, rfl⟩
        · by_cases h2 : y < x
          · have HCC' : Hid (C = 1) := by have := HCC.out; rw [if_neg h1, if_pos h2] at this; exact this
            go_wp2_with (go_at_call 34; refine (cmp64_gt h1 h2 _).mono ?_; rintro e w' ⟨rfl, rfl⟩)
            go_ret
            exact ⟨by rw [HCC'.out]; rfl, rfl⟩
          · have HCC' : Hid (C = Plain.cmpL (L.drop (k + 1)) (M.drop (k + 1))) := by have := HCC.out; rw [if_neg h1, if_neg h2] at this; exact this
            go_wp2_with (go_at_call 34; refine (cmp64_eq h1 h2 _).mono ?_; rintro e w' ⟨rfl, rfl⟩)
            go_round
            case rel => exact ⟨k + 1, by omega, by omega, by go_num, HCC'.out⟩
            case measure => simp [intOf]; omega
      · rw [Plain.cmpL_end (by rw [← HL.out, ← HM.out]; omega) (by rw [← HL.out]; omega) (by rw [← HM.out]; omega), ← HL.out, ← HM.out, if_neg (by omega), if_pos (by omega)] at hc
        have HCC : Hid (C = 1) := hc
        clear hc
        go_wp2
        go_ret
        exact ⟨by rw [HCC.out]; rfl, rfl⟩
    · rw [Plain.cmpL_end (by rw [← HL.out, ← HM.out]; omega) (by rw [← HL.out]; omega) (by rw [← HM.out]; omega), ← HL.out, ← HM.out] at hc
      have HCC : Hid (C = if l < m then -1 else if m < l then 1 else 0) := hc
      clear hc
      by_cases h1 : l < m
      · have HCC' : Hid (C = -1) := by have := HCC.out; rw [if_pos h1] at this; exact this
        go_wp2
        go_ret
        exact ⟨by rw [HCC'.out]; rfl, rfl⟩
      · have HCC' : Hid (C = 0) := by have := HCC.out; rw [if_neg h1, if_neg (by omega)] at this; exact this
        go_wp2
        go_ret
        exact ⟨by rw [HCC'.out]; rfl, rfl⟩

theorem eq_step {L M : List Int} (hl : L.length = M.length) {k : Nat} (hk : k < L.length) (h : L.getD k 0 = M.getD k 0) (hp : L.take k = M.take k) : L.take (k + 1) = M.take (k + 1) := by
  rw [List.take_succ_eq_append_getElem hk, List.take_succ_eq_append_getElem (by omega), hp]
  simp [List.getD_eq_getElem?_getD, hk, show k < M.length from by omega] at h
  rw [h]

set_option maxRecDepth 100000 in
set_option maxHeartbeats 1000000 in
/-- slices.Equal at positions. -/
theorem equal_any (L M : List Int) (a b : Option Addr) (ca cb : Nat) (hL : L.length ≤ 131072) (hM : M.length ≤ 131072) (w : World) (wa : Words w a L) (wb : Words w b M) :
    Calls Try.prog 33 #[.slice a L.length ca, .slice b M.length cb] w fun e w' => e = .returned (.bool (decide (L = M))) ∧ ∃ nq, w' = w.drewN nq := by
  obtain ⟨ba, oa, ha, hca⟩ := wa
  obtain ⟨bb, ob, hb, hcb⟩ := wb
  obtain ⟨l, hl⟩ : ∃ l, l = L.length := ⟨_, rfl⟩
  obtain ⟨m, hm⟩ : ∃ m, m = M.length := ⟨_, rfl⟩
  rw [← hl] at hL ha hca
  rw [← hm] at hM hb hcb
  have HL : Hid (l = L.length) := hl
  have HM : Hid (m = M.length) := hm
  have HA : Hid (0 < l → a = some ⟨ba, oa, none⟩) := ha
  have HB : Hid (0 < m → b = some ⟨bb, ob, none⟩) := hb
  have CA : Hid (∀ k, k < l → w.cell? ⟨ba, oa + k, none⟩ = some (.int .u64 (L.getD k 0))) := hca
  have CB : Hid (∀ k, k < m → w.cell? ⟨bb, ob + k, none⟩ = some (.int .u64 (M.getD k 0))) := hcb
  obtain ⟨C, hC⟩ : ∃ C, C = decide (L = M) := ⟨_, rfl⟩
  rw [← hl, ← hm, ← hC]
  have HC : Hid (C = decide (L = M)) := hC
  clear hl hm ha hb hca hcb hC
  by_cases hlm : l = m
  · have b1 : ((l : Int) != (m : Int)) = false := by simp; omega
    have HLM : Hid (l = m) := hlm
    have i0 : l ≤ m ∧ m ≤ l := by omega
    clear hlm
    go_enter Try.func33, Try.ntmps33
    go_wp2
    go_loopw [13] (fun i wr => ∃ k nq : Nat, k ≤ l ∧ i = .int .i64 k ∧ L.take k = M.take k ∧ wr = w.drewN nq) (fun i _ => l - (intOf i).toNat)
    case atStart => exact ⟨0, 0, Nat.zero_le _, rfl, rfl, rfl⟩
    case round =>
      obtain ⟨k, nq, hk, rfl, hp, rfl⟩ := hrel
      have HP : Hid (L.take k = M.take k) := hp
      clear hp
      by_cases hlt : k < l
      · obtain rfl := HA.out (by omega)
        obtain rfl := HB.out (by omega)
        have c1 := CA.out k (by omega)
        have c2 := CB.out k (by omega)
        have i1 : (k : Int) < (l : Int) := by omega
        have i2 : (k : Int) < (m : Int) := by omega
        obtain ⟨x, hx⟩ : ∃ x, x = L.getD k 0 := ⟨_, rfl⟩
        obtain ⟨y, hy⟩ : ∃ y, y = M.getD k 0 := ⟨_, rfl⟩
        rw [← hx] at c1
        rw [← hy] at c2
        by_cases hxy : x = y
        · have HS : Hid (L.take (k + 1) = M.take (k + 1)) := eq_step (by rw [← HL.out, ← HM.out]; exact HLM.out) (by rw [← HL.out]; exact hlt) (by rw [← hx, ← hy]; exact hxy) HP.out
          have b2 : (x != y) = false := by simpa using hxy
          clear hx hy hxy
          go_wp2
          go_quiet (fail)
          go_wp2
          go_roundw
          case rel => exact ⟨k + 1, _, by omega, by go_num, HS.out, rfl⟩
          case measure => simp [intOf]; omega
        · have HF : Hid (C = false) := by
            rw [HC.out]
            refine decide_eq_false (fun e => hxy ?_)
            rw [hx, hy, e]
          have b2 : (x != y) = true := by simpa using hxy
          clear hx hy hxy
          go_wp2
          go_quiet (fail)
          go_wp2
          go_ret
          exact ⟨by rw [HF.out]; rfl, draws2 _ _ _⟩
      · have HF : Hid (C = true) := by
          rw [HC.out]
          refine decide_eq_true ?_
          have e := HP.out
          have hl1 := HL.out
          have hm1 := HM.out
          have hlm := HLM.out
          rw [List.take_of_length_le (by omega), List.take_of_length_le (by omega)] at e
          exact e
        go_wp2
        go_ret
        exact ⟨by rw [HF.out]; rfl, _, rfl⟩
  · have HF : Hid (C = false) := by
      rw [HC.out]
      refine decide_eq_false (fun e => hlm ?_)
      rw [HL.out, HM.out, e]
    have b1 : ((l : Int) != (m : Int)) = true := by simp; omega
    clear hlm
    go_enter Try.func33, Try.ntmps33
    go_wp2
    go_ret
    exact ⟨by rw [HF.out]; rfl, 0, rfl⟩
end Go.Proofs.Qxb6603742a
