import Derived.Test.Qxb6603638aWalks
namespace Go.Proofs.Qxb6603638a
open Go.RowKit
set_option linter.unusedSimpArgs false

/-- The ranks behind k exchanges of the script. -/
def sR (R : Nat → List Value) (m k : Nat) : Nat → List Value := fun p => if p < k ∨ m ≤ p + k then R (m - 1 - p) else R p

theorem sR_zero (R : Nat → List Value) (m p : Nat) (hp : p < m) : sR R m 0 p = R p := by
  unfold sR
  rw [if_neg (by omega)]

theorem sR_step (R : Nat → List Value) (m k p : Nat) (hk : 2 * k + 1 < m) (hp : p < m) : sR R m (k + 1) p = swapR (sR R m k) k (m - 1 - k) p := by
  unfold swapR upd
  by_cases h1 : p = m - 1 - k
  · rw [if_pos h1]
    unfold sR
    rw [if_pos (by omega), if_neg (by omega)]
    congr 1; omega
  · rw [if_neg h1]
    by_cases h2 : p = k
    · rw [if_pos h2]
      unfold sR
      rw [if_pos (by omega), if_neg (by omega), h2]
    · rw [if_neg h2]
      unfold sR
      by_cases h3 : p < k ∨ m ≤ p + k
      · rw [if_pos (by omega), if_pos h3]
      · rw [if_neg (by omega), if_neg h3]

theorem sR_end (R : Nat → List Value) (m k p : Nat) (hk : m ≤ 2 * k + 1) (hp : p < m) : sR R m k p = R (m - 1 - p) := by
  unfold sR
  by_cases h : p < k ∨ m ≤ p + k
  · rw [if_pos h]
  · rw [if_neg h]
    congr 1; omega

theorem sR_good {R : Nat → List Value} {m : Nat} (h : ∀ k, k < m → Good (R k)) (k : Nat) : ∀ p, p < m → Good (sR R m k p) := fun p hp => by
  unfold sR
  split
  · exact h _ (by omega)
  · exact h _ hp

set_option maxRecDepth 100000 in
set_option maxHeartbeats 2000000 in
theorem script_main (x : Addr) (b off n c : Nat) (hx : 0 < n → x = ⟨b, off, none⟩) (hn : n ≤ 4096) (R : Nat → List Value) (hR : ∀ k, k < n → Good (R k)) (w : World) (hb : 0 < n → b < w.heap.size) (hr : ∀ k, k < n → w.rangeAt b (off + k * 23) (R k)) :
    Calls Try.prog 4 #[.slice (some x) n c] w fun e w' => e = .returned (.bool true) ∧ Below w.heap.size w w' := by
  have HC : Hid (∀ _ : Unit, Calls Try.prog 12 #[.slice (some x) n c] w fun e w' => e = .returned (.slice (some ⟨w.heap.size, 0, none⟩) n n) ∧ Recs w' w.heap.size n R ∧ Below w.heap.size w w') := fun _ => copy_any x b off n c hx hn R hR w hb hr
  clear hr hb hx
  go_enter Try.func4, Try.ntmps4
  go_wp2_with (go_at_call 11; refine (bytes_script _ _ _ (by omega) _).mono ?_; rintro e w ⟨⟨bb, rfl, hbb⟩, rfl⟩; obtain rfl := hbb hn; clear hbb)
  refine (HC.out ()).mono ?_
  rintro e w1 ⟨rfl, hr1, hb1⟩
  clear HC
  go_wp2_with fail
  have hcw : 0 < n → w.heap.size < w1.heap.size := fun h => block_lt_of_cell (a := ⟨w.heap.size, 0 * 23 + 0, none⟩) (hr1.range 0 h 0 _ (List.getElem?_eq_getElem (by rw [hr1.len 0 h]; omega)))
  refine (ranks_any (some ⟨w.heap.size, 0, none⟩) w.heap.size n n (fun _ => rfl) hn R hR w1 hcw hr1.range).mono ?_
  rintro e w2 ⟨rfl, hr2, hb2⟩
  have hc2 : Recs w2 w.heap.size n R := ⟨fun k hk => (hr1.below hb2 (hcw (by omega))).range k hk, fun k hk => (hr1.below hb2 (hcw (by omega))).there k hk, hr1.len⟩
  have hbel : Below w.heap.size w w2 := hb1.trans (hb2.mono hb1.size)
  have hne : 0 < n → w.heap.size ≠ w1.heap.size := fun h => Nat.ne_of_lt (hcw h)
  have hle := hb1.size
  clear hr1 hb1 hb2 hcw
  go_wp2_with fail
  go_loopw [5] (fun i wr => ∃ k : Nat, k ≤ n / 2 ∧ i = .int .i64 k ∧ Recs wr w1.heap.size n (sR R n k) ∧ Recs wr w.heap.size n R ∧ Below w.heap.size w wr) (fun i _ => n - (intOf i).toNat)
  case atStart => exact ⟨0, Nat.zero_le _, rfl, hr2.congr (fun k hk => sR_zero R n k hk), hc2, hbel⟩
  case round =>
    clear hr2 hc2 hbel
    obtain ⟨k, hk, rfl, hS, hC, hB⟩ := hrel
    by_cases hlt : k < n / 2
    · have hi : (n : Int) - 1 - (k : Int) = ((n - 1 - k : Nat) : Int) := by omega
      have HI : Hid ((n : Int) - 1 - (k : Int) = ((n - 1 - k : Nat) : Int)) := hi
      clear hi
      go_wp2_with fail
      rw [HI.out]
      refine (zzswap_any w.heap.size w1.heap.size n k (n - 1 - k) (by omega) (by omega) (sR R n k) (sR_good hR k) w wr hS hle hB).mono ?_
      rintro e w3 ⟨rfl, hS3, hB3, hO3⟩
      have hC3 := hO3 _ _ _ (hne (by omega)) hC
      go_wp2
      go_roundw
      case rel => exact ⟨k + 1, by omega, by go_num, hS3.congr (fun p hp => sR_step R n k p (by omega) hp), hC3, hB3⟩
      case measure => simp [intOf]; omega
    · go_wp2_with fail
      have hS' : Recs wr w1.heap.size n (fun p => R (n - 1 - p)) := hS.congr (fun p hp => (sR_end R n k p (by omega) hp).symm)
      go_loopw [6] (fun i wr => ∃ p : Nat, p ≤ n ∧ i = .int .i64 p ∧ Recs wr w1.heap.size n (fun p => R (n - 1 - p)) ∧ Recs wr w.heap.size n R ∧ Below w.heap.size w wr) (fun i _ => n - (intOf i).toNat)
      case atStart => exact ⟨0, Nat.zero_le _, rfl, hS', hC, hB⟩
      case round =>
        clear hS hC hB hS'
        obtain ⟨p, hp, rfl, hS, hC, hB⟩ := hrel
        by_cases hlt : p < n
        · have hg := sR_good hR 0 (n - 1 - p) (by omega)
          rw [sR_zero R n _ (by omega)] at hg
          have HG : Hid (Good (R (n - 1 - p))) := hg
          have H2 : Hid ((Try.prog.info? 58).map (·.size) = some (R (n - 1 - p)).length) := by rw [HG.out.len]; exact Try.size58
          have H4 : Hid ((Try.prog.info? 55).map (·.size) = some (R (n - 1 - p)).length) := by rw [HG.out.len]; exact Try.size55
          have HS := hS.range p hlt
          have HC := hC.range (n - 1 - p) (by omega)
          have hpi : (p : Int) < (n : Int) := by omega
          clear hg
          go_wp2_with fail
          refine wp_region_held_drew (S := fun w' => w'.rangeAt w1.heap.size (p * 23) (R (n - 1 - p)) ∧ w'.rangeAt w.heap.size ((n - 1 - p) * 23) (R (n - 1 - p))) (by kernel_rfl) ⟨HS, HC⟩ (fun hH => ?_)
          refine takeD (i := 0) (d := 37) (v := .slice (some ⟨w1.heap.size, 0, none⟩) n n) rfl rfl (by kernel_rfl) (by kernel_rfl) (by kernel_rfl) (fun _ _ _ h => h) (Or.inl ⟨by rfl, fun w' _ => by go_simp⟩) hH ?_
          simp only [Act.put, List.setIfInBounds_toArray, List.set_cons_zero, List.set_cons_succ]
          refine takeD (i := 1) (d := 38) (v := .int .i64 p) rfl rfl (by kernel_rfl) (by kernel_rfl) (by kernel_rfl) (fun _ _ _ h => h) (Or.inl ⟨by rfl, fun w' _ => by go_simp⟩) hH ?_
          simp only [Act.put, List.setIfInBounds_toArray, List.set_cons_zero, List.set_cons_succ]
          refine takeD (i := 2) (d := 39) (v := .pointer (some ⟨w1.heap.size, p * 23, none⟩)) rfl rfl (by kernel_rfl) (by kernel_rfl) (by kernel_rfl) (fun _ _ _ h => h) (Or.inl ⟨by rfl, fun w' _ => by go_simp⟩) hH ?_
          simp only [Act.put, List.setIfInBounds_toArray, List.set_cons_zero, List.set_cons_succ]
          refine takeD (i := 3) (d := 40) (v := .agg (R (n - 1 - p)).toArray) rfl rfl (by kernel_rfl) (by kernel_rfl) (by kernel_rfl) (fun _ _ _ h => h) (yieldsIf_load_mid (by rfl) 55 _ rfl _ _ rfl (R (n - 1 - p)) _ (fun _ h => h.1) Try.underlying55 rfl H4.out) hH ?_
          simp only [Act.put, List.setIfInBounds_toArray, List.set_cons_zero, List.set_cons_succ]
          refine takeD (i := 4) (d := 41) (v := .slice (some ⟨w.heap.size, 0, none⟩) n n) rfl rfl (by kernel_rfl) (by kernel_rfl) (by kernel_rfl) (fun _ _ _ h => h) (Or.inl ⟨by rfl, fun w' _ => by go_simp⟩) hH ?_
          simp only [Act.put, List.setIfInBounds_toArray, List.set_cons_zero, List.set_cons_succ]
          refine takeD (i := 5) (d := 42) (v := .int .i64 n) rfl rfl (by kernel_rfl) (by kernel_rfl) (by kernel_rfl) (fun _ _ _ h => h) (Or.inl ⟨by rfl, fun w' _ => by go_simp⟩) hH ?_
          simp only [Act.put, List.setIfInBounds_toArray, List.set_cons_zero, List.set_cons_succ]
          refine takeD (i := 6) (d := 43) (v := .int .i64 ((n : Int) - 1)) rfl rfl (by kernel_rfl) (by kernel_rfl) (by kernel_rfl) (fun _ _ _ h => h) (Or.inl ⟨by rfl, fun w' _ => by go_simp; exact wrap_in (by omega)⟩) hH ?_
          simp only [Act.put, List.setIfInBounds_toArray, List.set_cons_zero, List.set_cons_succ]
          refine takeD (i := 7) (d := 44) (v := .int .i64 p) rfl rfl (by kernel_rfl) (by kernel_rfl) (by kernel_rfl) (fun _ _ _ h => h) (Or.inl ⟨by rfl, fun w' _ => by go_simp⟩) hH ?_
          simp only [Act.put, List.setIfInBounds_toArray, List.set_cons_zero, List.set_cons_succ]
          refine takeD (i := 8) (d := 45) (v := .int .i64 ((n : Int) - 1 - (p : Int))) rfl rfl (by kernel_rfl) (by kernel_rfl) (by kernel_rfl) (fun _ _ _ h => h) (Or.inl ⟨by rfl, fun w' _ => by go_simp; exact wrap_in (by omega)⟩) hH ?_
          simp only [Act.put, List.setIfInBounds_toArray, List.set_cons_zero, List.set_cons_succ]
          refine takeD (i := 9) (d := 46) (v := .pointer (some ⟨w.heap.size, (n - 1 - p) * 23, none⟩)) rfl rfl (by kernel_rfl) (by kernel_rfl) (by kernel_rfl) (fun _ _ _ h => h) (Or.inl ⟨by rfl, fun w' _ => by go_simp; intro h; exfalso; have := h (by omega); omega⟩) hH ?_
          simp only [Act.put, List.setIfInBounds_toArray, List.set_cons_zero, List.set_cons_succ]
          refine takeD (i := 10) (d := 47) (v := .agg (R (n - 1 - p)).toArray) rfl rfl (by kernel_rfl) (by kernel_rfl) (by kernel_rfl) (fun _ _ _ h => h) (yieldsIf_load_mid (by rfl) 58 _ rfl _ _ rfl (R (n - 1 - p)) _ (fun _ h => h.2) Try.underlying58 rfl H2.out) hH ?_
          simp only [Act.put, List.setIfInBounds_toArray, List.set_cons_zero, List.set_cons_succ]
          refine wpAnyH_ready (rs := [11]) (by kernel_rfl) (by simp) ?_
          refine AllReadyH.cons rfl (fun K hK => ?_) AllReadyH.nil
          rw [if_pos (by rfl)]
          go_simp
          refine (rank_any (R (n - 1 - p)) HG.out _).mono ?_
          rintro e w3 ⟨rfl, hb3⟩
          have hS3 := hS.drew.below hb3 (hS.lt (by omega))
          have hC3 := hC.drew.below hb3 (hC.lt (by omega))
          refine hK.out _ _ ⟨hS3.range p hlt, hC3.range (n - 1 - p) (by omega)⟩ (fun hH => ?_)
          clear hK K
          refine takeD (i := 12) (d := 49) (v := .bool false) rfl rfl (by kernel_rfl) (by kernel_rfl) (by kernel_rfl) (fun _ _ _ h => h) (yieldsIf_neq (by rfl) _ _ rfl HG.out rfl rfl) hH ?_
          simp only [Act.put, List.setIfInBounds_toArray, List.set_cons_zero, List.set_cons_succ]
          refine wpAnyH_done (by kernel_rfl) ?_ _
          have hB3 := hB.drew.trans (hb3.mono hB.size)
          clear hS hC hB hH HS HC hb3
          go_wp2
          go_roundw
          case rel => exact ⟨p + 1, by omega, by go_num, hS3, hC3, hB3⟩
          case measure => simp [intOf]; omega
        · go_wp2
          go_ret
          exact ⟨rfl, hB⟩

set_option maxRecDepth 100000 in
set_option maxHeartbeats 1000000 in
/-- Too many ranks: true at once. -/
theorem script_long (ao : Option Addr) (n c : Nat) (h1 : (4096 : Int) < (n : Int)) (h2 : (n : Int) ≤ 9223372036854775807) (w : World) :
    Calls Try.prog 4 #[.slice ao n c] w fun e w' => e = .returned (.bool true) ∧ Below w.heap.size w w' := by
  go_enter Try.func4, Try.ntmps4
  go_wp2_with (go_at_call 11; refine (bytes_script _ _ _ (by omega) _).mono ?_; rintro e w ⟨⟨bb, rfl, _⟩, rfl⟩; cases bb)
  all_goals (go_ret; exact ⟨rfl, Below.refl _ _⟩)

set_option maxRecDepth 100000 in
set_option maxHeartbeats 1000000 in
/-- No ranks at all. -/
theorem script_nil (w : World) :
    Calls Try.prog 4 #[.slice none 0 0] w fun e w' => e = .returned (.bool true) ∧ Below w.heap.size w w' := by
  go_enter Try.func4, Try.ntmps4
  go_wp2_with (go_at_call 11; refine (bytes_script _ _ _ (by omega) _).mono ?_; rintro e w ⟨⟨bb, rfl, hbb⟩, rfl⟩; obtain rfl := hbb (by omega); clear hbb)
  refine (copy_nil _).mono ?_
  rintro e w ⟨rfl, rfl⟩
  go_wp2_with fail
  refine (ranks_any none 0 0 0 (fun h => by omega) (by omega) (fun _ => []) (fun k h => by omega) w (fun h => by omega) (fun k h => by omega)).mono ?_
  rintro e w2 ⟨rfl, _, hb2⟩
  go_wp2_with fail
  refine wp_loop_rounds 1 ?_
  rw [rounds_succ]
  go_wp2_with fail
  refine wp_loop_rounds 1 ?_
  rw [rounds_succ]
  go_wp2
  go_ret
  exact ⟨rfl, hb2⟩
end Go.Proofs.Qxb6603638a
