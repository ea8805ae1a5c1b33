import Derived.Test.Qxb6603638aWalks
namespace Go.Proofs.Qxb6603638a
open Go.RowKit
set_option linter.unusedSimpArgs false

/-- The rank at i moved up to a. -/
def cR (R : Nat → List Value) (i a : Nat) : Nat → List Value := fun p => if i ≤ p ∧ p < a then R (p + 1) else if p = a then R i else R p
/-- The rank at i moved down to a. -/
def dR (R : Nat → List Value) (i a : Nat) : Nat → List Value := fun p => if a < p ∧ p ≤ i then R (p - 1) else if p = a then R i else R p
/-- Where the rank at p comes from. -/
def fr (i j p : Nat) : Nat := if p = j then i else if i < j ∧ i ≤ p ∧ p < j then p + 1 else if j < i ∧ j < p ∧ p ≤ i then p - 1 else p

theorem fr_at {i j p : Nat} (h : p = j) : fr i j p = i := by unfold fr; rw [if_pos h]
theorem fr_up {i j p : Nat} (h : ¬ p = j) (h2 : i < j ∧ i ≤ p ∧ p < j) : fr i j p = p + 1 := by unfold fr; rw [if_neg h, if_pos h2]
theorem fr_down {i j p : Nat} (h : ¬ p = j) (h2 : ¬ (i < j ∧ i ≤ p ∧ p < j)) (h3 : j < i ∧ j < p ∧ p ≤ i) : fr i j p = p - 1 := by unfold fr; rw [if_neg h, if_neg h2, if_pos h3]
theorem fr_else {i j p : Nat} (h : ¬ p = j) (h2 : ¬ (i < j ∧ i ≤ p ∧ p < j)) (h3 : ¬ (j < i ∧ j < p ∧ p ≤ i)) : fr i j p = p := by unfold fr; rw [if_neg h, if_neg h2, if_neg h3]

theorem cR_start (R : Nat → List Value) (i p : Nat) : cR R i i p = R p := by
  unfold cR
  rw [if_neg (by omega)]
  split
  · next h => rw [h]
  · rfl
theorem dR_start (R : Nat → List Value) (i p : Nat) : dR R i i p = R p := by
  unfold dR
  rw [if_neg (by omega)]
  split
  · next h => rw [h]
  · rfl
theorem cR_step (R : Nat → List Value) (i a p : Nat) (h : i ≤ a) : cR R i (a + 1) p = swapR (cR R i a) a (a + 1) p := by
  unfold swapR upd
  by_cases h1 : p = a + 1
  · rw [if_pos h1]
    unfold cR
    rw [if_neg (by omega), if_pos h1, if_neg (by omega), if_pos rfl]
  · rw [if_neg h1]
    by_cases h2 : p = a
    · rw [if_pos h2]
      unfold cR
      rw [if_pos (by omega), if_neg (by omega), if_neg (by omega), h2]
    · rw [if_neg h2]
      unfold cR
      by_cases h3 : i ≤ p ∧ p < a
      · rw [if_pos (by omega), if_pos h3]
      · rw [if_neg (by omega), if_neg h1, if_neg h3, if_neg h2]
theorem dR_step (R : Nat → List Value) (i a p : Nat) (h : a + 1 ≤ i) : dR R i a p = swapR (dR R i (a + 1)) (a + 1) a p := by
  unfold swapR upd
  by_cases h1 : p = a
  · rw [if_pos h1]
    unfold dR
    rw [if_neg (by omega), if_pos h1, if_neg (by omega), if_pos rfl]
  · rw [if_neg h1]
    by_cases h2 : p = a + 1
    · rw [if_pos h2]
      unfold dR
      rw [if_pos (by omega), if_neg (by omega), if_neg (by omega), h2]
      rfl
    · rw [if_neg h2]
      unfold dR
      by_cases h3 : a + 1 < p ∧ p ≤ i
      · rw [if_pos (by omega), if_pos h3]
      · rw [if_neg (by omega), if_neg h1, if_neg h3, if_neg h2]
theorem cR_end (R : Nat → List Value) (i j p : Nat) (h : i < j) : cR R i j p = R (fr i j p) := by
  unfold cR
  by_cases h1 : i ≤ p ∧ p < j
  · rw [if_pos h1, fr_up (by omega) ⟨h, h1⟩]
  · rw [if_neg h1]
    by_cases h2 : p = j
    · rw [if_pos h2, fr_at h2]
    · rw [if_neg h2, fr_else h2 (by omega) (by omega)]
theorem dR_end (R : Nat → List Value) (i j p : Nat) (h : j ≤ i) : dR R i j p = R (fr i j p) := by
  unfold dR
  by_cases h1 : j < p ∧ p ≤ i
  · rw [if_pos h1, fr_down (by omega) (by omega) ⟨by omega, h1⟩]
  · rw [if_neg h1]
    by_cases h2 : p = j
    · rw [if_pos h2, fr_at h2]
    · rw [if_neg h2, fr_else h2 (by omega) (by omega)]
theorem cR_good {R : Nat → List Value} {n i a : Nat} (h : ∀ k, k < n → Good (R k)) (hi : i < n) (ha : a < n) : ∀ p, p < n → Good (cR R i a p) := fun p hp => by
  unfold cR
  split
  · exact h _ (by omega)
  · split
    · exact h _ hi
    · exact h _ hp
theorem dR_good {R : Nat → List Value} {n i a : Nat} (h : ∀ k, k < n → Good (R k)) (hi : i < n) : ∀ p, p < n → Good (dR R i a p) := fun p hp => by
  unfold dR
  split
  · exact h _ (by omega)
  · split
    · exact h _ hi
    · exact h _ hp

set_option maxRecDepth 100000 in
set_option maxHeartbeats 4000000 in
theorem chain_up (x : Addr) (b off n c i j : Nat) (hx : 0 < n → x = ⟨b, off, none⟩) (hn : n ≤ 4096) (hi : i < n) (hj : j < n) (hij : i < j) (R : Nat → List Value) (hR : ∀ k, k < n → Good (R k)) (w : World) (hb : 0 < n → b < w.heap.size) (hr : ∀ k, k < n → w.rangeAt b (off + k * 23) (R k)) :
    Calls Try.prog 5 #[.slice (some x) n c, .int .i64 i, .int .i64 j] w fun e w' => e = .returned (.bool true) ∧ Below w.heap.size w w' := by
  have HC : Hid (∀ _ : Unit, Calls Try.prog 12 #[.slice (some x) n c] w fun e w' => e = .returned (.slice (some ⟨w.heap.size, 0, none⟩) n n) ∧ Recs w' w.heap.size n R ∧ Below w.heap.size w w') := fun _ => copy_any x b off n c hx hn R hR w hb hr
  clear hr hb hx
  have hd1 : decide (j < i) = false := by simp; omega
  have hd2 : decide ((j : Int) < (i : Int)) = false := by simp; omega
  go_enter Try.func5, Try.ntmps5
  go_wp2_with (go_at_call 16; refine (bytes_chain _ _ _ (by omega) _ _ _).mono ?_; rintro e w ⟨⟨bb, rfl, hbb⟩, rfl⟩; obtain rfl := hbb hn; clear hbb)
  refine (HC.out ()).mono ?_
  rintro e w1 ⟨rfl, hr1, hb1⟩
  clear HC
  go_wp2_with fail
  have hcw : w.heap.size < w1.heap.size := hr1.lt (by omega)
  refine (ranks_any (some ⟨w.heap.size, 0, none⟩) w.heap.size n n (fun _ => rfl) hn R hR w1 (fun _ => hcw) hr1.range).mono ?_
  rintro e w2 ⟨rfl, hr2, hb2⟩
  have hc2 : Recs w2 w.heap.size n R := hr1.below hb2 hcw
  have hbel : Below w.heap.size w w2 := hb1.trans (hb2.mono hb1.size)
  obtain ⟨g, hg⟩ : ∃ g, g = w1.heap.size := ⟨_, rfl⟩
  rw [← hg] at hr2 hcw ⊢
  clear hr1 hb1 hb2 hg
  have hne : w.heap.size ≠ g := Nat.ne_of_lt hcw
  go_wp2_with fail
  go_loopw [8] (fun v wr => ∃ a : Nat, i ≤ a ∧ a ≤ j ∧ v = .int .i64 a ∧ Recs wr g n (cR R i a) ∧ Recs wr w.heap.size n R ∧ Below w.heap.size w wr) (fun v _ => n - (intOf v).toNat)
  case atStart => exact ⟨i, Nat.le_refl _, by omega, rfl, hr2.congr (fun k _ => cR_start R i k), hc2, hbel⟩
  case round =>
    clear hr2 hc2 hbel
    obtain ⟨a, ha1, ha2, rfl, hS, hC, hB⟩ := hrel
    by_cases hlt : a < j
    · go_wp2_with fail
      rw [show (a : Int) + 1 = ((a + 1 : Nat) : Int) from by omega]
      refine (zzswap_any w.heap.size g n a (a + 1) (by omega) (by omega) (cR R i a) (cR_good hR hi (by omega)) w wr hS (by omega) hB).mono ?_
      rintro e w3 ⟨rfl, hS3, hB3, hO3⟩
      have hC3 := hO3 _ _ _ hne hC
      clear hS hC hB hO3
      go_wp2
      go_roundw
      case rel => exact ⟨a + 1, by omega, by omega, by go_num, hS3.congr (fun p _ => cR_step R i a p ha1), hC3, hB3⟩
      case measure => simp [intOf]; omega
    · obtain rfl : a = j := by omega
      go_wp2_with fail
      refine wp_loop_rounds 1 ?_
      rw [rounds_succ]
      go_wp2_with fail
      have hE : Recs wr g n (fun p => R (fr i a p)) := hS.congr (fun p _ => (cR_end R i a p hij).symm)
      go_loopw [10] (fun v wr => ∃ p : Nat, p ≤ n ∧ v = .int .i64 p ∧ Recs wr g n (fun p => R (fr i a p)) ∧ Recs wr w.heap.size n R ∧ Below w.heap.size w wr) (fun v _ => n - (intOf v).toNat)
      case atStart => exact ⟨0, Nat.zero_le _, rfl, hE, hC, hB⟩
      case round =>
        clear hS hC hB hE
        obtain ⟨p, hp, rfl, hS, hC, hB⟩ := hrel
        by_cases hlt : p < n
        · by_cases c1 : p = a
          · have HF : Hid (fr i a p = i) := fr_at c1
            have b1 : ((p : Int) == (a : Int)) = true := by simp; omega
            clear c1
            have HG : Hid (Good (R (i))) := hR (i) (by omega)
            have H2 : Hid ((Try.prog.info? 58).map (·.size) = some (R (i)).length) := by rw [HG.out.len]; exact Try.size58
            have H4 : Hid ((Try.prog.info? 55).map (·.size) = some (R (i)).length) := by rw [HG.out.len]; exact Try.size55
            have HS : wr.rangeAt g (p * 23) (R (i)) := by have := hS.range p hlt; rw [HF.out] at this; exact this
            have HC := hC.range (i) (by omega)
            have hpi : (p : Int) < (n : Int) := by omega
            go_wp2_with fail
            refine wp_region_held_drew (S := fun w' => w'.rangeAt g (p * 23) (R (i)) ∧ w'.rangeAt w.heap.size ((i) * 23) (R (i))) (by kernel_rfl) ⟨HS, HC⟩ (fun hH => ?_)
            refine takeD (i := 0) (d := 105) (v := .slice (some ⟨g, 0, none⟩) n n) rfl rfl (by kernel_rfl) (by kernel_rfl) (by kernel_rfl) (fun _ _ _ h => h) (Or.inl ⟨by rfl, fun w' _ => by go_simp⟩) hH ?_
            simp only [Act.put, List.setIfInBounds_toArray, List.set_cons_zero, List.set_cons_succ]
            refine takeD (i := 1) (d := 106) (v := .int .i64 p) rfl rfl (by kernel_rfl) (by kernel_rfl) (by kernel_rfl) (fun _ _ _ h => h) (Or.inl ⟨by rfl, fun w' _ => by go_simp⟩) hH ?_
            simp only [Act.put, List.setIfInBounds_toArray, List.set_cons_zero, List.set_cons_succ]
            refine takeD (i := 2) (d := 107) (v := .pointer (some ⟨g, p * 23, none⟩)) rfl rfl (by kernel_rfl) (by kernel_rfl) (by kernel_rfl) (fun _ _ _ h => h) (Or.inl ⟨by rfl, fun w' _ => by go_simp⟩) hH ?_
            simp only [Act.put, List.setIfInBounds_toArray, List.set_cons_zero, List.set_cons_succ]
            refine takeD (i := 3) (d := 108) (v := .agg (R (i)).toArray) rfl rfl (by kernel_rfl) (by kernel_rfl) (by kernel_rfl) (fun _ _ _ h => h) (yieldsIf_load_mid (by rfl) 55 _ rfl _ _ rfl (R (i)) _ (fun _ h => h.1) Try.underlying55 rfl H4.out) hH ?_
            simp only [Act.put, List.setIfInBounds_toArray, List.set_cons_zero, List.set_cons_succ]
            refine takeD (i := 4) (d := 109) (v := .slice (some ⟨w.heap.size, 0, none⟩) n n) rfl rfl (by kernel_rfl) (by kernel_rfl) (by kernel_rfl) (fun _ _ _ h => h) (Or.inl ⟨by rfl, fun w' _ => by go_simp⟩) hH ?_
            simp only [Act.put, List.setIfInBounds_toArray, List.set_cons_zero, List.set_cons_succ]
            refine takeD (i := 5) (d := 110) (v := .int .i64 (i : Int)) rfl rfl (by kernel_rfl) (by kernel_rfl) (by kernel_rfl) (fun _ _ _ h => h) (Or.inl ⟨by rfl, fun w' _ => by go_simp⟩) hH ?_
            simp only [Act.put, List.setIfInBounds_toArray, List.set_cons_zero, List.set_cons_succ]
            refine takeD (i := 6) (d := 111) (v := .pointer (some ⟨w.heap.size, (i) * 23, none⟩)) rfl rfl (by kernel_rfl) (by kernel_rfl) (by kernel_rfl) (fun _ _ _ h => h) (Or.inl ⟨by rfl, fun w' _ => by go_simp⟩) hH ?_
            simp only [Act.put, List.setIfInBounds_toArray, List.set_cons_zero, List.set_cons_succ]
            refine takeD (i := 7) (d := 112) (v := .agg (R (i)).toArray) rfl rfl (by kernel_rfl) (by kernel_rfl) (by kernel_rfl) (fun _ _ _ h => h) (yieldsIf_load_mid (by rfl) 58 _ rfl _ _ rfl (R (i)) _ (fun _ h => h.2) Try.underlying58 rfl H2.out) hH ?_
            simp only [Act.put, List.setIfInBounds_toArray, List.set_cons_zero, List.set_cons_succ]
            refine wpAnyH_ready (rs := [8]) (by kernel_rfl) (by simp) ?_
            refine AllReadyH.cons rfl (fun K hK => ?_) AllReadyH.nil
            rw [if_pos (by rfl)]
            go_simp
            refine (rank_any (R (i)) HG.out _).mono ?_
            rintro e w3 ⟨rfl, hb3⟩
            have hS3 := hS.drew.below hb3 (hS.lt (by omega))
            have hC3 := hC.drew.below hb3 (hC.lt (by omega))
            refine hK.out _ _ ⟨by have := hS3.range p hlt; rw [HF.out] at this; exact this, hC3.range (i) (by omega)⟩ (fun hH => ?_)
            clear hK K
            refine takeD (i := 9) (d := 114) (v := .bool false) rfl rfl (by kernel_rfl) (by kernel_rfl) (by kernel_rfl) (fun _ _ _ h => h) (yieldsIf_neq (by rfl) _ _ rfl HG.out rfl rfl) hH ?_
            simp only [Act.put, List.setIfInBounds_toArray, List.set_cons_zero, List.set_cons_succ]
            refine wpAnyH_done (by kernel_rfl) ?_ _
            have hB3 := hB.drew.trans (hb3.mono hB.size)
            clear hS hC hB hH HS HC hb3
            go_wp2
            go_roundw
            case rel => first | exact ⟨p + 1, by omega, by go_num, hS3, hC3, hB3⟩ | ((repeat apply Exists.intro); exact ⟨⟨p + 1, by omega, (show Value.int .i64 ((p : Int) + 1) = .int .i64 ((p + 1 : Nat) : Int) from by go_num), hS3, hC3, hB3⟩, rfl⟩)
            case measure => simp [intOf]; omega
          · have b1 : ((p : Int) == (a : Int)) = false := by simp; omega
            by_cases c2 : i < a ∧ i ≤ p ∧ p < a
            · have HF : Hid (fr i a p = p + 1) := fr_up c1 c2
              obtain ⟨d1, d2, d3⟩ := c2
              clear c1
              have HG : Hid (Good (R (p + 1))) := hR (p + 1) (by omega)
              have H2 : Hid ((Try.prog.info? 58).map (·.size) = some (R (p + 1)).length) := by rw [HG.out.len]; exact Try.size58
              have H4 : Hid ((Try.prog.info? 55).map (·.size) = some (R (p + 1)).length) := by rw [HG.out.len]; exact Try.size55
              have HS : wr.rangeAt g (p * 23) (R (p + 1)) := by have := hS.range p hlt; rw [HF.out] at this; exact this
              have HC := hC.range (p + 1) (by omega)
              have hpi : (p : Int) < (n : Int) := by omega
              go_wp2_with fail
              refine wp_region_held_drew (S := fun w' => w'.rangeAt g (p * 23) (R (p + 1)) ∧ w'.rangeAt w.heap.size ((p + 1) * 23) (R (p + 1))) (by kernel_rfl) ⟨HS, HC⟩ (fun hH => ?_)
              refine takeD (i := 0) (d := 105) (v := .slice (some ⟨g, 0, none⟩) n n) rfl rfl (by kernel_rfl) (by kernel_rfl) (by kernel_rfl) (fun _ _ _ h => h) (Or.inl ⟨by rfl, fun w' _ => by go_simp⟩) hH ?_
              simp only [Act.put, List.setIfInBounds_toArray, List.set_cons_zero, List.set_cons_succ]
              refine takeD (i := 1) (d := 106) (v := .int .i64 p) rfl rfl (by kernel_rfl) (by kernel_rfl) (by kernel_rfl) (fun _ _ _ h => h) (Or.inl ⟨by rfl, fun w' _ => by go_simp⟩) hH ?_
              simp only [Act.put, List.setIfInBounds_toArray, List.set_cons_zero, List.set_cons_succ]
              refine takeD (i := 2) (d := 107) (v := .pointer (some ⟨g, p * 23, none⟩)) rfl rfl (by kernel_rfl) (by kernel_rfl) (by kernel_rfl) (fun _ _ _ h => h) (Or.inl ⟨by rfl, fun w' _ => by go_simp⟩) hH ?_
              simp only [Act.put, List.setIfInBounds_toArray, List.set_cons_zero, List.set_cons_succ]
              refine takeD (i := 3) (d := 108) (v := .agg (R (p + 1)).toArray) rfl rfl (by kernel_rfl) (by kernel_rfl) (by kernel_rfl) (fun _ _ _ h => h) (yieldsIf_load_mid (by rfl) 55 _ rfl _ _ rfl (R (p + 1)) _ (fun _ h => h.1) Try.underlying55 rfl H4.out) hH ?_
              simp only [Act.put, List.setIfInBounds_toArray, List.set_cons_zero, List.set_cons_succ]
              refine takeD (i := 4) (d := 109) (v := .slice (some ⟨w.heap.size, 0, none⟩) n n) rfl rfl (by kernel_rfl) (by kernel_rfl) (by kernel_rfl) (fun _ _ _ h => h) (Or.inl ⟨by rfl, fun w' _ => by go_simp⟩) hH ?_
              simp only [Act.put, List.setIfInBounds_toArray, List.set_cons_zero, List.set_cons_succ]
              refine takeD (i := 5) (d := 110) (v := .int .i64 ((p : Int) + 1)) rfl rfl (by kernel_rfl) (by kernel_rfl) (by kernel_rfl) (fun _ _ _ h => h) (Or.inl ⟨by rfl, fun w' _ => by go_simp⟩) hH ?_
              simp only [Act.put, List.setIfInBounds_toArray, List.set_cons_zero, List.set_cons_succ]
              refine takeD (i := 6) (d := 111) (v := .pointer (some ⟨w.heap.size, (p + 1) * 23, none⟩)) rfl rfl (by kernel_rfl) (by kernel_rfl) (by kernel_rfl) (fun _ _ _ h => h) (Or.inl ⟨by rfl, fun w' _ => by go_simp; intro h; exfalso; have := h (by omega); omega⟩) hH ?_
              simp only [Act.put, List.setIfInBounds_toArray, List.set_cons_zero, List.set_cons_succ]
              refine takeD (i := 7) (d := 112) (v := .agg (R (p + 1)).toArray) rfl rfl (by kernel_rfl) (by kernel_rfl) (by kernel_rfl) (fun _ _ _ h => h) (yieldsIf_load_mid (by rfl) 58 _ rfl _ _ rfl (R (p + 1)) _ (fun _ h => h.2) Try.underlying58 rfl H2.out) hH ?_
              simp only [Act.put, List.setIfInBounds_toArray, List.set_cons_zero, List.set_cons_succ]
              refine wpAnyH_ready (rs := [8]) (by kernel_rfl) (by simp) ?_
              refine AllReadyH.cons rfl (fun K hK => ?_) AllReadyH.nil
              rw [if_pos (by rfl)]
              go_simp
              refine (rank_any (R (p + 1)) HG.out _).mono ?_
              rintro e w3 ⟨rfl, hb3⟩
              have hS3 := hS.drew.below hb3 (hS.lt (by omega))
              have hC3 := hC.drew.below hb3 (hC.lt (by omega))
              refine hK.out _ _ ⟨by have := hS3.range p hlt; rw [HF.out] at this; exact this, hC3.range (p + 1) (by omega)⟩ (fun hH => ?_)
              clear hK K
              refine takeD (i := 9) (d := 114) (v := .bool false) rfl rfl (by kernel_rfl) (by kernel_rfl) (by kernel_rfl) (fun _ _ _ h => h) (yieldsIf_neq (by rfl) _ _ rfl HG.out rfl rfl) hH ?_
              simp only [Act.put, List.setIfInBounds_toArray, List.set_cons_zero, List.set_cons_succ]
              refine wpAnyH_done (by kernel_rfl) ?_ _
              have hB3 := hB.drew.trans (hb3.mono hB.size)
              clear hS hC hB hH HS HC hb3
              go_wp2
              go_roundw
              case rel => first | exact ⟨p + 1, by omega, by go_num, hS3, hC3, hB3⟩ | ((repeat apply Exists.intro); exact ⟨⟨p + 1, by omega, (show Value.int .i64 ((p : Int) + 1) = .int .i64 ((p + 1 : Nat) : Int) from by go_num), hS3, hC3, hB3⟩, rfl⟩)
              case measure => simp [intOf]; omega
            · have HF : Hid (fr i a p = p) := fr_else c1 c2 (by omega)
              rcases (show p < i ∨ a < p from by omega) with d1 | d1
              · clear c1 c2
                have HG : Hid (Good (R (p))) := hR (p) (by omega)
                have H2 : Hid ((Try.prog.info? 58).map (·.size) = some (R (p)).length) := by rw [HG.out.len]; exact Try.size58
                have H4 : Hid ((Try.prog.info? 55).map (·.size) = some (R (p)).length) := by rw [HG.out.len]; exact Try.size55
                have HS : wr.rangeAt g (p * 23) (R (p)) := by have := hS.range p hlt; rw [HF.out] at this; exact this
                have HC := hC.range (p) (by omega)
                have hpi : (p : Int) < (n : Int) := by omega
                go_wp2_with fail
                refine wp_region_held_drew (S := fun w' => w'.rangeAt g (p * 23) (R (p)) ∧ w'.rangeAt w.heap.size ((p) * 23) (R (p))) (by kernel_rfl) ⟨HS, HC⟩ (fun hH => ?_)
                refine takeD (i := 0) (d := 105) (v := .slice (some ⟨g, 0, none⟩) n n) rfl rfl (by kernel_rfl) (by kernel_rfl) (by kernel_rfl) (fun _ _ _ h => h) (Or.inl ⟨by rfl, fun w' _ => by go_simp⟩) hH ?_
                simp only [Act.put, List.setIfInBounds_toArray, List.set_cons_zero, List.set_cons_succ]
                refine takeD (i := 1) (d := 106) (v := .int .i64 p) rfl rfl (by kernel_rfl) (by kernel_rfl) (by kernel_rfl) (fun _ _ _ h => h) (Or.inl ⟨by rfl, fun w' _ => by go_simp⟩) hH ?_
                simp only [Act.put, List.setIfInBounds_toArray, List.set_cons_zero, List.set_cons_succ]
                refine takeD (i := 2) (d := 107) (v := .pointer (some ⟨g, p * 23, none⟩)) rfl rfl (by kernel_rfl) (by kernel_rfl) (by kernel_rfl) (fun _ _ _ h => h) (Or.inl ⟨by rfl, fun w' _ => by go_simp⟩) hH ?_
                simp only [Act.put, List.setIfInBounds_toArray, List.set_cons_zero, List.set_cons_succ]
                refine takeD (i := 3) (d := 108) (v := .agg (R (p)).toArray) rfl rfl (by kernel_rfl) (by kernel_rfl) (by kernel_rfl) (fun _ _ _ h => h) (yieldsIf_load_mid (by rfl) 55 _ rfl _ _ rfl (R (p)) _ (fun _ h => h.1) Try.underlying55 rfl H4.out) hH ?_
                simp only [Act.put, List.setIfInBounds_toArray, List.set_cons_zero, List.set_cons_succ]
                refine takeD (i := 4) (d := 109) (v := .slice (some ⟨w.heap.size, 0, none⟩) n n) rfl rfl (by kernel_rfl) (by kernel_rfl) (by kernel_rfl) (fun _ _ _ h => h) (Or.inl ⟨by rfl, fun w' _ => by go_simp⟩) hH ?_
                simp only [Act.put, List.setIfInBounds_toArray, List.set_cons_zero, List.set_cons_succ]
                refine takeD (i := 5) (d := 110) (v := .int .i64 (p : Int)) rfl rfl (by kernel_rfl) (by kernel_rfl) (by kernel_rfl) (fun _ _ _ h => h) (Or.inl ⟨by rfl, fun w' _ => by go_simp⟩) hH ?_
                simp only [Act.put, List.setIfInBounds_toArray, List.set_cons_zero, List.set_cons_succ]
                refine takeD (i := 6) (d := 111) (v := .pointer (some ⟨w.heap.size, (p) * 23, none⟩)) rfl rfl (by kernel_rfl) (by kernel_rfl) (by kernel_rfl) (fun _ _ _ h => h) (Or.inl ⟨by rfl, fun w' _ => by go_simp⟩) hH ?_
                simp only [Act.put, List.setIfInBounds_toArray, List.set_cons_zero, List.set_cons_succ]
                refine takeD (i := 7) (d := 112) (v := .agg (R (p)).toArray) rfl rfl (by kernel_rfl) (by kernel_rfl) (by kernel_rfl) (fun _ _ _ h => h) (yieldsIf_load_mid (by rfl) 58 _ rfl _ _ rfl (R (p)) _ (fun _ h => h.2) Try.underlying58 rfl H2.out) hH ?_
                simp only [Act.put, List.setIfInBounds_toArray, List.set_cons_zero, List.set_cons_succ]
                refine wpAnyH_ready (rs := [8]) (by kernel_rfl) (by simp) ?_
                refine AllReadyH.cons rfl (fun K hK => ?_) AllReadyH.nil
                rw [if_pos (by rfl)]
                go_simp
                refine (rank_any (R (p)) HG.out _).mono ?_
                rintro e w3 ⟨rfl, hb3⟩
                have hS3 := hS.drew.below hb3 (hS.lt (by omega))
                have hC3 := hC.drew.below hb3 (hC.lt (by omega))
                refine hK.out _ _ ⟨by have := hS3.range p hlt; rw [HF.out] at this; exact this, hC3.range (p) (by omega)⟩ (fun hH => ?_)
                clear hK K
                refine takeD (i := 9) (d := 114) (v := .bool false) rfl rfl (by kernel_rfl) (by kernel_rfl) (by kernel_rfl) (fun _ _ _ h => h) (yieldsIf_neq (by rfl) _ _ rfl HG.out rfl rfl) hH ?_
                simp only [Act.put, List.setIfInBounds_toArray, List.set_cons_zero, List.set_cons_succ]
                refine wpAnyH_done (by kernel_rfl) ?_ _
                have hB3 := hB.drew.trans (hb3.mono hB.size)
                clear hS hC hB hH HS HC hb3
                go_wp2
                go_roundw
                case rel => first | exact ⟨p + 1, by omega, by go_num, hS3, hC3, hB3⟩ | ((repeat apply Exists.intro); exact ⟨⟨p + 1, by omega, (show Value.int .i64 ((p : Int) + 1) = .int .i64 ((p + 1 : Nat) : Int) from by go_num), hS3, hC3, hB3⟩, rfl⟩)
                case measure => simp [intOf]; omega
              · clear c1 c2
                have HG : Hid (Good (R (p))) := hR (p) (by omega)
                have H2 : Hid ((Try.prog.info? 58).map (·.size) = some (R (p)).length) := by rw [HG.out.len]; exact Try.size58
                have H4 : Hid ((Try.prog.info? 55).map (·.size) = some (R (p)).length) := by rw [HG.out.len]; exact Try.size55
                have HS : wr.rangeAt g (p * 23) (R (p)) := by have := hS.range p hlt; rw [HF.out] at this; exact this
                have HC := hC.range (p) (by omega)
                have hpi : (p : Int) < (n : Int) := by omega
                go_wp2_with fail
                refine wp_region_held_drew (S := fun w' => w'.rangeAt g (p * 23) (R (p)) ∧ w'.rangeAt w.heap.size ((p) * 23) (R (p))) (by kernel_rfl) ⟨HS, HC⟩ (fun hH => ?_)
                refine takeD (i := 0) (d := 105) (v := .slice (some ⟨g, 0, none⟩) n n) rfl rfl (by kernel_rfl) (by kernel_rfl) (by kernel_rfl) (fun _ _ _ h => h) (Or.inl ⟨by rfl, fun w' _ => by go_simp⟩) hH ?_
                simp only [Act.put, List.setIfInBounds_toArray, List.set_cons_zero, List.set_cons_succ]
                refine takeD (i := 1) (d := 106) (v := .int .i64 p) rfl rfl (by kernel_rfl) (by kernel_rfl) (by kernel_rfl) (fun _ _ _ h => h) (Or.inl ⟨by rfl, fun w' _ => by go_simp⟩) hH ?_
                simp only [Act.put, List.setIfInBounds_toArray, List.set_cons_zero, List.set_cons_succ]
                refine takeD (i := 2) (d := 107) (v := .pointer (some ⟨g, p * 23, none⟩)) rfl rfl (by kernel_rfl) (by kernel_rfl) (by kernel_rfl) (fun _ _ _ h => h) (Or.inl ⟨by rfl, fun w' _ => by go_simp⟩) hH ?_
                simp only [Act.put, List.setIfInBounds_toArray, List.set_cons_zero, List.set_cons_succ]
                refine takeD (i := 3) (d := 108) (v := .agg (R (p)).toArray) rfl rfl (by kernel_rfl) (by kernel_rfl) (by kernel_rfl) (fun _ _ _ h => h) (yieldsIf_load_mid (by rfl) 55 _ rfl _ _ rfl (R (p)) _ (fun _ h => h.1) Try.underlying55 rfl H4.out) hH ?_
                simp only [Act.put, List.setIfInBounds_toArray, List.set_cons_zero, List.set_cons_succ]
                refine takeD (i := 4) (d := 109) (v := .slice (some ⟨w.heap.size, 0, none⟩) n n) rfl rfl (by kernel_rfl) (by kernel_rfl) (by kernel_rfl) (fun _ _ _ h => h) (Or.inl ⟨by rfl, fun w' _ => by go_simp⟩) hH ?_
                simp only [Act.put, List.setIfInBounds_toArray, List.set_cons_zero, List.set_cons_succ]
                refine takeD (i := 5) (d := 110) (v := .int .i64 (p : Int)) rfl rfl (by kernel_rfl) (by kernel_rfl) (by kernel_rfl) (fun _ _ _ h => h) (Or.inl ⟨by rfl, fun w' _ => by go_simp⟩) hH ?_
                simp only [Act.put, List.setIfInBounds_toArray, List.set_cons_zero, List.set_cons_succ]
                refine takeD (i := 6) (d := 111) (v := .pointer (some ⟨w.heap.size, (p) * 23, none⟩)) rfl rfl (by kernel_rfl) (by kernel_rfl) (by kernel_rfl) (fun _ _ _ h => h) (Or.inl ⟨by rfl, fun w' _ => by go_simp⟩) hH ?_
                simp only [Act.put, List.setIfInBounds_toArray, List.set_cons_zero, List.set_cons_succ]
                refine takeD (i := 7) (d := 112) (v := .agg (R (p)).toArray) rfl rfl (by kernel_rfl) (by kernel_rfl) (by kernel_rfl) (fun _ _ _ h => h) (yieldsIf_load_mid (by rfl) 58 _ rfl _ _ rfl (R (p)) _ (fun _ h => h.2) Try.underlying58 rfl H2.out) hH ?_
                simp only [Act.put, List.setIfInBounds_toArray, List.set_cons_zero, List.set_cons_succ]
                refine wpAnyH_ready (rs := [8]) (by kernel_rfl) (by simp) ?_
                refine AllReadyH.cons rfl (fun K hK => ?_) AllReadyH.nil
                rw [if_pos (by rfl)]
                go_simp
                refine (rank_any (R (p)) HG.out _).mono ?_
                rintro e w3 ⟨rfl, hb3⟩
                have hS3 := hS.drew.below hb3 (hS.lt (by omega))
                have hC3 := hC.drew.below hb3 (hC.lt (by omega))
                refine hK.out _ _ ⟨by have := hS3.range p hlt; rw [HF.out] at this; exact this, hC3.range (p) (by omega)⟩ (fun hH => ?_)
                clear hK K
                refine takeD (i := 9) (d := 114) (v := .bool false) rfl rfl (by kernel_rfl) (by kernel_rfl) (by kernel_rfl) (fun _ _ _ h => h) (yieldsIf_neq (by rfl) _ _ rfl HG.out rfl rfl) hH ?_
                simp only [Act.put, List.setIfInBounds_toArray, List.set_cons_zero, List.set_cons_succ]
                refine wpAnyH_done (by kernel_rfl) ?_ _
                have hB3 := hB.drew.trans (hb3.mono hB.size)
                clear hS hC hB hH HS HC hb3
                go_wp2
                go_roundw
                case rel => first | exact ⟨p + 1, by omega, by go_num, hS3, hC3, hB3⟩ | ((repeat apply Exists.intro); exact ⟨⟨p + 1, by omega, (show Value.int .i64 ((p : Int) + 1) = .int .i64 ((p + 1 : Nat) : Int) from by go_num), hS3, hC3, hB3⟩, rfl⟩)
                case measure => simp [intOf]; omega
        · go_wp2
          go_ret
          exact ⟨rfl, hB⟩

set_option maxRecDepth 100000 in
set_option maxHeartbeats 4000000 in
theorem chain_down (x : Addr) (b off n c i j : Nat) (hx : 0 < n → x = ⟨b, off, none⟩) (hn : n ≤ 4096) (hi : i < n) (hj : j < n) (hij : j ≤ i) (R : Nat → List Value) (hR : ∀ k, k < n → Good (R k)) (w : World) (hb : 0 < n → b < w.heap.size) (hr : ∀ k, k < n → w.rangeAt b (off + k * 23) (R k)) :
    Calls Try.prog 5 #[.slice (some x) n c, .int .i64 i, .int .i64 j] w fun e w' => e = .returned (.bool true) ∧ Below w.heap.size w w' := by
  have HC : Hid (∀ _ : Unit, Calls Try.prog 12 #[.slice (some x) n c] w fun e w' => e = .returned (.slice (some ⟨w.heap.size, 0, none⟩) n n) ∧ Recs w' w.heap.size n R ∧ Below w.heap.size w w') := fun _ => copy_any x b off n c hx hn R hR w hb hr
  clear hr hb hx
  have hd1 : decide (i < j) = false := by simp; omega
  have hd2 : decide ((i : Int) < (j : Int)) = false := by simp; omega
  go_enter Try.func5, Try.ntmps5
  go_wp2_with (go_at_call 16; refine (bytes_chain _ _ _ (by omega) _ _ _).mono ?_; rintro e w ⟨⟨bb, rfl, hbb⟩, rfl⟩; obtain rfl := hbb hn; clear hbb)
  refine (HC.out ()).mono ?_
  rintro e w1 ⟨rfl, hr1, hb1⟩
  clear HC
  go_wp2_with fail
  have hcw : w.heap.size < w1.heap.size := hr1.lt (by omega)
  refine (ranks_any (some ⟨w.heap.size, 0, none⟩) w.heap.size n n (fun _ => rfl) hn R hR w1 (fun _ => hcw) hr1.range).mono ?_
  rintro e w2 ⟨rfl, hr2, hb2⟩
  have hc2 : Recs w2 w.heap.size n R := hr1.below hb2 hcw
  have hbel : Below w.heap.size w w2 := hb1.trans (hb2.mono hb1.size)
  obtain ⟨g, hg⟩ : ∃ g, g = w1.heap.size := ⟨_, rfl⟩
  rw [← hg] at hr2 hcw ⊢
  clear hr1 hb1 hb2 hg
  have hne : w.heap.size ≠ g := Nat.ne_of_lt hcw
  go_wp2_with fail
  refine wp_loop_rounds 1 ?_
  rw [rounds_succ]
  go_wp2_with fail
  go_loopw [9] (fun v wr => ∃ a : Nat, a ≤ i ∧ j ≤ a ∧ v = .int .i64 a ∧ Recs wr g n (dR R i a) ∧ Recs wr w.heap.size n R ∧ Below w.heap.size w wr) (fun v _ => (intOf v).toNat)
  case atStart => exact ⟨i, Nat.le_refl _, hij, rfl, hr2.congr (fun k _ => dR_start R i k), hc2, hbel⟩
  case round =>
    clear hr2 hc2 hbel
    obtain ⟨a, ha1, ha2, rfl, hS, hC, hB⟩ := hrel
    by_cases hlt : j < a
    · go_wp2_with fail
      obtain ⟨a, rfl⟩ : ∃ a', a = a' + 1 := ⟨a - 1, by omega⟩
      rw [show (((a + 1 : Nat) : Int) - 1) = (a : Int) from by omega]
      refine (zzswap_any w.heap.size g n (a + 1) a (by omega) (by omega) (dR R i (a + 1)) (dR_good hR hi) w wr hS (by omega) hB).mono ?_
      rintro e w3 ⟨rfl, hS3, hB3, hO3⟩
      have hC3 := hO3 _ _ _ hne hC
      clear hS hC hB hO3
      go_wp2
      go_roundw
      case rel => first | exact ⟨a, by omega, by omega, by go_num, hS3.congr (fun p _ => dR_step R i a p ha1), hC3, hB3⟩ | ((repeat apply Exists.intro); exact ⟨⟨a, by omega, by omega, (show Value.int .i64 (a : Int) = .int .i64 (a : Int) from rfl), hS3.congr (fun p _ => dR_step R i a p ha1), hC3, hB3⟩, rfl⟩)
      case measure => simp [intOf]
    · obtain rfl : a = j := by omega
      go_wp2_with fail
      have hE : Recs wr g n (fun p => R (fr i a p)) := hS.congr (fun p _ => (dR_end R i a p hij).symm)
      go_loopw [10] (fun v wr => ∃ p : Nat, p ≤ n ∧ v = .int .i64 p ∧ Recs wr g n (fun p => R (fr i a p)) ∧ Recs wr w.heap.size n R ∧ Below w.heap.size w wr) (fun v _ => n - (intOf v).toNat)
      case atStart => exact ⟨0, Nat.zero_le _, rfl, hE, hC, hB⟩
      case round =>
        clear hS hC hB hE
        obtain ⟨p, hp, rfl, hS, hC, hB⟩ := hrel
        by_cases hlt : p < n
        · by_cases c1 : p = a
          · have HF : Hid (fr i a p = i) := fr_at c1
            have b1 : ((p : Int) == (a : Int)) = true := by simp; omega
            clear c1
            have HG : Hid (Good (R (i))) := hR (i) (by omega)
            have H2 : Hid ((Try.prog.info? 58).map (·.size) = some (R (i)).length) := by rw [HG.out.len]; exact Try.size58
            have H4 : Hid ((Try.prog.info? 55).map (·.size) = some (R (i)).length) := by rw [HG.out.len]; exact Try.size55
            have HS : wr.rangeAt g (p * 23) (R (i)) := by have := hS.range p hlt; rw [HF.out] at this; exact this
            have HC := hC.range (i) (by omega)
            have hpi : (p : Int) < (n : Int) := by omega
            go_wp2_with fail
            refine wp_region_held_drew (S := fun w' => w'.rangeAt g (p * 23) (R (i)) ∧ w'.rangeAt w.heap.size ((i) * 23) (R (i))) (by kernel_rfl) ⟨HS, HC⟩ (fun hH => ?_)
            refine takeD (i := 0) (d := 105) (v := .slice (some ⟨g, 0, none⟩) n n) rfl rfl (by kernel_rfl) (by kernel_rfl) (by kernel_rfl) (fun _ _ _ h => h) (Or.inl ⟨by rfl, fun w' _ => by go_simp⟩) hH ?_
            simp only [Act.put, List.setIfInBounds_toArray, List.set_cons_zero, List.set_cons_succ]
            refine takeD (i := 1) (d := 106) (v := .int .i64 p) rfl rfl (by kernel_rfl) (by kernel_rfl) (by kernel_rfl) (fun _ _ _ h => h) (Or.inl ⟨by rfl, fun w' _ => by go_simp⟩) hH ?_
            simp only [Act.put, List.setIfInBounds_toArray, List.set_cons_zero, List.set_cons_succ]
            refine takeD (i := 2) (d := 107) (v := .pointer (some ⟨g, p * 23, none⟩)) rfl rfl (by kernel_rfl) (by kernel_rfl) (by kernel_rfl) (fun _ _ _ h => h) (Or.inl ⟨by rfl, fun w' _ => by go_simp⟩) hH ?_
            simp only [Act.put, List.setIfInBounds_toArray, List.set_cons_zero, List.set_cons_succ]
            refine takeD (i := 3) (d := 108) (v := .agg (R (i)).toArray) rfl rfl (by kernel_rfl) (by kernel_rfl) (by kernel_rfl) (fun _ _ _ h => h) (yieldsIf_load_mid (by rfl) 55 _ rfl _ _ rfl (R (i)) _ (fun _ h => h.1) Try.underlying55 rfl H4.out) hH ?_
            simp only [Act.put, List.setIfInBounds_toArray, List.set_cons_zero, List.set_cons_succ]
            refine takeD (i := 4) (d := 109) (v := .slice (some ⟨w.heap.size, 0, none⟩) n n) rfl rfl (by kernel_rfl) (by kernel_rfl) (by kernel_rfl) (fun _ _ _ h => h) (Or.inl ⟨by rfl, fun w' _ => by go_simp⟩) hH ?_
            simp only [Act.put, List.setIfInBounds_toArray, List.set_cons_zero, List.set_cons_succ]
            refine takeD (i := 5) (d := 110) (v := .int .i64 (i : Int)) rfl rfl (by kernel_rfl) (by kernel_rfl) (by kernel_rfl) (fun _ _ _ h => h) (Or.inl ⟨by rfl, fun w' _ => by go_simp⟩) hH ?_
            simp only [Act.put, List.setIfInBounds_toArray, List.set_cons_zero, List.set_cons_succ]
            refine takeD (i := 6) (d := 111) (v := .pointer (some ⟨w.heap.size, (i) * 23, none⟩)) rfl rfl (by kernel_rfl) (by kernel_rfl) (by kernel_rfl) (fun _ _ _ h => h) (Or.inl ⟨by rfl, fun w' _ => by go_simp⟩) hH ?_
            simp only [Act.put, List.setIfInBounds_toArray, List.set_cons_zero, List.set_cons_succ]
            refine takeD (i := 7) (d := 112) (v := .agg (R (i)).toArray) rfl rfl (by kernel_rfl) (by kernel_rfl) (by kernel_rfl) (fun _ _ _ h => h) (yieldsIf_load_mid (by rfl) 58 _ rfl _ _ rfl (R (i)) _ (fun _ h => h.2) Try.underlying58 rfl H2.out) hH ?_
            simp only [Act.put, List.setIfInBounds_toArray, List.set_cons_zero, List.set_cons_succ]
            refine wpAnyH_ready (rs := [8]) (by kernel_rfl) (by simp) ?_
            refine AllReadyH.cons rfl (fun K hK => ?_) AllReadyH.nil
            rw [if_pos (by rfl)]
            go_simp
            refine (rank_any (R (i)) HG.out _).mono ?_
            rintro e w3 ⟨rfl, hb3⟩
            have hS3 := hS.drew.below hb3 (hS.lt (by omega))
            have hC3 := hC.drew.below hb3 (hC.lt (by omega))
            refine hK.out _ _ ⟨by have := hS3.range p hlt; rw [HF.out] at this; exact this, hC3.range (i) (by omega)⟩ (fun hH => ?_)
            clear hK K
            refine takeD (i := 9) (d := 114) (v := .bool false) rfl rfl (by kernel_rfl) (by kernel_rfl) (by kernel_rfl) (fun _ _ _ h => h) (yieldsIf_neq (by rfl) _ _ rfl HG.out rfl rfl) hH ?_
            simp only [Act.put, List.setIfInBounds_toArray, List.set_cons_zero, List.set_cons_succ]
            refine wpAnyH_done (by kernel_rfl) ?_ _
            have hB3 := hB.drew.trans (hb3.mono hB.size)
            clear hS hC hB hH HS HC hb3
            go_wp2
            go_roundw
            case rel => first | exact ⟨p + 1, by omega, by go_num, hS3, hC3, hB3⟩ | ((repeat apply Exists.intro); exact ⟨⟨p + 1, by omega, (show Value.int .i64 ((p : Int) + 1) = .int .i64 ((p + 1 : Nat) : Int) from by go_num), hS3, hC3, hB3⟩, rfl⟩)
            case measure => simp [intOf]; omega
          · have b1 : ((p : Int) == (a : Int)) = false := by simp; omega
            by_cases c3 : a < i ∧ a < p ∧ p ≤ i
            · have HF : Hid (fr i a p = p - 1) := fr_down c1 (by omega) c3
              obtain ⟨d1, d2, d3⟩ := c3
              clear c1
              have HG : Hid (Good (R (p - 1))) := hR (p - 1) (by omega)
              have H2 : Hid ((Try.prog.info? 58).map (·.size) = some (R (p - 1)).length) := by rw [HG.out.len]; exact Try.size58
              have H4 : Hid ((Try.prog.info? 55).map (·.size) = some (R (p - 1)).length) := by rw [HG.out.len]; exact Try.size55
              have HS : wr.rangeAt g (p * 23) (R (p - 1)) := by have := hS.range p hlt; rw [HF.out] at this; exact this
              have HC := hC.range (p - 1) (by omega)
              have hpi : (p : Int) < (n : Int) := by omega
              go_wp2_with fail
              refine wp_region_held_drew (S := fun w' => w'.rangeAt g (p * 23) (R (p - 1)) ∧ w'.rangeAt w.heap.size ((p - 1) * 23) (R (p - 1))) (by kernel_rfl) ⟨HS, HC⟩ (fun hH => ?_)
              refine takeD (i := 0) (d := 105) (v := .slice (some ⟨g, 0, none⟩) n n) rfl rfl (by kernel_rfl) (by kernel_rfl) (by kernel_rfl) (fun _ _ _ h => h) (Or.inl ⟨by rfl, fun w' _ => by go_simp⟩) hH ?_
              simp only [Act.put, List.setIfInBounds_toArray, List.set_cons_zero, List.set_cons_succ]
              refine takeD (i := 1) (d := 106) (v := .int .i64 p) rfl rfl (by kernel_rfl) (by kernel_rfl) (by kernel_rfl) (fun _ _ _ h => h) (Or.inl ⟨by rfl, fun w' _ => by go_simp⟩) hH ?_
              simp only [Act.put, List.setIfInBounds_toArray, List.set_cons_zero, List.set_cons_succ]
              refine takeD (i := 2) (d := 107) (v := .pointer (some ⟨g, p * 23, none⟩)) rfl rfl (by kernel_rfl) (by kernel_rfl) (by kernel_rfl) (fun _ _ _ h => h) (Or.inl ⟨by rfl, fun w' _ => by go_simp⟩) hH ?_
              simp only [Act.put, List.setIfInBounds_toArray, List.set_cons_zero, List.set_cons_succ]
              refine takeD (i := 3) (d := 108) (v := .agg (R (p - 1)).toArray) rfl rfl (by kernel_rfl) (by kernel_rfl) (by kernel_rfl) (fun _ _ _ h => h) (yieldsIf_load_mid (by rfl) 55 _ rfl _ _ rfl (R (p - 1)) _ (fun _ h => h.1) Try.underlying55 rfl H4.out) hH ?_
              simp only [Act.put, List.setIfInBounds_toArray, List.set_cons_zero, List.set_cons_succ]
              refine takeD (i := 4) (d := 109) (v := .slice (some ⟨w.heap.size, 0, none⟩) n n) rfl rfl (by kernel_rfl) (by kernel_rfl) (by kernel_rfl) (fun _ _ _ h => h) (Or.inl ⟨by rfl, fun w' _ => by go_simp⟩) hH ?_
              simp only [Act.put, List.setIfInBounds_toArray, List.set_cons_zero, List.set_cons_succ]
              refine takeD (i := 5) (d := 110) (v := .int .i64 ((p : Int) - 1)) rfl rfl (by kernel_rfl) (by kernel_rfl) (by kernel_rfl) (fun _ _ _ h => h) (Or.inl ⟨by rfl, fun w' _ => by go_simp⟩) hH ?_
              simp only [Act.put, List.setIfInBounds_toArray, List.set_cons_zero, List.set_cons_succ]
              refine takeD (i := 6) (d := 111) (v := .pointer (some ⟨w.heap.size, (p - 1) * 23, none⟩)) rfl rfl (by kernel_rfl) (by kernel_rfl) (by kernel_rfl) (fun _ _ _ h => h) (Or.inl ⟨by rfl, fun w' _ => by go_simp; intro h; exfalso; have := h (by omega); omega⟩) hH ?_
              simp only [Act.put, List.setIfInBounds_toArray, List.set_cons_zero, List.set_cons_succ]
              refine takeD (i := 7) (d := 112) (v := .agg (R (p - 1)).toArray) rfl rfl (by kernel_rfl) (by kernel_rfl) (by kernel_rfl) (fun _ _ _ h => h) (yieldsIf_load_mid (by rfl) 58 _ rfl _ _ rfl (R (p - 1)) _ (fun _ h => h.2) Try.underlying58 rfl H2.out) hH ?_
              simp only [Act.put, List.setIfInBounds_toArray, List.set_cons_zero, List.set_cons_succ]
              refine wpAnyH_ready (rs := [8]) (by kernel_rfl) (by simp) ?_
              refine AllReadyH.cons rfl (fun K hK => ?_) AllReadyH.nil
              rw [if_pos (by rfl)]
              go_simp
              refine (rank_any (R (p - 1)) HG.out _).mono ?_
              rintro e w3 ⟨rfl, hb3⟩
              have hS3 := hS.drew.below hb3 (hS.lt (by omega))
              have hC3 := hC.drew.below hb3 (hC.lt (by omega))
              refine hK.out _ _ ⟨by have := hS3.range p hlt; rw [HF.out] at this; exact this, hC3.range (p - 1) (by omega)⟩ (fun hH => ?_)
              clear hK K
              refine takeD (i := 9) (d := 114) (v := .bool false) rfl rfl (by kernel_rfl) (by kernel_rfl) (by kernel_rfl) (fun _ _ _ h => h) (yieldsIf_neq (by rfl) _ _ rfl HG.out rfl rfl) hH ?_
              simp only [Act.put, List.setIfInBounds_toArray, List.set_cons_zero, List.set_cons_succ]
              refine wpAnyH_done (by kernel_rfl) ?_ _
              have hB3 := hB.drew.trans (hb3.mono hB.size)
              clear hS hC hB hH HS HC hb3
              go_wp2
              go_roundw
              case rel => first | exact ⟨p + 1, by omega, by go_num, hS3, hC3, hB3⟩ | ((repeat apply Exists.intro); exact ⟨⟨p + 1, by omega, (show Value.int .i64 ((p : Int) + 1) = .int .i64 ((p + 1 : Nat) : Int) from by go_num), hS3, hC3, hB3⟩, rfl⟩)
              case measure => simp [intOf]; omega
            · have HF : Hid (fr i a p = p) := fr_else c1 (by omega) c3
              rcases (show (p < a ∧ a < i) ∨ (p < a ∧ i ≤ a) ∨ (i < p ∧ a < i) ∨ (i < p ∧ i ≤ a) from by omega) with ⟨d1, d2⟩ | ⟨d1, d2⟩ | ⟨d1, d2⟩ | ⟨d1, d2⟩
              · clear c1 c3
                have HG : Hid (Good (R (p))) := hR (p) (by omega)
                have H2 : Hid ((Try.prog.info? 58).map (·.size) = some (R (p)).length) := by rw [HG.out.len]; exact Try.size58
                have H4 : Hid ((Try.prog.info? 55).map (·.size) = some (R (p)).length) := by rw [HG.out.len]; exact Try.size55
                have HS : wr.rangeAt g (p * 23) (R (p)) := by have := hS.range p hlt; rw [HF.out] at this; exact this
                have HC := hC.range (p) (by omega)
                have hpi : (p : Int) < (n : Int) := by omega
                go_wp2_with fail
                refine wp_region_held_drew (S := fun w' => w'.rangeAt g (p * 23) (R (p)) ∧ w'.rangeAt w.heap.size ((p) * 23) (R (p))) (by kernel_rfl) ⟨HS, HC⟩ (fun hH => ?_)
                refine takeD (i := 0) (d := 105) (v := .slice (some ⟨g, 0, none⟩) n n) rfl rfl (by kernel_rfl) (by kernel_rfl) (by kernel_rfl) (fun _ _ _ h => h) (Or.inl ⟨by rfl, fun w' _ => by go_simp⟩) hH ?_
                simp only [Act.put, List.setIfInBounds_toArray, List.set_cons_zero, List.set_cons_succ]
                refine takeD (i := 1) (d := 106) (v := .int .i64 p) rfl rfl (by kernel_rfl) (by kernel_rfl) (by kernel_rfl) (fun _ _ _ h => h) (Or.inl ⟨by rfl, fun w' _ => by go_simp⟩) hH ?_
                simp only [Act.put, List.setIfInBounds_toArray, List.set_cons_zero, List.set_cons_succ]
                refine takeD (i := 2) (d := 107) (v := .pointer (some ⟨g, p * 23, none⟩)) rfl rfl (by kernel_rfl) (by kernel_rfl) (by kernel_rfl) (fun _ _ _ h => h) (Or.inl ⟨by rfl, fun w' _ => by go_simp⟩) hH ?_
                simp only [Act.put, List.setIfInBounds_toArray, List.set_cons_zero, List.set_cons_succ]
                refine takeD (i := 3) (d := 108) (v := .agg (R (p)).toArray) rfl rfl (by kernel_rfl) (by kernel_rfl) (by kernel_rfl) (fun _ _ _ h => h) (yieldsIf_load_mid (by rfl) 55 _ rfl _ _ rfl (R (p)) _ (fun _ h => h.1) Try.underlying55 rfl H4.out) hH ?_
                simp only [Act.put, List.setIfInBounds_toArray, List.set_cons_zero, List.set_cons_succ]
                refine takeD (i := 4) (d := 109) (v := .slice (some ⟨w.heap.size, 0, none⟩) n n) rfl rfl (by kernel_rfl) (by kernel_rfl) (by kernel_rfl) (fun _ _ _ h => h) (Or.inl ⟨by rfl, fun w' _ => by go_simp⟩) hH ?_
                simp only [Act.put, List.setIfInBounds_toArray, List.set_cons_zero, List.set_cons_succ]
                refine takeD (i := 5) (d := 110) (v := .int .i64 (p : Int)) rfl rfl (by kernel_rfl) (by kernel_rfl) (by kernel_rfl) (fun _ _ _ h => h) (Or.inl ⟨by rfl, fun w' _ => by go_simp⟩) hH ?_
                simp only [Act.put, List.setIfInBounds_toArray, List.set_cons_zero, List.set_cons_succ]
                refine takeD (i := 6) (d := 111) (v := .pointer (some ⟨w.heap.size, (p) * 23, none⟩)) rfl rfl (by kernel_rfl) (by kernel_rfl) (by kernel_rfl) (fun _ _ _ h => h) (Or.inl ⟨by rfl, fun w' _ => by go_simp⟩) hH ?_
                simp only [Act.put, List.setIfInBounds_toArray, List.set_cons_zero, List.set_cons_succ]
                refine takeD (i := 7) (d := 112) (v := .agg (R (p)).toArray) rfl rfl (by kernel_rfl) (by kernel_rfl) (by kernel_rfl) (fun _ _ _ h => h) (yieldsIf_load_mid (by rfl) 58 _ rfl _ _ rfl (R (p)) _ (fun _ h => h.2) Try.underlying58 rfl H2.out) hH ?_
                simp only [Act.put, List.setIfInBounds_toArray, List.set_cons_zero, List.set_cons_succ]
                refine wpAnyH_ready (rs := [8]) (by kernel_rfl) (by simp) ?_
                refine AllReadyH.cons rfl (fun K hK => ?_) AllReadyH.nil
                rw [if_pos (by rfl)]
                go_simp
                refine (rank_any (R (p)) HG.out _).mono ?_
                rintro e w3 ⟨rfl, hb3⟩
                have hS3 := hS.drew.below hb3 (hS.lt (by omega))
                have hC3 := hC.drew.below hb3 (hC.lt (by omega))
                refine hK.out _ _ ⟨by have := hS3.range p hlt; rw [HF.out] at this; exact this, hC3.range (p) (by omega)⟩ (fun hH => ?_)
                clear hK K
                refine takeD (i := 9) (d := 114) (v := .bool false) rfl rfl (by kernel_rfl) (by kernel_rfl) (by kernel_rfl) (fun _ _ _ h => h) (yieldsIf_neq (by rfl) _ _ rfl HG.out rfl rfl) hH ?_
                simp only [Act.put, List.setIfInBounds_toArray, List.set_cons_zero, List.set_cons_succ]
                refine wpAnyH_done (by kernel_rfl) ?_ _
                have hB3 := hB.drew.trans (hb3.mono hB.size)
                clear hS hC hB hH HS HC hb3
                go_wp2
                go_roundw
                case rel => first | exact ⟨p + 1, by omega, by go_num, hS3, hC3, hB3⟩ | ((repeat apply Exists.intro); exact ⟨⟨p + 1, by omega, (show Value.int .i64 ((p : Int) + 1) = .int .i64 ((p + 1 : Nat) : Int) from by go_num), hS3, hC3, hB3⟩, rfl⟩)
                case measure => simp [intOf]; omega
              · clear c1 c3
                have HG : Hid (Good (R (p))) := hR (p) (by omega)
                have H2 : Hid ((Try.prog.info? 58).map (·.size) = some (R (p)).length) := by rw [HG.out.len]; exact Try.size58
                have H4 : Hid ((Try.prog.info? 55).map (·.size) = some (R (p)).length) := by rw [HG.out.len]; exact Try.size55
                have HS : wr.rangeAt g (p * 23) (R (p)) := by have := hS.range p hlt; rw [HF.out] at this; exact this
                have HC := hC.range (p) (by omega)
                have hpi : (p : Int) < (n : Int) := by omega
                go_wp2_with fail
                refine wp_region_held_drew (S := fun w' => w'.rangeAt g (p * 23) (R (p)) ∧ w'.rangeAt w.heap.size ((p) * 23) (R (p))) (by kernel_rfl) ⟨HS, HC⟩ (fun hH => ?_)
                refine takeD (i := 0) (d := 105) (v := .slice (some ⟨g, 0, none⟩) n n) rfl rfl (by kernel_rfl) (by kernel_rfl) (by kernel_rfl) (fun _ _ _ h => h) (Or.inl ⟨by rfl, fun w' _ => by go_simp⟩) hH ?_
                simp only [Act.put, List.setIfInBounds_toArray, List.set_cons_zero, List.set_cons_succ]
                refine takeD (i := 1) (d := 106) (v := .int .i64 p) rfl rfl (by kernel_rfl) (by kernel_rfl) (by kernel_rfl) (fun _ _ _ h => h) (Or.inl ⟨by rfl, fun w' _ => by go_simp⟩) hH ?_
                simp only [Act.put, List.setIfInBounds_toArray, List.set_cons_zero, List.set_cons_succ]
                refine takeD (i := 2) (d := 107) (v := .pointer (some ⟨g, p * 23, none⟩)) rfl rfl (by kernel_rfl) (by kernel_rfl) (by kernel_rfl) (fun _ _ _ h => h) (Or.inl ⟨by rfl, fun w' _ => by go_simp⟩) hH ?_
                simp only [Act.put, List.setIfInBounds_toArray, List.set_cons_zero, List.set_cons_succ]
                refine takeD (i := 3) (d := 108) (v := .agg (R (p)).toArray) rfl rfl (by kernel_rfl) (by kernel_rfl) (by kernel_rfl) (fun _ _ _ h => h) (yieldsIf_load_mid (by rfl) 55 _ rfl _ _ rfl (R (p)) _ (fun _ h => h.1) Try.underlying55 rfl H4.out) hH ?_
                simp only [Act.put, List.setIfInBounds_toArray, List.set_cons_zero, List.set_cons_succ]
                refine takeD (i := 4) (d := 109) (v := .slice (some ⟨w.heap.size, 0, none⟩) n n) rfl rfl (by kernel_rfl) (by kernel_rfl) (by kernel_rfl) (fun _ _ _ h => h) (Or.inl ⟨by rfl, fun w' _ => by go_simp⟩) hH ?_
                simp only [Act.put, List.setIfInBounds_toArray, List.set_cons_zero, List.set_cons_succ]
                refine takeD (i := 5) (d := 110) (v := .int .i64 (p : Int)) rfl rfl (by kernel_rfl) (by kernel_rfl) (by kernel_rfl) (fun _ _ _ h => h) (Or.inl ⟨by rfl, fun w' _ => by go_simp⟩) hH ?_
                simp only [Act.put, List.setIfInBounds_toArray, List.set_cons_zero, List.set_cons_succ]
                refine takeD (i := 6) (d := 111) (v := .pointer (some ⟨w.heap.size, (p) * 23, none⟩)) rfl rfl (by kernel_rfl) (by kernel_rfl) (by kernel_rfl) (fun _ _ _ h => h) (Or.inl ⟨by rfl, fun w' _ => by go_simp⟩) hH ?_
                simp only [Act.put, List.setIfInBounds_toArray, List.set_cons_zero, List.set_cons_succ]
                refine takeD (i := 7) (d := 112) (v := .agg (R (p)).toArray) rfl rfl (by kernel_rfl) (by kernel_rfl) (by kernel_rfl) (fun _ _ _ h => h) (yieldsIf_load_mid (by rfl) 58 _ rfl _ _ rfl (R (p)) _ (fun _ h => h.2) Try.underlying58 rfl H2.out) hH ?_
                simp only [Act.put, List.setIfInBounds_toArray, List.set_cons_zero, List.set_cons_succ]
                refine wpAnyH_ready (rs := [8]) (by kernel_rfl) (by simp) ?_
                refine AllReadyH.cons rfl (fun K hK => ?_) AllReadyH.nil
                rw [if_pos (by rfl)]
                go_simp
                refine (rank_any (R (p)) HG.out _).mono ?_
                rintro e w3 ⟨rfl, hb3⟩
                have hS3 := hS.drew.below hb3 (hS.lt (by omega))
                have hC3 := hC.drew.below hb3 (hC.lt (by omega))
                refine hK.out _ _ ⟨by have := hS3.range p hlt; rw [HF.out] at this; exact this, hC3.range (p) (by omega)⟩ (fun hH => ?_)
                clear hK K
                refine takeD (i := 9) (d := 114) (v := .bool false) rfl rfl (by kernel_rfl) (by kernel_rfl) (by kernel_rfl) (fun _ _ _ h => h) (yieldsIf_neq (by rfl) _ _ rfl HG.out rfl rfl) hH ?_
                simp only [Act.put, List.setIfInBounds_toArray, List.set_cons_zero, List.set_cons_succ]
                refine wpAnyH_done (by kernel_rfl) ?_ _
                have hB3 := hB.drew.trans (hb3.mono hB.size)
                clear hS hC hB hH HS HC hb3
                go_wp2
                go_roundw
                case rel => first | exact ⟨p + 1, by omega, by go_num, hS3, hC3, hB3⟩ | ((repeat apply Exists.intro); exact ⟨⟨p + 1, by omega, (show Value.int .i64 ((p : Int) + 1) = .int .i64 ((p + 1 : Nat) : Int) from by go_num), hS3, hC3, hB3⟩, rfl⟩)
                case measure => simp [intOf]; omega
              · clear c1 c3
                have HG : Hid (Good (R (p))) := hR (p) (by omega)
                have H2 : Hid ((Try.prog.info? 58).map (·.size) = some (R (p)).length) := by rw [HG.out.len]; exact Try.size58
                have H4 : Hid ((Try.prog.info? 55).map (·.size) = some (R (p)).length) := by rw [HG.out.len]; exact Try.size55
                have HS : wr.rangeAt g (p * 23) (R (p)) := by have := hS.range p hlt; rw [HF.out] at this; exact this
                have HC := hC.range (p) (by omega)
                have hpi : (p : Int) < (n : Int) := by omega
                go_wp2_with fail
                refine wp_region_held_drew (S := fun w' => w'.rangeAt g (p * 23) (R (p)) ∧ w'.rangeAt w.heap.size ((p) * 23) (R (p))) (by kernel_rfl) ⟨HS, HC⟩ (fun hH => ?_)
                refine takeD (i := 0) (d := 105) (v := .slice (some ⟨g, 0, none⟩) n n) rfl rfl (by kernel_rfl) (by kernel_rfl) (by kernel_rfl) (fun _ _ _ h => h) (Or.inl ⟨by rfl, fun w' _ => by go_simp⟩) hH ?_
                simp only [Act.put, List.setIfInBounds_toArray, List.set_cons_zero, List.set_cons_succ]
                refine takeD (i := 1) (d := 106) (v := .int .i64 p) rfl rfl (by kernel_rfl) (by kernel_rfl) (by kernel_rfl) (fun _ _ _ h => h) (Or.inl ⟨by rfl, fun w' _ => by go_simp⟩) hH ?_
                simp only [Act.put, List.setIfInBounds_toArray, List.set_cons_zero, List.set_cons_succ]
                refine takeD (i := 2) (d := 107) (v := .pointer (some ⟨g, p * 23, none⟩)) rfl rfl (by kernel_rfl) (by kernel_rfl) (by kernel_rfl) (fun _ _ _ h => h) (Or.inl ⟨by rfl, fun w' _ => by go_simp⟩) hH ?_
                simp only [Act.put, List.setIfInBounds_toArray, List.set_cons_zero, List.set_cons_succ]
                refine takeD (i := 3) (d := 108) (v := .agg (R (p)).toArray) rfl rfl (by kernel_rfl) (by kernel_rfl) (by kernel_rfl) (fun _ _ _ h => h) (yieldsIf_load_mid (by rfl) 55 _ rfl _ _ rfl (R (p)) _ (fun _ h => h.1) Try.underlying55 rfl H4.out) hH ?_
                simp only [Act.put, List.setIfInBounds_toArray, List.set_cons_zero, List.set_cons_succ]
                refine takeD (i := 4) (d := 109) (v := .slice (some ⟨w.heap.size, 0, none⟩) n n) rfl rfl (by kernel_rfl) (by kernel_rfl) (by kernel_rfl) (fun _ _ _ h => h) (Or.inl ⟨by rfl, fun w' _ => by go_simp⟩) hH ?_
                simp only [Act.put, List.setIfInBounds_toArray, List.set_cons_zero, List.set_cons_succ]
                refine takeD (i := 5) (d := 110) (v := .int .i64 (p : Int)) rfl rfl (by kernel_rfl) (by kernel_rfl) (by kernel_rfl) (fun _ _ _ h => h) (Or.inl ⟨by rfl, fun w' _ => by go_simp⟩) hH ?_
                simp only [Act.put, List.setIfInBounds_toArray, List.set_cons_zero, List.set_cons_succ]
                refine takeD (i := 6) (d := 111) (v := .pointer (some ⟨w.heap.size, (p) * 23, none⟩)) rfl rfl (by kernel_rfl) (by kernel_rfl) (by kernel_rfl) (fun _ _ _ h => h) (Or.inl ⟨by rfl, fun w' _ => by go_simp⟩) hH ?_
                simp only [Act.put, List.setIfInBounds_toArray, List.set_cons_zero, List.set_cons_succ]
                refine takeD (i := 7) (d := 112) (v := .agg (R (p)).toArray) rfl rfl (by kernel_rfl) (by kernel_rfl) (by kernel_rfl) (fun _ _ _ h => h) (yieldsIf_load_mid (by rfl) 58 _ rfl _ _ rfl (R (p)) _ (fun _ h => h.2) Try.underlying58 rfl H2.out) hH ?_
                simp only [Act.put, List.setIfInBounds_toArray, List.set_cons_zero, List.set_cons_succ]
                refine wpAnyH_ready (rs := [8]) (by kernel_rfl) (by simp) ?_
                refine AllReadyH.cons rfl (fun K hK => ?_) AllReadyH.nil
                rw [if_pos (by rfl)]
                go_simp
                refine (rank_any (R (p)) HG.out _).mono ?_
                rintro e w3 ⟨rfl, hb3⟩
                have hS3 := hS.drew.below hb3 (hS.lt (by omega))
                have hC3 := hC.drew.below hb3 (hC.lt (by omega))
                refine hK.out _ _ ⟨by have := hS3.range p hlt; rw [HF.out] at this; exact this, hC3.range (p) (by omega)⟩ (fun hH => ?_)
                clear hK K
                refine takeD (i := 9) (d := 114) (v := .bool false) rfl rfl (by kernel_rfl) (by kernel_rfl) (by kernel_rfl) (fun _ _ _ h => h) (yieldsIf_neq (by rfl) _ _ rfl HG.out rfl rfl) hH ?_
                simp only [Act.put, List.setIfInBounds_toArray, List.set_cons_zero, List.set_cons_succ]
                refine wpAnyH_done (by kernel_rfl) ?_ _
                have hB3 := hB.drew.trans (hb3.mono hB.size)
                clear hS hC hB hH HS HC hb3
                go_wp2
                go_roundw
                case rel => first | exact ⟨p + 1, by omega, by go_num, hS3, hC3, hB3⟩ | ((repeat apply Exists.intro); exact ⟨⟨p + 1, by omega, (show Value.int .i64 ((p : Int) + 1) = .int .i64 ((p + 1 : Nat) : Int) from by go_num), hS3, hC3, hB3⟩, rfl⟩)
                case measure => simp [intOf]; omega
              · clear c1 c3
                have HG : Hid (Good (R (p))) := hR (p) (by omega)
                have H2 : Hid ((Try.prog.info? 58).map (·.size) = some (R (p)).length) := by rw [HG.out.len]; exact Try.size58
                have H4 : Hid ((Try.prog.info? 55).map (·.size) = some (R (p)).length) := by rw [HG.out.len]; exact Try.size55
                have HS : wr.rangeAt g (p * 23) (R (p)) := by have := hS.range p hlt; rw [HF.out] at this; exact this
                have HC := hC.range (p) (by omega)
                have hpi : (p : Int) < (n : Int) := by omega
                go_wp2_with fail
                refine wp_region_held_drew (S := fun w' => w'.rangeAt g (p * 23) (R (p)) ∧ w'.rangeAt w.heap.size ((p) * 23) (R (p))) (by kernel_rfl) ⟨HS, HC⟩ (fun hH => ?_)
                refine takeD (i := 0) (d := 105) (v := .slice (some ⟨g, 0, none⟩) n n) rfl rfl (by kernel_rfl) (by kernel_rfl) (by kernel_rfl) (fun _ _ _ h => h) (Or.inl ⟨by rfl, fun w' _ => by go_simp⟩) hH ?_
                simp only [Act.put, List.setIfInBounds_toArray, List.set_cons_zero, List.set_cons_succ]
                refine takeD (i := 1) (d := 106) (v := .int .i64 p) rfl rfl (by kernel_rfl) (by kernel_rfl) (by kernel_rfl) (fun _ _ _ h => h) (Or.inl ⟨by rfl, fun w' _ => by go_simp⟩) hH ?_
                simp only [Act.put, List.setIfInBounds_toArray, List.set_cons_zero, List.set_cons_succ]
                refine takeD (i := 2) (d := 107) (v := .pointer (some ⟨g, p * 23, none⟩)) rfl rfl (by kernel_rfl) (by kernel_rfl) (by kernel_rfl) (fun _ _ _ h => h) (Or.inl ⟨by rfl, fun w' _ => by go_simp⟩) hH ?_
                simp only [Act.put, List.setIfInBounds_toArray, List.set_cons_zero, List.set_cons_succ]
                refine takeD (i := 3) (d := 108) (v := .agg (R (p)).toArray) rfl rfl (by kernel_rfl) (by kernel_rfl) (by kernel_rfl) (fun _ _ _ h => h) (yieldsIf_load_mid (by rfl) 55 _ rfl _ _ rfl (R (p)) _ (fun _ h => h.1) Try.underlying55 rfl H4.out) hH ?_
                simp only [Act.put, List.setIfInBounds_toArray, List.set_cons_zero, List.set_cons_succ]
                refine takeD (i := 4) (d := 109) (v := .slice (some ⟨w.heap.size, 0, none⟩) n n) rfl rfl (by kernel_rfl) (by kernel_rfl) (by kernel_rfl) (fun _ _ _ h => h) (Or.inl ⟨by rfl, fun w' _ => by go_simp⟩) hH ?_
                simp only [Act.put, List.setIfInBounds_toArray, List.set_cons_zero, List.set_cons_succ]
                refine takeD (i := 5) (d := 110) (v := .int .i64 (p : Int)) rfl rfl (by kernel_rfl) (by kernel_rfl) (by kernel_rfl) (fun _ _ _ h => h) (Or.inl ⟨by rfl, fun w' _ => by go_simp⟩) hH ?_
                simp only [Act.put, List.setIfInBounds_toArray, List.set_cons_zero, List.set_cons_succ]
                refine takeD (i := 6) (d := 111) (v := .pointer (some ⟨w.heap.size, (p) * 23, none⟩)) rfl rfl (by kernel_rfl) (by kernel_rfl) (by kernel_rfl) (fun _ _ _ h => h) (Or.inl ⟨by rfl, fun w' _ => by go_simp⟩) hH ?_
                simp only [Act.put, List.setIfInBounds_toArray, List.set_cons_zero, List.set_cons_succ]
                refine takeD (i := 7) (d := 112) (v := .agg (R (p)).toArray) rfl rfl (by kernel_rfl) (by kernel_rfl) (by kernel_rfl) (fun _ _ _ h => h) (yieldsIf_load_mid (by rfl) 58 _ rfl _ _ rfl (R (p)) _ (fun _ h => h.2) Try.underlying58 rfl H2.out) hH ?_
                simp only [Act.put, List.setIfInBounds_toArray, List.set_cons_zero, List.set_cons_succ]
                refine wpAnyH_ready (rs := [8]) (by kernel_rfl) (by simp) ?_
                refine AllReadyH.cons rfl (fun K hK => ?_) AllReadyH.nil
                rw [if_pos (by rfl)]
                go_simp
                refine (rank_any (R (p)) HG.out _).mono ?_
                rintro e w3 ⟨rfl, hb3⟩
                have hS3 := hS.drew.below hb3 (hS.lt (by omega))
                have hC3 := hC.drew.below hb3 (hC.lt (by omega))
                refine hK.out _ _ ⟨by have := hS3.range p hlt; rw [HF.out] at this; exact this, hC3.range (p) (by omega)⟩ (fun hH => ?_)
                clear hK K
                refine takeD (i := 9) (d := 114) (v := .bool false) rfl rfl (by kernel_rfl) (by kernel_rfl) (by kernel_rfl) (fun _ _ _ h => h) (yieldsIf_neq (by rfl) _ _ rfl HG.out rfl rfl) hH ?_
                simp only [Act.put, List.setIfInBounds_toArray, List.set_cons_zero, List.set_cons_succ]
                refine wpAnyH_done (by kernel_rfl) ?_ _
                have hB3 := hB.drew.trans (hb3.mono hB.size)
                clear hS hC hB hH HS HC hb3
                go_wp2
                go_roundw
                case rel => first | exact ⟨p + 1, by omega, by go_num, hS3, hC3, hB3⟩ | ((repeat apply Exists.intro); exact ⟨⟨p + 1, by omega, (show Value.int .i64 ((p : Int) + 1) = .int .i64 ((p + 1 : Nat) : Int) from by go_num), hS3, hC3, hB3⟩, rfl⟩)
                case measure => simp [intOf]; omega
        · go_wp2
          go_ret
          exact ⟨rfl, hB⟩

set_option maxRecDepth 100000 in
set_option maxHeartbeats 1000000 in
/-- Too many ranks: true at once. -/
theorem chain_long (ao : Option Addr) (n c : Nat) (i j : Int) (h1 : (4096 : Int) < (n : Int)) (h2 : (n : Int) ≤ 9223372036854775807) (w : World) :
    Calls Try.prog 5 #[.slice ao n c, .int .i64 i, .int .i64 j] w fun e w' => e = .returned (.bool true) ∧ Below w.heap.size w w' := by
  go_enter Try.func5, Try.ntmps5
  go_wp2_with (go_at_call 16; refine (bytes_chain _ _ _ (by omega) _ _ _).mono ?_; rintro e w ⟨⟨bb, rfl, _⟩, rfl⟩; cases bb)
  all_goals (go_ret; exact ⟨rfl, Below.refl _ _⟩)

set_option maxRecDepth 100000 in
set_option maxHeartbeats 1000000 in
/-- A place that is none: true at once. -/
theorem chain_out (ao : Option Addr) (n c : Nat) (i j : Int) (hn : n ≤ 4096) (h : i < 0 ∨ (n : Int) ≤ i ∨ j < 0 ∨ (n : Int) ≤ j) (w : World) :
    Calls Try.prog 5 #[.slice ao n c, .int .i64 i, .int .i64 j] w fun e w' => e = .returned (.bool true) ∧ Below w.heap.size w w' := by
  rcases (show i < 0 ∨ (0 ≤ i ∧ (n : Int) ≤ i) ∨ (0 ≤ i ∧ i < (n : Int) ∧ j < 0) ∨ (0 ≤ i ∧ i < (n : Int) ∧ 0 ≤ j ∧ (n : Int) ≤ j) from by omega) with d1 | ⟨d1, d2⟩ | ⟨d1, d2, d3⟩ | ⟨d1, d2, d3, d4⟩
  all_goals
    clear h
    go_enter Try.func5, Try.ntmps5
    go_wp2_with (go_at_call 16; refine (bytes_chain _ _ _ (by omega) _ _ _).mono ?_; rintro e w ⟨⟨bb, rfl, hbb⟩, rfl⟩; obtain rfl := hbb hn; clear hbb)
    go_ret
    exact ⟨rfl, Below.refl _ _⟩

end Go.Proofs.Qxb6603638a
