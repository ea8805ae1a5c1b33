import Derived.Test.Qxb6603638aSwap
namespace Go.Proofs.Qxb6603638a
open Go.RowKit

/-- What the bound's function leaves: some answer, true for at most 4096 ranks. -/
def BytesPost (n : Nat) (w : World) (e : Ending) (w' : World) : Prop := (∃ b, e = .returned (.bool b) ∧ (n ≤ 4096 → b = true)) ∧ w' = w
theorem BytesPost.yes (n : Nat) (w : World) : BytesPost n w (.returned (.bool true)) w := ⟨⟨true, rfl, fun _ => rfl⟩, rfl⟩
theorem BytesPost.no {n : Nat} (h : 4096 < n) (w : World) : BytesPost n w (.returned (.bool false)) w := ⟨⟨false, rfl, fun _ => by omega⟩, rfl⟩

set_option maxRecDepth 100000 in
set_option maxHeartbeats 1000000 in
theorem bytes_script (a : Option Addr) (n c : Nat) (hn : (n : Int) ≤ 9223372036854775807) (w : World) :
    Calls Try.prog 11 #[.slice a n c] w (BytesPost n w) := by
  by_cases hbig : 1048576 < (n : Int)
  · go_enter Try.func11, Try.ntmps11
    go_wp2
    go_ret
    exact BytesPost.no (by omega) w
  · go_enter Try.func11, Try.ntmps11
    go_wp2
    go_loop [3, 4] (fun z i => ∃ k : Nat, k ≤ n ∧ i = .int .i64 k ∧ z = .int .i64 ((n : Int) + 20 * (k : Int)) ∧ (n : Int) + 20 * (k : Int) ≤ 1048576) (fun _ i => n - (intOf i).toNat)
    case atStart => exact ⟨0, Nat.zero_le _, rfl, by simp, by omega⟩
    case round =>
      obtain ⟨k, hk, rfl, rfl, hb⟩ := hrel
      by_cases hlt : k < n
      · by_cases hov : 1048576 < (n : Int) + 20 * (k : Int) + 20
        · go_wp2
          go_ret
          exact BytesPost.no (by omega) w
        · go_wp2
          go_round
          case rel => exact ⟨k + 1, by omega, by go_num, by go_num, by omega⟩
          case measure => simp [intOf]; omega
      · go_wp2
        go_ret
        exact BytesPost.yes n w
set_option maxRecDepth 100000 in
set_option maxHeartbeats 1000000 in
theorem bytes_chain (a : Option Addr) (n c : Nat) (hn : (n : Int) ≤ 9223372036854775807) (i j : Int) (w : World) :
    Calls Try.prog 16 #[.slice a n c, .int .i64 i, .int .i64 j] w (BytesPost n w) := by
  by_cases hbig : 1048576 < (n : Int)
  · go_enter Try.func16, Try.ntmps16
    go_wp2
    go_ret
    exact BytesPost.no (by omega) w
  · go_enter Try.func16, Try.ntmps16
    go_wp2
    go_loop [7, 8] (fun z i => ∃ k : Nat, k ≤ n ∧ i = .int .i64 k ∧ z = .int .i64 ((n : Int) + 20 * (k : Int)) ∧ (n : Int) + 20 * (k : Int) ≤ 1048576) (fun _ i => n - (intOf i).toNat)
    case atStart => exact ⟨0, Nat.zero_le _, rfl, by simp, by omega⟩
    case round =>
      obtain ⟨k, hk, rfl, rfl, hb⟩ := hrel
      by_cases hlt : k < n
      · by_cases hov : 1048576 < (n : Int) + 20 * (k : Int) + 20
        · go_wp2
          go_ret
          exact BytesPost.no (by omega) w
        · go_wp2
          go_round
          case rel => exact ⟨k + 1, by omega, by go_num, by go_num, by omega⟩
          case measure => simp [intOf]; omega
      · go_wp2
        go_ret
        exact BytesPost.yes n w

theorem Try.zero58 : (Try.prog.info? 58).map (fun i => (i.zero, i.size, i.bytes)) = (Try.prog.info? 55).map (fun i => (i.zero, i.size, i.bytes)) := by kernel_rfl

/-- 'make' of n ranks: a new block of n * 23 cells. -/
theorem run_make_ranks {t e : TypeId} (ht : Try.prog.underlying t = some (.slice e)) {z : Value} (hinfo : (Try.prog.info? e).map (fun i => (i.zero, i.size, i.bytes)) = some (some z, 23, 48)) (n : Nat) (hn : n ≤ 4096) (w : World) :
    (Instr.makeSlice t (.int .i64 (n : Int)) (.int .i64 (n : Int))).run Try.prog w = .ok (.slice (some ⟨w.heap.size, 0, none⟩) n n) (w.alloc (.cells (madeCells z.cells (n * 23)) e)) := by
  obtain ⟨i, hi, hz, hs, hb⟩ := info_parts hinfo
  have h := run_make (P := Try.prog) w t e i z ht hi hz .i64 .i64 n n (by omega) (by omega) (by rw [hb]; omega) (by omega)
  simpa [hs] using h

/-- What the copy of the ranks has come to behind k rounds. -/
structure Copied (B n k : Nat) (R : Nat → List Value) (w wr : World) : Prop where
  recs : ∃ R', Recs wr B n R' ∧ ∀ j, j < k → R' j = R j
  bel : Below B w wr

theorem Copied.start {n : Nat} (R : Nat → List Value) (w : World) {C : Array Value} (hC : C.size = n * 23) (t : TypeId) : Copied w.heap.size n 0 R w (w.alloc (.cells C t)) :=
  ⟨⟨_, Recs.made w C t n hC, fun j h => by omega⟩, (Below.refl _ w).alloc (Nat.le_refl _) _⟩

theorem Copied.there {B n k : Nat} {R : Nat → List Value} {w wr : World} (h : Copied B n k R w wr) {j : Nat} (hj : j < n) : wr.there B (j * 23) 23 := by
  obtain ⟨R', hR, _⟩ := h.recs
  exact hR.there j hj

theorem Copied.step {B n k : Nat} {R : Nat → List Value} {w wr : World} (h : Copied B n k R w wr) (hk : k < n) (hl : (R k).length = 23) : Copied B n (k + 1) R w (wr.setCells B (k * 23) (R k)) := by
  obtain ⟨R', hR, he⟩ := h.recs
  refine ⟨⟨_, hR.set hk hl, fun j hj => ?_⟩, below_setCells _ (Nat.le_refl _) _ _ _ h.bel⟩
  simp only [upd]
  split
  · next e => rw [e]
  · exact he j (by omega)

theorem Copied.done {B n : Nat} {R : Nat → List Value} {w wr : World} (h : Copied B n n R w wr) : Recs wr B n R := by
  obtain ⟨R', hR, he⟩ := h.recs
  exact hR.congr (fun k hk => (he k hk).symm)

theorem Copied.below {B n k : Nat} {R : Nat → List Value} {w wr w' : World} (h : Copied B n k R w wr) (hB : B < wr.heap.size) (hb : Below wr.heap.size wr w') : Copied B n k R w w' := by
  obtain ⟨R', hR, he⟩ := h.recs
  exact ⟨⟨R', hR.below hb hB, he⟩, h.bel.trans (hb.mono (by omega))⟩

set_option maxRecDepth 100000 in
set_option maxHeartbeats 1000000 in
theorem copy_any (x : Addr) (b off n c : Nat) (hx : 0 < n → x = ⟨b, off, none⟩) (hn : n ≤ 4096) (R : Nat → List Value) (hR : ∀ k, k < n → Good (R k)) (w : World) (hb : 0 < n → b < w.heap.size) (hr : ∀ k, k < n → w.rangeAt b (off + k * 23) (R k)) :
    Calls Try.prog 12 #[.slice (some x) n c] w fun e w' => e = .returned (.slice (some ⟨w.heap.size, 0, none⟩) n n) ∧ Recs w' w.heap.size n R ∧ Below w.heap.size w w' := by
  have hq : ∀ (w : World) (a : Option Addr) (n c n' c' : Nat), (binOp .eql 46 (.slice a n c) (.slice none n' c')).run Try.prog w = .ok (.bool a.isNone) w := fun w a n c n' c' => Lib.run_eql_slice_nil w _ _ a n c n' c' Try.underlying46
  have hmk := fun ww => run_make_ranks Try.underlying46 Try.info58 n hn ww
  have HX : Hid (0 < n → x = ⟨b, off, none⟩) := hx
  have HR : Hid (∀ k, k < n → w.rangeAt b (off + k * 23) (R k)) := hr
  clear hr hx
  go_enter Try.func12, Try.ntmps12
  go_wp2
  clear hmk hq
  go_loopw [4] (fun i wr => ∃ k : Nat, k ≤ n ∧ i = .int .i64 k ∧ Copied w.heap.size n k R w wr) (fun i _ => n - (intOf i).toNat)
  case atStart => exact ⟨0, Nat.zero_le _, rfl, Copied.start R w (by simp [size_madeCells]) 58⟩
  case round =>
    obtain ⟨k, hk, rfl, hcp⟩ := hrel
    by_cases hlt : k < n
    · obtain rfl := HX.out (by omega)
      have HG : Hid (Good (R k)) := hR k hlt
      have H1 : Hid (wr.rangeAt b (off + k * 23) (R k)) := rangeAt_of_cells (HR.out k hlt) (fun j => hcp.bel.cell (p := ⟨b, j, none⟩) (hb (by omega)))
      have H2 : Hid ((Try.prog.info? 58).map (·.size) = some (R k).length) := by rw [HG.out.len]; exact Try.size58
      have H3 : Hid (wr.there w.heap.size (k * 23) (R k).toArray.size) := by have e : (R k).toArray.size = 23 := HG.out.len; rw [e]; exact hcp.there hlt
      go_wp2_with (first | (refine wpList_load_mid rfl 58 (.tmp 20) rfl _ _ rfl (R k) _ H1.out Try.underlying58 rfl H2.out ?_) | (refine wpList_store_mid rfl 58 (.tmp 22) (.tmp 21) rfl _ _ _ rfl rfl H3.out H2.out (all_oneCell_toArray HG.out.one) ?_))
      go_roundw
      case rel => exact ⟨k + 1, by omega, by go_num, hcp.step hlt HG.out.len⟩
      case measure => simp [intOf]; omega
    · obtain rfl : k = n := by omega
      go_wp2
      go_ret
      exact ⟨rfl, hcp.done, hcp.bel⟩

/-- .. of no rank at all. -/
theorem copy_nil (w : World) : Calls Try.prog 12 #[.slice none 0 0] w fun e w' => e = .returned (.slice none 0 0) ∧ w' = w := by
  have hq : ∀ (w : World) (a : Option Addr) (n c n' c' : Nat), (binOp .eql 46 (.slice a n c) (.slice none n' c')).run Try.prog w = .ok (.bool a.isNone) w := fun w a n c n' c' => Lib.run_eql_slice_nil w _ _ a n c n' c' Try.underlying46
  go_enter Try.func12, Try.ntmps12
  go_wp2
  go_ret
  exact ⟨rfl, rfl⟩

set_option maxRecDepth 100000 in
set_option maxHeartbeats 1000000 in
theorem ranks_any (ao : Option Addr) (b n c : Nat) (hx : 0 < n → ao = some ⟨b, 0, none⟩) (hn : n ≤ 4096) (R : Nat → List Value) (hR : ∀ k, k < n → Good (R k)) (w : World) (hb : 0 < n → b < w.heap.size) (hr : ∀ k, k < n → w.rangeAt b (k * 23) (R k)) :
    Calls Try.prog 13 #[.slice ao n c] w fun e w' => e = .returned (.slice (some ⟨w.heap.size, 0, none⟩) n n) ∧ Recs w' w.heap.size n R ∧ Below w.heap.size w w' := by
  have hmk := fun ww => run_make_ranks Try.underlying50 Try.info55 n hn ww
  have HX : Hid (0 < n → ao = some ⟨b, 0, none⟩) := hx
  have HR : Hid (∀ k, k < n → w.rangeAt b (k * 23) (R k)) := hr
  clear hr hx
  go_enter Try.func13, Try.ntmps13
  go_wp2
  clear hmk
  go_loopw [4] (fun i wr => ∃ k : Nat, k ≤ n ∧ i = .int .i64 k ∧ Copied w.heap.size n k R w wr ∧ w.heap.size < wr.heap.size) (fun i _ => n - (intOf i).toNat)
  case atStart => exact ⟨0, Nat.zero_le _, rfl, Copied.start R w (by simp [size_madeCells]) 55, by simp⟩
  case round =>
    obtain ⟨k, hk, rfl, hcp, hsz⟩ := hrel
    by_cases hlt : k < n
    · obtain rfl := HX.out (by omega)
      have HG : Hid (Good (R k)) := hR k hlt
      have H1 : Hid (wr.rangeAt b (k * 23) (R k)) := rangeAt_of_cells (HR.out k hlt) (fun j => hcp.bel.cell (p := ⟨b, j, none⟩) (hb (by omega)))
      have H2 : Hid ((Try.prog.info? 58).map (·.size) = some (R k).length) := by rw [HG.out.len]; exact Try.size58
      have H4 : Hid ((Try.prog.info? 55).map (·.size) = some (R k).length) := by rw [HG.out.len]; exact Try.size55
      have e : Hid ((R k).toArray.size = 23) := HG.out.len
      go_wp2_with (first | (refine wpList_load_mid rfl 58 (.tmp 18) rfl _ _ rfl (R k) _ H1.out Try.underlying58 rfl H2.out ?_) | (go_at_call 15; refine (rank_any (R k) HG.out _).mono ?_; rintro e' w1 ⟨rfl, hb1⟩; have hcp1 := hcp.below hsz hb1; have H3 : Hid (w1.there w.heap.size (k * 23) (R k).toArray.size) := (by rw [e.out]; exact hcp1.there hlt)) | (refine wpList_store_mid rfl 55 (.tmp 21) (.tmp 20) rfl _ _ _ rfl rfl H3.out H4.out (all_oneCell_toArray HG.out.one) ?_))
      go_roundw
      case rel => exact ⟨k + 1, by omega, by go_num, hcp1.step hlt HG.out.len, Nat.lt_of_lt_of_le (Nat.lt_of_lt_of_le hsz hb1.size) (below_setCells (B := 0) _ (Nat.zero_le _) _ _ _ (Below.refl 0 w1)).size⟩
      case measure => simp [intOf]; omega
    · obtain rfl : k = n := by omega
      go_wp2
      go_ret
      exact ⟨rfl, hcp.done, hcp.bel⟩

set_option maxRecDepth 100000 in
set_option maxHeartbeats 1000000 in
theorem zzswap_any (B g n i j : Nat) (hi : i < n) (hj : j < n) (R : Nat → List Value) (hR : ∀ k, k < n → Good (R k)) (w0 w : World) (h : Recs w g n R) (hB : B ≤ g) (hbel : Below B w0 w) :
    Calls Try.prog 14 #[.slice (some ⟨g, 0, none⟩) n n, .int .i64 i, .int .i64 j] w fun e w' => e = .returned (.tuple #[]) ∧ Recs w' g n (swapR R i j) ∧ Below B w0 w' ∧ (∀ g' m R', g' ≠ g → Recs w g' m R' → Recs w' g' m R') := by
  have HS : Hid (∀ (W : World), W = w → Calls Try.prog 19 #[.slice (some ⟨g, 0, none⟩) n n, .int .i64 i, .int .i64 j] W fun e w' => e = .returned (.tuple #[]) ∧ w' = (w.drew.setCells g (i * 23) (R j)).setCells g (j * 23) (R i)) := by
    rintro W rfl
    exact swap_any g n i j hi hj (R i) (R j) (h.len i hi) (h.len j hj) (hR i hi).one (hR j hj).one W (h.range i hi) (h.range j hj) (h.there i hi) (h.there j hj)
  go_enter Try.func14, Try.ntmps14
  go_wp2_with fail
  refine (HS.out w rfl).mono ?_
  rintro e w1 ⟨rfl, rfl⟩
  go_wp2
  go_end0
  refine ⟨rfl, h.swap hi hj, below_setCells _ hB _ _ _ (below_setCells _ hB _ _ _ hbel.drew), fun g' m R' hg hr => (hr.drew.other hg _ _).other hg _ _⟩
end Go.Proofs.Qxb6603638a
