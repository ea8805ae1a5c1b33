import Derived.Test.Qxb6603742aRing
import Derived.Deep.OwnRows
namespace Go.Proofs.Qxb6603742a
open Go.RowKit
set_option linter.unusedVariables false

/-- A slice of strings: of an empty one nothing is known. -/
def Names (w : World) (ao : Option Addr) (n : Nat) (S : Nat → ByteArray) : Prop :=
  ∃ b off, (0 < n → ao = some ⟨b, off, none⟩ ∧ b < w.heap.size) ∧ ∀ k, k < n → w.cell? ⟨b, off + k, none⟩ = some (.string (S k)) ∧ (S k).size ≤ 9223372036854775807

/-- Some answer; the world stands. -/
def SomeBool (w : World) (e : Ending) (w' : World) : Prop := (∃ b, e = .returned (.bool b)) ∧ w = w'
theorem SomeBool.mk' (w : World) (b : Bool) : SomeBool w (.returned (.bool b)) w := ⟨⟨b, rfl⟩, rfl⟩

/-- The first k strings are small. -/
def SmallTo (S : Nat → ByteArray) (k : Nat) : Prop := ∀ j, j < k → (S j).size ≤ 1048576
theorem SmallTo.step {S : Nat → ByteArray} {k : Nat} (h : SmallTo S k) (hk : (S k).size ≤ 1048576) : SmallTo S (k + 1) := fun j hj => by
  rcases Nat.lt_succ_iff_lt_or_eq.1 hj with c | rfl
  · exact h j c
  · exact hk
/-- What the bound's function leaves: some answer; where it is yes the names are small. -/
def BytesPost (n : Nat) (S : Nat → ByteArray) (w : World) (e : Ending) (w' : World) : Prop := (∃ b, e = .returned (.bool b) ∧ (b = true → SmallTo S n)) ∧ w = w'
theorem BytesPost.no (n : Nat) (S : Nat → ByteArray) (w : World) : BytesPost n S w (.returned (.bool false)) w := ⟨⟨false, rfl, fun h => by cases h⟩, rfl⟩
theorem BytesPost.yes {n : Nat} {S : Nat → ByteArray} (h : SmallTo S n) (w : World) : BytesPost n S w (.returned (.bool true)) w := ⟨⟨true, rfl, fun _ => h⟩, rfl⟩

set_option maxRecDepth 100000 in
set_option maxHeartbeats 1000000 in
theorem bytes_any (x y : Int) (a1 a2 a3 : Option Addr) (l1 c1 l2 c2 l3 c3 : Nat) (h1 : (l1 : Int) ≤ 9223372036854775807) (h2 : (l2 : Int) ≤ 9223372036854775807) (h3 : (l3 : Int) ≤ 9223372036854775807) (S : Nat → ByteArray) (w : World) (hS : Names w a2 l2 S) :
    Calls Try.prog 8 #[.int .i64 x, .int .i64 y, .slice a1 l1 c1, .slice a2 l2 c2, .slice a3 l3 c3] w (BytesPost l2 S w) := by
  obtain ⟨b, off, ha, hc⟩ := hS
  have HA : Hid (0 < l2 → a2 = some ⟨b, off, none⟩ ∧ b < w.heap.size) := ha
  have HC : Hid (∀ k, k < l2 → w.cell? ⟨b, off + k, none⟩ = some (.string (S k)) ∧ (S k).size ≤ 9223372036854775807) := hc
  clear ha hc
  by_cases g1 : 1048576 < (l1 : Int)
  · go_enter Try.func8, Try.ntmps8
    go_wp2
    go_ret
    exact BytesPost.no _ _ _
  by_cases g2 : 1048576 < (l2 : Int)
  · go_enter Try.func8, Try.ntmps8
    go_wp2
    go_ret
    exact BytesPost.no _ _ _
  by_cases g3 : 1048576 < (l1 : Int) + (l2 : Int)
  · go_enter Try.func8, Try.ntmps8
    go_wp2
    go_ret
    exact BytesPost.no _ _ _
  go_enter Try.func8, Try.ntmps8
  go_wp2
  go_loop [11, 12] (fun z i => ∃ (k : Nat) (t : Int), k ≤ l2 ∧ i = .int .i64 k ∧ z = .int .i64 t ∧ 0 ≤ t ∧ t ≤ 1048576 ∧ SmallTo S k) (fun _ i => l2 - (intOf i).toNat)
  case atStart => exact ⟨0, _, Nat.zero_le _, rfl, rfl, by omega, by omega, fun j h => by omega⟩
  case round =>
    obtain ⟨k, t, hk, rfl, rfl, ht0, ht1, hsm⟩ := hrel
    by_cases hlt : k < l2
    · obtain ⟨hc, hsz⟩ := HC.out k hlt
      obtain rfl := (HA.out (by omega)).1
      obtain ⟨s, hs⟩ : ∃ s, s = S k := ⟨_, rfl⟩
      rw [← hs] at hc hsz
      have hsi : ((s.size : Nat) : Int) ≤ 9223372036854775807 := by omega
      have HS : Hid (s = S k) := hs
      clear hs hsz
      by_cases q1 : 1048576 < ((s.size : Nat) : Int)
      · go_wp2
        go_ret
        exact BytesPost.no _ _ _
      · by_cases q2 : 1048576 < t + ((s.size : Nat) : Int)
        · go_wp2
          go_ret
          exact BytesPost.no _ _ _
        · go_wp2
          go_round
          case rel => exact ⟨k + 1, _, by omega, by go_num, rfl, by omega, by omega, hsm.step (by rw [← HS.out]; omega)⟩
          case measure => simp [intOf]; omega
    · by_cases g4 : 1048576 < (l3 : Int)
      · go_wp2
        go_ret
        exact BytesPost.no _ _ _
      · by_cases g5 : 1048576 < t + (l3 : Int)
        · go_wp2
          go_ret
          exact BytesPost.no _ _ _
        · go_wp2
          go_ret
          exact BytesPost.yes (by obtain rfl : k = l2 := (by omega); exact hsm) _

set_option maxRecDepth 100000 in
set_option maxHeartbeats 1000000 in
theorem names_any (base : Int) (h0 : 0 ≤ base) (h1 : base ≤ 2097152) (a2 : Option Addr) (l2 c2 : Nat) (h2 : l2 ≤ 65536) (S : Nat → ByteArray) (hsm : SmallTo S l2) (w : World) (hS : Names w a2 l2 S) :
    Calls Try.prog 9 #[.slice a2 l2 c2, .int .i64 base] w (SomeBool w) := by
  obtain ⟨b, off, ha, hc⟩ := hS
  have HA : Hid (0 < l2 → a2 = some ⟨b, off, none⟩ ∧ b < w.heap.size) := ha
  have HC : Hid (∀ k, k < l2 → w.cell? ⟨b, off + k, none⟩ = some (.string (S k)) ∧ (S k).size ≤ 9223372036854775807) := hc
  clear ha hc
  by_cases g1 : 1048576 < base + 16 * (l2 : Int)
  · go_enter Try.func9, Try.ntmps9
    go_wp2
    go_ret
    exact SomeBool.mk' _ _
  go_enter Try.func9, Try.ntmps9
  go_wp2
  go_loop [5, 6] (fun z i => ∃ (k : Nat) (t : Int), k ≤ l2 ∧ i = .int .i64 k ∧ z = .int .i64 t ∧ 0 ≤ t ∧ t ≤ 1048576) (fun _ i => l2 - (intOf i).toNat)
  case atStart => exact ⟨0, _, Nat.zero_le _, rfl, rfl, by omega, by omega⟩
  case round =>
    obtain ⟨k, t, hk, rfl, rfl, ht0, ht1⟩ := hrel
    by_cases hlt : k < l2
    · obtain ⟨hc, hsz⟩ := HC.out k hlt
      obtain rfl := (HA.out (by omega)).1
      obtain ⟨s, hs⟩ : ∃ s, s = S k := ⟨_, rfl⟩
      have hs1 := hsm k hlt
      rw [← hs] at hc hs1
      have hsi : ((s.size : Nat) : Int) ≤ 1048576 := by omega
      clear hs hsz hs1
      by_cases q2 : 1048576 < t + ((s.size : Nat) : Int)
      · go_wp2
        go_ret
        exact SomeBool.mk' _ _
      · go_wp2
        go_round
        case rel => exact ⟨k + 1, _, by omega, by go_num, rfl, by omega, by omega⟩
        case measure => simp [intOf]; omega
    · go_wp2
      go_ret
      exact SomeBool.mk' _ _

theorem Try.info45 : (Try.prog.info? 45).map (fun i => (i.zero, i.size, i.bytes)) = some (some (.int .u64 0), 1, 8) := by kernel_rfl
theorem Try.info9 : (Try.prog.info? 9).map (fun i => (i.zero, i.size, i.bytes)) = some (some (.string ⟨#[]⟩), 1, 16) := by kernel_rfl

/-- What a copy has come to behind k rounds: a new row of n cells, the first k of them V. -/
structure Filled (B n k : Nat) (t : TypeId) (V : Nat → Value) (w wr : World) : Prop where
  row : ∃ f, wr.rowIs B t n f ∧ ∀ j, j < k → f j = V j
  bel : Below B w wr

theorem Filled.start {n : Nat} (t : TypeId) (z : Value) (V : Nat → Value) (w : World) : Filled w.heap.size n 0 t V w (w.alloc (.cells (madeCells #[z] n) t)) :=
  ⟨⟨_, World.rowIs_made w z n t, fun j h => by omega⟩, (Below.refl _ w).alloc (Nat.le_refl _) _⟩
theorem Filled.free {B n k : Nat} {t : TypeId} {V : Nat → Value} {w wr : World} (h : Filled B n k t V w wr) (j : Nat) : wr.frozen? ⟨B, j, none⟩ = false := by
  obtain ⟨f, hf, _⟩ := h.row
  exact hf.frozen j
theorem Filled.some {B n k : Nat} {t : TypeId} {V : Nat → Value} {w wr : World} (h : Filled B n k t V w wr) {j : Nat} (hj : j < n) : ∃ v, wr.cell? ⟨B, j, none⟩ = Option.some v := by
  obtain ⟨f, hf, _⟩ := h.row
  exact ⟨_, hf.cell hj⟩
theorem Filled.step {B n k : Nat} {t : TypeId} {V : Nat → Value} {w wr : World} (h : Filled B n k t V w wr) : Filled B n (k + 1) t V w (wr.setCell ⟨B, k, none⟩ (V k)) := by
  obtain ⟨f, hf, he⟩ := h.row
  refine ⟨⟨_, hf.set k (V k), fun j hj => ?_⟩, h.bel.setCell (p := ⟨B, k, none⟩) (Nat.le_refl _) _⟩
  show (if j = k then V k else f j) = V j
  split
  · next e => rw [e]
  · exact he j (by omega)
theorem Filled.cell {B n : Nat} {t : TypeId} {V : Nat → Value} {w wr : World} (h : Filled B n n t V w wr) {j : Nat} (hj : j < n) : wr.cell? ⟨B, j, none⟩ = Option.some (V j) := by
  obtain ⟨f, hf, he⟩ := h.row
  rw [hf.cell hj, he j hj]
theorem Filled.lt {B n k : Nat} {t : TypeId} {V : Nat → Value} {w wr : World} (h : Filled B n k t V w wr) : B < wr.heap.size := by
  obtain ⟨f, hf, _⟩ := h.row
  exact hf.lt

set_option maxRecDepth 100000 in
set_option maxHeartbeats 1000000 in
/-- cloneU64 of a slice that is not nil. -/
theorem clone_any (x : Addr) (n c b off : Nat) (hn : n ≤ 131072) (Z : Nat → Int) (w : World) (hx : 0 < n → x = ⟨b, off, none⟩ ∧ b < w.heap.size) (hc : ∀ k, k < n → w.cell? ⟨b, off + k, none⟩ = some (.int .u64 (Z k))) :
    Calls Try.prog 11 #[.slice (some x) n c] w fun e w' => e = .returned (.slice (some ⟨w.heap.size, 0, none⟩) n n) ∧ Filled w.heap.size n n 45 (fun k => .int .u64 (Z k)) w w' := by
  have hq : ∀ (w : World) (a : Option Addr) (n c n' c' : Nat), (binOp .eql 22 (.slice a n c) (.slice none n' c')).run Try.prog w = .ok (.bool a.isNone) w := fun w a n c n' c' => Lib.run_eql_slice_nil w _ _ a n c n' c' Try.underlying22
  have hmk := fun ww => run_make_row' (P := Try.prog) 22 45 (.int .u64 0) 8 Try.underlying22 Try.info45 rfl .i64 .i64 n (by omega) (by omega) ww
  have HX : Hid (0 < n → x = ⟨b, off, none⟩ ∧ b < w.heap.size) := hx
  have HC : Hid (∀ k, k < n → w.cell? ⟨b, off + k, none⟩ = some (.int .u64 (Z k))) := hc
  clear hx hc
  go_enter Try.func11, Try.ntmps11
  go_wp2
  clear hmk hq
  go_loopw [4] (fun i wr => ∃ k : Nat, k ≤ n ∧ i = .int .i64 k ∧ Filled w.heap.size n k 45 (fun k => .int .u64 (Z k)) w wr) (fun i _ => n - (intOf i).toNat)
  case atStart => exact ⟨0, Nat.zero_le _, rfl, Filled.start 45 _ _ w⟩
  case round =>
    obtain ⟨k, hk, rfl, hf⟩ := hrel
    by_cases hlt : k < n
    · obtain ⟨rfl, hb⟩ := HX.out (by omega)
      have h1 : wr.cell? ⟨b, off + k, none⟩ = some (.int .u64 (Z k)) := (hf.bel.cell (p := ⟨b, off + k, none⟩) hb).trans (HC.out k hlt)
      obtain ⟨v, h2⟩ := hf.some hlt
      have h3 := hf.free k
      have HS : Hid (Filled w.heap.size n (k + 1) 45 (fun k => .int .u64 (Z k)) w (wr.setCell ⟨w.heap.size, k, none⟩ (.int .u64 (Z k)))) := hf.step
      go_wp2
      go_roundw
      case rel => exact ⟨k + 1, by omega, by go_num, HS.out⟩
      case measure => simp [intOf]; omega
    · obtain rfl : k = n := by omega
      go_wp2
      go_ret
      exact ⟨rfl, hf⟩

theorem clone_nil (w : World) : Calls Try.prog 11 #[.slice none 0 0] w fun e w' => e = .returned (.slice none 0 0) ∧ w = w' := by
  have hq : ∀ (w : World) (a : Option Addr) (n c n' c' : Nat), (binOp .eql 22 (.slice a n c) (.slice none n' c')).run Try.prog w = .ok (.bool a.isNone) w := fun w a n c n' c' => Lib.run_eql_slice_nil w _ _ a n c n' c' Try.underlying22
  go_enter Try.func11, Try.ntmps11
  go_wp2
  go_ret
  exact ⟨rfl, rfl⟩

set_option maxRecDepth 100000 in
set_option maxHeartbeats 1000000 in
/-- cloneStr of a slice that is not nil. -/
theorem cloneS_any (x : Addr) (n c b off : Nat) (hn : n ≤ 131072) (S : Nat → ByteArray) (w : World) (hx : 0 < n → x = ⟨b, off, none⟩ ∧ b < w.heap.size) (hc : ∀ k, k < n → w.cell? ⟨b, off + k, none⟩ = some (.string (S k))) :
    Calls Try.prog 12 #[.slice (some x) n c] w fun e w' => e = .returned (.slice (some ⟨w.heap.size, 0, none⟩) n n) ∧ Filled w.heap.size n n 9 (fun k => .string (S k)) w w' := by
  have hq : ∀ (w : World) (a : Option Addr) (n c n' c' : Nat), (binOp .eql 23 (.slice a n c) (.slice none n' c')).run Try.prog w = .ok (.bool a.isNone) w := fun w a n c n' c' => Lib.run_eql_slice_nil w _ _ a n c n' c' Try.underlying23
  have hmk := fun ww => run_make_row' (P := Try.prog) 23 9 (.string ⟨#[]⟩) 16 Try.underlying23 Try.info9 rfl .i64 .i64 n (by omega) (by omega) ww
  have HX : Hid (0 < n → x = ⟨b, off, none⟩ ∧ b < w.heap.size) := hx
  have HC : Hid (∀ k, k < n → w.cell? ⟨b, off + k, none⟩ = some (.string (S k))) := hc
  clear hx hc
  go_enter Try.func12, Try.ntmps12
  go_wp2
  clear hmk hq
  go_loopw [4] (fun i wr => ∃ k : Nat, k ≤ n ∧ i = .int .i64 k ∧ Filled w.heap.size n k 9 (fun k => .string (S k)) w wr) (fun i _ => n - (intOf i).toNat)
  case atStart => exact ⟨0, Nat.zero_le _, rfl, Filled.start 9 _ _ w⟩
  case round =>
    obtain ⟨k, hk, rfl, hf⟩ := hrel
    by_cases hlt : k < n
    · obtain ⟨rfl, hb⟩ := HX.out (by omega)
      have h1 : wr.cell? ⟨b, off + k, none⟩ = some (.string (S k)) := (hf.bel.cell (p := ⟨b, off + k, none⟩) hb).trans (HC.out k hlt)
      obtain ⟨v, h2⟩ := hf.some hlt
      have h3 := hf.free k
      have HS : Hid (Filled w.heap.size n (k + 1) 9 (fun k => .string (S k)) w (wr.setCell ⟨w.heap.size, k, none⟩ (.string (S k)))) := hf.step
      go_wp2
      go_roundw
      case rel => exact ⟨k + 1, by omega, by go_num, HS.out⟩
      case measure => simp [intOf]; omega
    · obtain rfl : k = n := by omega
      go_wp2
      go_ret
      exact ⟨rfl, hf⟩

theorem cloneS_nil (w : World) : Calls Try.prog 12 #[.slice none 0 0] w fun e w' => e = .returned (.slice none 0 0) ∧ w = w' := by
  have hq : ∀ (w : World) (a : Option Addr) (n c n' c' : Nat), (binOp .eql 23 (.slice a n c) (.slice none n' c')).run Try.prog w = .ok (.bool a.isNone) w := fun w a n c n' c' => Lib.run_eql_slice_nil w _ _ a n c n' c' Try.underlying23
  go_enter Try.func12, Try.ntmps12
  go_wp2
  go_ret
  exact ⟨rfl, rfl⟩

set_option maxRecDepth 100000 in
set_option maxHeartbeats 400000 in
theorem ring_any (x : Int) (W : Nat) (a1 a2 : Option Addr) (l1 c1 l2 c2 : Nat) (w : World) :
    Calls Try.prog 13 #[.int .i64 x, .int .i64 W, .slice a1 l1 c1, .slice a2 l2 c2] w fun e w' => e = .returned (.pointer (some ⟨w.heap.size, 0, none⟩)) ∧ w.alloc (.cells #[.int .i64 x, .int .i64 W, .slice a1 l1 c1, .slice a2 l2 c2] 47) = w' := by
  go_enter Try.func13, Try.ntmps13
  go_wp2
  go_ret
  exact ⟨rfl, rfl⟩
end Go.Proofs.Qxb6603742a
