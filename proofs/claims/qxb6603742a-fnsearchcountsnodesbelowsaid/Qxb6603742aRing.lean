import Derived.Test.Qxb6603742aWords
namespace Go.Proofs.Qxb6603742a
open Go.RowKit
set_option linter.unusedVariables false

/-- Node i of the ids D, W words each. -/
def nodeL (D : List Int) (W i : Nat) : List Int := (D.drop (i * W)).take W

theorem nodeL_length {D : List Int} {W i : Nat} (h : i * W + W ≤ D.length) : (nodeL D W i).length = W := by
  unfold nodeL; simp; omega

/-- The ids in memory, not empty. -/
structure Ids (w : World) (b off : Nat) (D : List Int) : Prop where
  cell : ∀ k, k < D.length → w.cell? ⟨b, off + k, none⟩ = some (.int .u64 (D.getD k 0))

theorem Ids.node {w : World} {b off : Nat} {D : List Int} (h : Ids w b off D) {W i : Nat} (hw : i * W + W ≤ D.length) : Words w (some ⟨b, off + i * W, none⟩) (nodeL D W i) := by
  refine ⟨b, off + i * W, fun _ => rfl, fun k hk => ?_⟩
  rw [nodeL_length hw] at hk
  rw [Nat.add_assoc, h.cell (i * W + k) (by omega)]
  unfold nodeL
  simp [List.getD_eq_getElem?_getD, hk, List.getElem?_drop]

set_option maxRecDepth 100000 in
set_option maxHeartbeats 400000 in
theorem nodeAt_any (b off len cap W i q : Nat) (hq : i * W = q) (hlc : len ≤ cap) (hl : len ≤ 131072) (hW : 1 ≤ W) (hi : q + W ≤ len) (w : World) :
    Calls Try.prog 16 #[.slice (some ⟨b, off, none⟩) len cap, .int .i64 W, .int .i64 i] w fun e w' => e = .returned (.slice (some ⟨b, off + q, none⟩) W (cap - q)) ∧ w = w' := by
  have e1 : (i : Int) * (W : Int) = (q : Int) := by rw [← hq]; simp
  have e2 : ((i : Int) + 1) * (W : Int) = (q : Int) + (W : Int) := by rw [Int.add_mul, e1]; omega
  have hiq : i ≤ q := by rw [← hq]; exact Nat.le_mul_of_pos_right i hW
  clear hq
  go_enter Try.func16, Try.ntmps16
  go_wp2
  go_ret
  refine ⟨?_, rfl⟩
  show Ending.returned (.slice (some ⟨b, off + q, none⟩) (q + W - q) (cap - q)) = _
  rw [show q + W - q = W from by omega]

/-- What of a ring in memory is read. -/
structure RingAt (w : World) (r W : Nat) (ao : Option Addr) (len cap : Nat) : Prop where
  width : w.cell? ⟨r, 1, none⟩ = some (.int .i64 W)
  ids : w.cell? ⟨r, 2, none⟩ = some (.slice ao len cap)

theorem RingAt.draws {w : World} {r W : Nat} {ao : Option Addr} {len cap : Nat} (h : RingAt w r W ao len cap) (n : Nat) : RingAt (w.drewN n) r W ao len cap := ⟨h.width, h.ids⟩

set_option maxRecDepth 100000 in
set_option maxHeartbeats 400000 in
theorem len_any (r W n : Nat) (ao : Option Addr) (len cap : Nat) (hl : len ≤ 131072) (hW : 1 ≤ W) (hn : len / W = n) (w : World) (h : RingAt w r W ao len cap) :
    Calls Try.prog 26 #[.pointer (some ⟨r, 0, none⟩)] w fun e w' => e = .returned (.int .i64 n) ∧ ∃ nq, w' = w.drewN nq := by
  have e1 : (len : Int) / (W : Int) = (n : Int) := by rw [← hn]; simp
  have c1 := h.width
  have c2 := h.ids
  have hnb : n ≤ 131072 := by rw [← hn]; exact Nat.le_trans (Nat.div_le_self _ _) hl
  have w0 : (1 : Int) ≤ (W : Int) := by omega
  have w1 : ((W : Int) == 0) = false := by simp; omega
  clear hn
  go_enter Try.func26, Try.ntmps26
  go_wp2
  go_quiet (fail)
  go_wp2
  go_ret
  exact ⟨rfl, _, rfl⟩

set_option maxRecDepth 100000 in
set_option maxHeartbeats 400000 in
theorem node_any (r W b off len cap i q : Nat) (hq : i * W = q) (hlc : len ≤ cap) (hl : len ≤ 131072) (hW : 1 ≤ W) (hi : q + W ≤ len) (w : World) (h : RingAt w r W (some ⟨b, off, none⟩) len cap) :
    Calls Try.prog 31 #[.pointer (some ⟨r, 0, none⟩), .int .i64 i] w fun e w' => e = .returned (.slice (some ⟨b, off + q, none⟩) W W) ∧ ∃ nq, w' = w.drewN nq := by
  have e1 : (i : Int) * (W : Int) = (q : Int) := by rw [← hq]; simp
  have e2 : ((i : Int) + 1) * (W : Int) = (q : Int) + (W : Int) := by rw [Int.add_mul, e1]; omega
  have hiq : i ≤ q := by rw [← hq]; exact Nat.le_mul_of_pos_right i hW
  have c1 := h.width
  have c2 := h.ids
  clear hq
  go_enter Try.func31, Try.ntmps31
  go_wp2
  go_quiet (fail)
  go_wp2
  go_ret
  refine ⟨?_, _, rfl⟩
  show Ending.returned (.slice (some ⟨b, off + q, none⟩) (q + W - q) (q + W - q)) = _
  rw [show q + W - q = W from by omega]

theorem row_le {i n W len : Nat} (hi : i < n) (hn : len / W = n) : i * W + W ≤ len := by
  have h1 : (i + 1) * W ≤ n * W := Nat.mul_le_mul_right _ hi
  have h2 : n * W ≤ len := by rw [← hn]; exact Nat.div_mul_le_self _ _
  rw [Nat.add_mul, Nat.one_mul] at h1
  omega

set_option maxRecDepth 100000 in
set_option maxHeartbeats 1000000 in
theorem search_any (r W n : Nat) (D P : List Int) (ao pa : Option Addr) (b off cap pc : Nat) (hl : D.length ≤ 131072) (hlc : D.length ≤ cap) (hP : P.length ≤ 131072) (hW : 1 ≤ W) (hn : D.length / W = n) (ha : 0 < n → ao = some ⟨b, off, none⟩)
    (hs : Plain.Sorted n (nodeL D W)) (w : World) (hr : RingAt w r W ao D.length cap) (hid : Ids w b off D) (hp : Words w pa P) :
    Calls Try.prog 28 #[.pointer (some ⟨r, 0, none⟩), .slice pa P.length pc] w fun e w' => ∃ lo : Nat, e = .returned (.tuple #[.int .i64 lo, .bool (decide (lo < n ∧ nodeL D W lo = P))]) ∧ Plain.Span n (nodeL D W) P lo lo ∧ ∃ nq, w' = w.drewN nq := by
  have hnb : n ≤ 131072 := by rw [← hn]; exact Nat.le_trans (Nat.div_le_self _ _) hl
  have HN : Hid (D.length / W = n) := hn
  have HA : Hid (0 < n → ao = some ⟨b, off, none⟩) := ha
  obtain ⟨l, hlen⟩ : ∃ l, l = D.length := ⟨_, rfl⟩
  obtain ⟨pl, hpl⟩ : ∃ pl, pl = P.length := ⟨_, rfl⟩
  rw [← hpl]
  have HLEN : Hid (l = D.length) := hlen
  have HPL : Hid (pl = P.length) := hpl
  rw [← hpl] at hP
  clear hn ha hlen hpl
  go_enter Try.func28, Try.ntmps28
  go_wp2_with (go_at_call 26; refine (len_any r W n ao D.length cap hl hW HN.out _ hr).mono ?_; rintro e w1 ⟨rfl, nq, rfl⟩)
  go_loopw [6, 7] (fun s t wr => ∃ lo hi nq : Nat, s = .int .i64 lo ∧ t = .int .i64 hi ∧ Plain.Span n (nodeL D W) P lo hi ∧ wr = w.drewN nq) (fun s t _ => (intOf t - intOf s).toNat)
  case atStart => exact ⟨0, n, nq, rfl, rfl, Plain.Span.start _ _ _, rfl⟩
  case round =>
    obtain ⟨lo, hi, nq, rfl, rfl, hsp, rfl⟩ := hrel
    have hle := hsp.le
    have htop := hsp.top
    by_cases hlt : lo < hi
    · obtain ⟨m, hm⟩ : ∃ m : Nat, m = (lo + hi) / 2 := ⟨_, rfl⟩
      have HM : Hid (((lo : Int) + (hi : Int)) / 2 = (m : Int)) := by show _ = _; omega
      have hm1 : lo ≤ m ∧ m < hi := by omega
      clear hm
      have hrow := row_le (i := m) (show m < n by omega) HN.out
      have HCMP : Hid (∀ nq, Calls Try.prog 32 #[.slice (some ⟨b, off + m * W, none⟩) W W, .slice pa pl pc] (w.drewN nq) fun e w' => e = .returned (.int .i64 (Plain.cmpL (nodeL D W m) P)) ∧ w.drewN nq = w') := fun nq => by
        have := compare_any (nodeL D W m) P (some ⟨b, off + m * W, none⟩) pa W pc (by rw [nodeL_length hrow]; omega) (by rw [← HPL.out]; exact hP) (w.drewN nq) (hid.node hrow) hp
        rw [nodeL_length hrow, ← HPL.out] at this
        exact this
      obtain ⟨C, hC⟩ : ∃ C, C = Plain.cmpL (nodeL D W m) P := ⟨_, rfl⟩
      rw [← hC] at HCMP
      have HC : Hid (C = Plain.cmpL (nodeL D W m) P) := hC
      obtain rfl := HA.out (by omega)
      have hmi : (m : Int) + 1 ≤ 131072 := by omega
      have HROW : Hid (m * W + W ≤ D.length) := hrow
      clear hC hrow
      by_cases hneg : C < 0
      · go_wp2_with fail
        rw [HM.out]
        refine (node_any r W b off D.length cap m (m * W) rfl hlc hl hW HROW.out (w.drewN _) (hr.draws _)).mono ?_
        rintro e w2 ⟨rfl, n2, rfl⟩
        obtain ⟨n3, h3⟩ := draws2 w nq n2
        rw [h3]
        go_wp2_with fail
        refine (HCMP.out n3).mono ?_
        rintro e w3 ⟨rfl, rfl⟩
        clear h3
        go_wp2
        go_roundw
        case rel => exact ⟨m + 1, hi, n3, by go_num, rfl, hsp.up hs hm1.2 (by rw [← HC.out]; exact hneg), rfl⟩
        case measure => simp [intOf]; omega
      · have hpos : 0 ≤ C := by omega
        have HNEG : Hid (0 ≤ C) := hpos
        clear hneg hmi
        go_wp2_with fail
        rw [HM.out]
        refine (node_any r W b off D.length cap m (m * W) rfl hlc hl hW HROW.out (w.drewN _) (hr.draws _)).mono ?_
        rintro e w2 ⟨rfl, n2, rfl⟩
        obtain ⟨n3, h3⟩ := draws2 w nq n2
        rw [h3]
        go_wp2_with fail
        refine (HCMP.out n3).mono ?_
        rintro e w3 ⟨rfl, rfl⟩
        clear h3
        go_wp2
        go_roundw
        case rel => exact ⟨lo, m, n3, rfl, rfl, hsp.down hs hm1.1 hm1.2 (by rw [← HC.out]; have := HNEG.out; omega), rfl⟩
        case measure => simp [intOf]; omega
    · obtain rfl : lo = hi := by omega
      by_cases hln : lo < n
      · have hrow := row_le hln HN.out
        have HEQ : Hid (∀ nq, Calls Try.prog 33 #[.slice (some ⟨b, off + lo * W, none⟩) W W, .slice pa pl pc] (w.drewN nq) fun e w' => e = .returned (.bool (decide (nodeL D W lo = P))) ∧ ∃ n4, w' = (w.drewN nq).drewN n4) := fun nq => by
          have := equal_any (nodeL D W lo) P (some ⟨b, off + lo * W, none⟩) pa W pc (by rw [nodeL_length hrow]; omega) (by rw [← HPL.out]; exact hP) (w.drewN nq) (hid.node hrow) hp
          rw [nodeL_length hrow, ← HPL.out] at this
          exact this
        obtain ⟨C, hC⟩ : ∃ C, C = decide (nodeL D W lo = P) := ⟨_, rfl⟩
        rw [← hC] at HEQ
        have HC : Hid (C = decide (nodeL D W lo = P)) := hC
        obtain rfl := HA.out (by omega)
        have HROW : Hid (lo * W + W ≤ D.length) := hrow
        have hi1 : (lo : Int) < (n : Int) := by omega
        have hd1 : decide ((lo : Int) < (n : Int)) = true := by simpa using hln
        clear hC hrow
        go_wp2_with fail
        refine (len_any r W n _ D.length cap hl hW HN.out (w.drewN _) (hr.draws _)).mono ?_
        rintro e w1 ⟨rfl, n1, rfl⟩
        obtain ⟨n2, h2⟩ := draws2 w nq n1
        rw [h2]
        go_wp2_with fail
        refine (node_any r W b off D.length cap lo (lo * W) rfl hlc hl hW HROW.out (w.drewN _) (hr.draws _)).mono ?_
        rintro e w2 ⟨rfl, n3, rfl⟩
        obtain ⟨n4, h4⟩ := draws2 w n2 n3
        rw [h4]
        go_wp2_with fail
        refine (HEQ.out n4).mono ?_
        rintro e w3 ⟨rfl, n5, rfl⟩
        clear h2 h4
        go_wp2
        go_ret2
        refine ⟨lo, ?_, hsp, _, rfl⟩
        rw [show decide (lo < n ∧ nodeL D W lo = P) = C from by rw [HC.out]; simp [hln]]
        rfl
      · have hi1 : (n : Int) ≤ (lo : Int) := by omega
        have hd1 : decide ((lo : Int) < (n : Int)) = false := by simpa using hln
        go_wp2_with fail
        refine (len_any r W n _ D.length cap hl hW HN.out (w.drewN _) (hr.draws _)).mono ?_
        rintro e w1 ⟨rfl, n1, rfl⟩
        go_wp2
        go_ret2
        refine ⟨lo, ?_, hsp, _, rfl⟩
        rw [show decide (lo < n ∧ nodeL D W lo = P) = false from by simp [hln]]
        rfl

set_option maxRecDepth 100000 in
set_option maxHeartbeats 400000 in
theorem zzsearch_any (r W n : Nat) (D P : List Int) (ao pa : Option Addr) (b off cap pc : Nat) (hl : D.length ≤ 131072) (hlc : D.length ≤ cap) (hP : P.length ≤ 131072) (hW : 1 ≤ W) (hn : D.length / W = n) (ha : 0 < n → ao = some ⟨b, off, none⟩)
    (hs : Plain.Sorted n (nodeL D W)) (w : World) (hr : RingAt w r W ao D.length cap) (hid : Ids w b off D) (hp : Words w pa P) :
    Calls Try.prog 14 #[.pointer (some ⟨r, 0, none⟩), .slice pa P.length pc] w fun e w' => ∃ lo : Nat, e = .returned (.tuple #[.int .i64 lo, .bool (decide (lo < n ∧ nodeL D W lo = P))]) ∧ Plain.Span n (nodeL D W) P lo lo ∧ ∃ nq, w' = w.drewN nq := by
  have HH : Hid (∀ _ : Unit, Calls Try.prog 28 #[.pointer (some ⟨r, 0, none⟩), .slice pa P.length pc] w fun e w' => ∃ lo : Nat, e = .returned (.tuple #[.int .i64 lo, .bool (decide (lo < n ∧ nodeL D W lo = P))]) ∧ Plain.Span n (nodeL D W) P lo lo ∧ ∃ nq, w' = w.drewN nq) :=
    fun _ => search_any r W n D P ao pa b off cap pc hl hlc hP hW hn ha hs w hr hid hp
  obtain ⟨F, hF⟩ : ∃ F : Nat → Bool, F = fun lo => decide (lo < n ∧ nodeL D W lo = P) := ⟨_, rfl⟩
  have HF : Hid (F = fun lo => decide (lo < n ∧ nodeL D W lo = P)) := hF
  obtain ⟨pl, hpl⟩ : ∃ pl, pl = P.length := ⟨_, rfl⟩
  have HPL : Hid (pl = P.length) := hpl
  rw [← hpl] at HH ⊢
  have HH2 : Hid (∀ _ : Unit, Calls Try.prog 28 #[.pointer (some ⟨r, 0, none⟩), .slice pa pl pc] w fun e w' => ∃ lo : Nat, e = .returned (.tuple #[.int .i64 lo, .bool (F lo)]) ∧ Plain.Span n (nodeL D W) P lo lo ∧ ∃ nq, w' = w.drewN nq) := by
    rw [hF]; exact HH
  clear HH hF hpl hr hid hp hs ha hn
  go_enter Try.func14, Try.ntmps14
  go_wp2_with fail
  refine (HH2.out ()).mono ?_
  rintro e w1 ⟨lo, rfl, hsp, nq, rfl⟩
  go_wp2
  go_ret2
  refine ⟨lo, ?_, hsp, _, rfl⟩
  show Ending.returned (.tuple #[.int .i64 lo, .bool (F lo)]) = _
  rw [HF.out]

/-- Node j is not above node j + 1. -/
def cmpLe (D : List Int) (W j : Nat) : Prop := Plain.cmpL (nodeL D W j) (nodeL D W (j + 1)) ≤ 0

/-- What sortedNodes leaves: if it says yes, they are. -/
def SortedPost (n W : Nat) (D : List Int) (w : World) (e : Ending) (w' : World) : Prop := (∃ bb, e = .returned (.bool bb) ∧ (bb = true → Plain.Sorted n (nodeL D W))) ∧ ∃ nq, w' = w.drewN nq
theorem SortedPost.yes {n W : Nat} {D : List Int} (w : World) (nq : Nat) (h : Plain.Sorted n (nodeL D W)) : SortedPost n W D w (.returned (.bool true)) (w.drewN nq) := ⟨⟨true, rfl, fun _ => h⟩, nq, rfl⟩
theorem SortedPost.no {n W : Nat} {D : List Int} (w : World) (nq : Nat) : SortedPost n W D w (.returned (.bool false)) (w.drewN nq) := ⟨⟨false, rfl, fun h => by cases h⟩, nq, rfl⟩

set_option maxRecDepth 100000 in
set_option maxHeartbeats 1000000 in
/-- sortedNodes: if it says yes, they are. -/
theorem sorted_any (W n : Nat) (D : List Int) (ao : Option Addr) (b off cap : Nat) (hl : D.length ≤ 131072) (hlc : D.length ≤ cap) (hW : 1 ≤ W) (hn : D.length / W = n) (ha : 0 < n → ao = some ⟨b, off, none⟩)
    (w : World) (hid : Ids w b off D) :
    Calls Try.prog 10 #[.slice ao D.length cap, .int .i64 W] w (SortedPost n W D w) := by
  have hnb : n ≤ 131072 := by rw [← hn]; exact Nat.le_trans (Nat.div_le_self _ _) hl
  have HN : Hid (D.length / W = n) := hn
  have HA : Hid (0 < n → ao = some ⟨b, off, none⟩) := ha
  obtain ⟨l, hlen⟩ : ∃ l, l = D.length := ⟨_, rfl⟩
  have e1 : (l : Int) / (W : Int) = (n : Int) := by rw [hlen, ← hn]; simp
  have w0 : (1 : Int) ≤ (W : Int) := by omega
  have w1 : ((W : Int) == 0) = false := by simp; omega
  rw [← hlen] at hl hlc ⊢
  have HLEN : Hid (l = D.length) := hlen
  clear hn ha hlen
  go_enter Try.func10, Try.ntmps10
  go_wp2
  clear e1
  go_loopw [6] (fun i wr => ∃ k nq : Nat, 1 ≤ k ∧ k ≤ 131073 ∧ i = .int .i64 k ∧ (∀ j, j + 1 < k → cmpLe D W j) ∧ wr = w.drewN nq) (fun i _ => n - (intOf i).toNat)
  case atStart => exact ⟨1, 0, Nat.le_refl _, by omega, rfl, fun j h => by omega, rfl⟩
  case round =>
    obtain ⟨k, nq, hk1, hk2, rfl, hall, rfl⟩ := hrel
    have HALL : Hid (∀ j, j + 1 < k → cmpLe D W j) := hall
    clear hall
    by_cases hlt : k < n
    · obtain ⟨j, rfl⟩ : ∃ j, k = j + 1 := ⟨k - 1, by omega⟩
      have r0 := row_le (i := j) (show j < n by omega) HN.out
      have r1 := row_le (i := j + 1) (show j + 1 < n by omega) HN.out
      have HCMP : Hid (∀ nq, Calls Try.prog 15 #[.slice (some ⟨b, off + j * W, none⟩) W (cap - j * W), .slice (some ⟨b, off + (j + 1) * W, none⟩) W (cap - (j + 1) * W)] (w.drewN nq) fun e w' => e = .returned (.int .i64 (Plain.cmpL (nodeL D W j) (nodeL D W (j + 1)))) ∧ ∃ n4, w' = (w.drewN nq).drewN n4) := fun nq => by
        have := cmpWords_any (nodeL D W j) (nodeL D W (j + 1)) (some ⟨b, off + j * W, none⟩) (some ⟨b, off + (j + 1) * W, none⟩) (cap - j * W) (cap - (j + 1) * W) (by rw [nodeL_length r0]; have := HLEN.out; omega) (by rw [nodeL_length r1]; have := HLEN.out; omega) (w.drewN nq) (hid.node r0) (hid.node r1)
        rw [nodeL_length r0, nodeL_length r1] at this
        exact this
      obtain ⟨C, hC⟩ : ∃ C, C = Plain.cmpL (nodeL D W j) (nodeL D W (j + 1)) := ⟨_, rfl⟩
      rw [← hC] at HCMP
      have HC : Hid (C = Plain.cmpL (nodeL D W j) (nodeL D W (j + 1))) := hC
      obtain rfl := HA.out (by omega)
      have R0 : Hid (j * W + W ≤ l) := by have := HLEN.out; show _ ≤ _; omega
      have R1 : Hid ((j + 1) * W + W ≤ l) := by have := HLEN.out; show _ ≤ _; omega
      have E1 : Hid ((j : Int) + 1 = ((j + 1 : Nat) : Int)) := by show _ = _; omega
      clear hC r0 r1
      by_cases hpos : 0 < C
      · go_wp2_with fail
        refine (nodeAt_any b off l cap W j (j * W) rfl hlc hl hW R0.out _).mono ?_
        rintro e w2 ⟨rfl, rfl⟩
        go_wp2_with fail
        rw [E1.out]
        refine (nodeAt_any b off l cap W (j + 1) ((j + 1) * W) rfl hlc hl hW R1.out _).mono ?_
        rintro e w2 ⟨rfl, rfl⟩
        go_wp2_with fail
        refine (HCMP.out nq).mono ?_
        rintro e w3 ⟨rfl, n3, rfl⟩
        obtain ⟨n4, h4⟩ := draws2 w nq n3
        rw [h4]
        clear h4
        go_wp2
        go_ret
        exact SortedPost.no w n4
      · have HP : Hid (C ≤ 0) := by show _ ≤ _; omega
        go_wp2_with fail
        refine (nodeAt_any b off l cap W j (j * W) rfl hlc hl hW R0.out _).mono ?_
        rintro e w2 ⟨rfl, rfl⟩
        go_wp2_with fail
        rw [E1.out]
        refine (nodeAt_any b off l cap W (j + 1) ((j + 1) * W) rfl hlc hl hW R1.out _).mono ?_
        rintro e w2 ⟨rfl, rfl⟩
        go_wp2_with fail
        refine (HCMP.out nq).mono ?_
        rintro e w3 ⟨rfl, n3, rfl⟩
        obtain ⟨n4, h4⟩ := draws2 w nq n3
        rw [h4]
        clear h4
        go_wp2
        go_roundw
        case rel =>
          refine ⟨j + 1 + 1, n4, by omega, by omega, by go_num, fun i hi => ?_, rfl⟩
          rcases Nat.lt_or_ge (i + 1) (j + 1) with c | c
          · exact HALL.out i c
          · obtain rfl : i = j := by omega
            show Plain.cmpL _ _ ≤ 0
            rw [← HC.out]
            exact HP.out
        case measure => simp [intOf]; omega
    · go_wp2
      go_ret
      exact SortedPost.yes w nq (fun i hi => HALL.out i (by omega))
end Go.Proofs.Qxb6603742a
