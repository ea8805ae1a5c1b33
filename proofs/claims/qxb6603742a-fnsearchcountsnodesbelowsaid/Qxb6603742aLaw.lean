import Derived.Test.Qxb6603742aMore
namespace Go.Proofs.Qxb6603742a
open Go.RowKit
set_option linter.unusedVariables false

theorem Words.below {w w' : World} {ao : Option Addr} {L : List Int} (h : Words w ao L) (hb : Below w.heap.size w w') : Words w' ao L := by
  obtain ⟨b, off, h1, h2⟩ := h
  refine ⟨b, off, h1, fun k hk => ?_⟩
  have := h2 k hk
  exact (hb.cell (p := ⟨b, off + k, none⟩) (block_lt_of_cell this)).trans this

theorem cloneW_any (ao : Option Addr) (D : List Int) (cap : Nat) (hnil : ao = none → D = [] ∧ cap = 0) (hD : D.length ≤ 131072) (w : World) (hw : Words w ao D) :
    Calls Try.prog 11 #[.slice ao D.length cap] w fun e w' => ∃ (ao' : Option Addr) (cap' : Nat), e = .returned (.slice ao' D.length cap') ∧ D.length ≤ cap' ∧ Words w' ao' D ∧ Below w.heap.size w w' := by
  cases ao with
  | none =>
    obtain ⟨rfl, rfl⟩ := hnil rfl
    refine (clone_nil w).mono ?_
    rintro e w' ⟨rfl, rfl⟩
    exact ⟨none, 0, rfl, Nat.le_refl _, hw, Below.refl _ _⟩
  | some x =>
    obtain ⟨b, off, h1, h2⟩ := hw
    refine (clone_any x D.length cap b off hD (fun k => D.getD k 0) w (fun h => ⟨by simpa using h1 h, block_lt_of_cell (h2 0 h)⟩) h2).mono ?_
    rintro e w' ⟨rfl, hf⟩
    exact ⟨_, _, rfl, Nat.le_refl _, ⟨w.heap.size, 0, fun _ => rfl, fun k hk => by rw [Nat.zero_add]; exact hf.cell hk⟩, hf.bel⟩

theorem cloneN_any (ao : Option Addr) (n cap : Nat) (S : Nat → ByteArray) (hnil : ao = none → n = 0 ∧ cap = 0) (hn : n ≤ 131072) (w : World) (hw : Names w ao n S) :
    Calls Try.prog 12 #[.slice ao n cap] w fun e w' => ∃ (ao' : Option Addr) (n' cap' : Nat), e = .returned (.slice ao' n' cap') ∧ Below w.heap.size w w' := by
  cases ao with
  | none =>
    obtain ⟨rfl, rfl⟩ := hnil rfl
    refine (cloneS_nil w).mono ?_
    rintro e w' ⟨rfl, rfl⟩
    exact ⟨none, 0, 0, rfl, Below.refl _ _⟩
  | some x =>
    obtain ⟨b, off, h1, h2⟩ := hw
    refine (cloneS_any x n cap b off hn S w (fun h => ⟨by simpa using (h1 h).1, (h1 h).2⟩) (fun k hk => (h2 k hk).1)).mono ?_
    rintro e w' ⟨rfl, hf⟩
    exact ⟨_, _, _, rfl, hf.bel⟩

theorem Names.below {w w' : World} {ao : Option Addr} {n : Nat} {S : Nat → ByteArray} (h : Names w ao n S) (hb : Below w.heap.size w w') : Names w' ao n S := by
  obtain ⟨b, off, h1, h2⟩ := h
  refine ⟨b, off, fun h => ⟨(h1 h).1, Nat.lt_of_lt_of_le (h1 h).2 hb.size⟩, fun k hk => ⟨?_, (h2 k hk).2⟩⟩
  exact (hb.cell (p := ⟨b, off + k, none⟩) (h1 (by omega)).2).trans (h2 k hk).1

theorem Words.ids {w : World} {ao : Option Addr} {D : List Int} (h : Words w ao D) : ∃ b off, (0 < D.length → ao = some ⟨b, off, none⟩) ∧ Ids w b off D := by
  obtain ⟨b, off, h1, h2⟩ := h
  exact ⟨b, off, h1, ⟨h2⟩⟩

/-- Yes, and nothing that was there has turned. -/
def LawPost (w : World) (e : Ending) (w' : World) : Prop := e = .returned (.bool true) ∧ Below w.heap.size w w'

set_option maxRecDepth 100000 in
set_option maxHeartbeats 2000000 in
/-- The lengths are too great: yes at once. -/
theorem law_long (x y : Int) (a1 a2 a3 : Option Addr) (l1 c1 l2 c2 l3 c3 : Nat) (h1 : (l1 : Int) ≤ 9223372036854775807) (h2 : (l2 : Int) ≤ 9223372036854775807) (h3 : (l3 : Int) ≤ 9223372036854775807) (S : Nat → ByteArray) (w : World) (hS : Names w a2 l2 S)
    (h : 131072 < (l1 : Int) ∨ 65536 < (l2 : Int) ∨ 131072 < (l3 : Int)) :
    Calls Try.prog 3 #[.int .i64 x, .int .i64 y, .slice a1 l1 c1, .slice a2 l2 c2, .slice a3 l3 c3] w (LawPost w) := by
  rcases (show 131072 < (l1 : Int) ∨ (¬ 131072 < (l1 : Int) ∧ 65536 < (l2 : Int)) ∨ (¬ 131072 < (l1 : Int) ∧ ¬ 65536 < (l2 : Int) ∧ 131072 < (l3 : Int)) from by omega) with d | ⟨d, d'⟩ | ⟨d, d', d''⟩
  all_goals
    clear h
    go_enter Try.func3, Try.ntmps3
    go_wp2_with (go_at_call 8; refine (bytes_any _ _ _ _ _ _ _ _ _ _ _ h1 h2 h3 S _ hS).mono ?_; rintro e w2 ⟨⟨bb, rfl, _⟩, rfl⟩; cases bb)
    all_goals (go_ret; exact ⟨rfl, Below.refl _ _⟩)

set_option maxRecDepth 100000 in
set_option maxHeartbeats 2000000 in
/-- No width: yes at once (or earlier). -/
theorem law_thin (x y : Int) (a1 a2 a3 : Option Addr) (l1 c1 l2 c2 l3 c3 : Nat) (h1 : l1 ≤ 131072) (h2 : l2 ≤ 65536) (h3 : l3 ≤ 131072) (S : Nat → ByteArray) (w : World) (hS : Names w a2 l2 S) (hy : y < 1) :
    Calls Try.prog 3 #[.int .i64 x, .int .i64 y, .slice a1 l1 c1, .slice a2 l2 c2, .slice a3 l3 c3] w (LawPost w) := by
  go_enter Try.func3, Try.ntmps3
  go_wp2_with (go_at_call 8; refine (bytes_any _ _ _ _ _ _ _ _ _ _ _ (by omega) (by omega) (by omega) S _ hS).mono ?_; rintro e w2 ⟨⟨bb, rfl, hsm⟩, rfl⟩; cases bb)
  · go_ret; exact ⟨rfl, Below.refl _ _⟩
  go_wp2_with fail
  refine (names_any (8*(l1:Int)+8*(l3:Int)) (by omega) (by omega) _ _ _ (by omega) S (hsm trivial) _ hS).mono ?_
  rintro e w2 ⟨⟨bb, rfl⟩, rfl⟩
  cases bb
  all_goals go_wp2
  all_goals (go_ret; exact ⟨rfl, Below.refl _ _⟩)

theorem RingAt.new (x : Int) (W : Nat) (a1 a2 : Option Addr) (l1 c1 l2 c2 : Nat) (w : World) :
    RingAt (w.alloc (.cells #[.int .i64 x, .int .i64 W, .slice a1 l1 c1, .slice a2 l2 c2] 47)) w.heap.size W a1 l1 c1 := by
  constructor <;> simp

theorem Below.next {a b c : World} (h : Below a.heap.size a b) (k : Below b.heap.size b c) : Below a.heap.size a c := h.trans (k.mono h.size)

theorem belowDraw {a b : World} (h : Below a.heap.size a b) (n : Nat) : Below a.heap.size a (b.drewN n) := h.trans ⟨rfl, rfl, rfl, Nat.le_refl _, fun _ _ => rfl⟩

set_option maxRecDepth 100000 in
set_option maxHeartbeats 4000000 in
theorem law_main (x : Int) (W n : Nat) (D P : List Int) (a1 a2 a3 : Option Addr) (c1 l2 c2 c3 : Nat) (n1 : a1 = none → D = [] ∧ c1 = 0) (n2 : a2 = none → l2 = 0 ∧ c2 = 0) (n3 : a3 = none → P = [] ∧ c3 = 0) (h1 : D.length ≤ 131072) (hc1 : D.length ≤ c1) (h2 : l2 ≤ 65536) (h3 : P.length ≤ 131072) (S : Nat → ByteArray) (hW : 1 ≤ W) (hn : D.length / W = n)
    (w : World) (hD : Words w a1 D) (hS : Names w a2 l2 S) (hP : Words w a3 P) :
    Calls Try.prog 3 #[.int .i64 x, .int .i64 W, .slice a1 D.length c1, .slice a2 l2 c2, .slice a3 P.length c3] w (LawPost w) := by
  have hnb : n ≤ 131072 := by rw [← hn]; exact Nat.le_trans (Nat.div_le_self _ _) h1
  have HN : Hid (D.length / W = n) := hn
  have hpos : 0 < n → 0 < D.length := fun h => by
    rcases Nat.eq_zero_or_pos D.length with e | e
    · rw [← HN.out, e, Nat.zero_div] at h; exact absurd h (by omega)
    · exact e
  have HSO : Hid (∀ _ : Unit, Calls Try.prog 10 #[.slice a1 D.length c1, .int .i64 W] w (SortedPost n W D w)) := fun _ => by
    obtain ⟨b, off, hao, hid⟩ := hD.ids
    exact sorted_any W n D a1 b off c1 h1 hc1 hW hn (fun h => hao (hpos h)) w hid
  have HC1 : Hid (∀ w1 : World, Below w.heap.size w w1 → Calls Try.prog 11 #[.slice a1 D.length c1] w1 fun e w' => ∃ (ao' : Option Addr) (cap' : Nat), e = .returned (.slice ao' D.length cap') ∧ D.length ≤ cap' ∧ Words w' ao' D ∧ Below w1.heap.size w1 w') := fun w1 hb => cloneW_any a1 D c1 n1 h1 w1 (hD.below hb)
  have HC2 : Hid (∀ w1 : World, Below w.heap.size w w1 → Calls Try.prog 12 #[.slice a2 l2 c2] w1 fun e w' => ∃ (ao' : Option Addr) (n' cap' : Nat), e = .returned (.slice ao' n' cap') ∧ Below w1.heap.size w1 w') := fun w1 hb => cloneN_any a2 l2 c2 S n2 (by omega) w1 (hS.below hb)
  have HC3 : Hid (∀ w1 : World, Below w.heap.size w w1 → Calls Try.prog 11 #[.slice a3 P.length c3] w1 fun e w' => ∃ (ao' : Option Addr) (cap' : Nat), e = .returned (.slice ao' P.length cap') ∧ P.length ≤ cap' ∧ Words w' ao' P ∧ Below w1.heap.size w1 w') := fun w1 hb => cloneW_any a3 P c3 n3 h3 w1 (hP.below hb)
  have HSE : Hid (∀ (r : Nat) (ao pa : Option Addr) (cap pc : Nat) (w1 : World), D.length ≤ cap → Plain.Sorted n (nodeL D W) → RingAt w1 r W ao D.length cap → Words w1 ao D → Words w1 pa P →
      Calls Try.prog 14 #[.pointer (some ⟨r, 0, none⟩), .slice pa P.length pc] w1 fun e w' => ∃ (lo : Nat) (gf : Bool), e = .returned (.tuple #[.int .i64 lo, .bool gf]) ∧ Plain.belowTo (nodeL D W) P n = lo ∧ Plain.foundTo (nodeL D W) P n = gf ∧ ∃ nq, w' = w1.drewN nq) := by
    intro r ao pa cap pc w1 hcap hso hr hdw hpw
    obtain ⟨b, off, hao, hid⟩ := hdw.ids
    refine (zzsearch_any r W n D P ao pa b off cap pc h1 hcap h3 hW hn (fun h => hao (hpos h)) hso w1 hr hid hpw).mono ?_
    rintro e w' ⟨lo, rfl, hsp, nq, rfl⟩
    obtain ⟨k1, k2⟩ := hsp.answer hso
    exact ⟨lo, _, rfl, k1, k2, nq, rfl⟩
  have HCM : Hid (∀ (k : Nat) (b off cap : Nat) (pa : Option Addr) (pc : Nat) (w1 : World), k < n → Ids w1 b off D → Words w1 pa P → Calls Try.prog 15 #[.slice (some ⟨b, off + k * W, none⟩) W (cap - k * W), .slice pa P.length pc] w1 fun e w' => e = .returned (.int .i64 (Plain.cmpL (nodeL D W k) P)) ∧ ∃ n4, w' = w1.drewN n4) := by
    intro k b off cap pa pc w1 hk hid hpw
    have r0 := row_le (i := k) hk HN.out
    have := cmpWords_any (nodeL D W k) P (some ⟨b, off + k * W, none⟩) pa (cap - k * W) pc (by rw [nodeL_length r0]; omega) h3 w1 (hid.node r0) hpw
    rw [nodeL_length r0] at this
    exact this
  obtain ⟨l, hl⟩ : ∃ l, l = D.length := ⟨_, rfl⟩
  obtain ⟨pl, hpl⟩ : ∃ pl, pl = P.length := ⟨_, rfl⟩
  have HPOS : Hid (0 < n → 0 < D.length) := hpos
  have HROW : Hid (∀ k, k < n → k * W + W ≤ D.length) := fun k hk => row_le hk HN.out
  have e1 : (l : Int) / (W : Int) = (n : Int) := by rw [hl, ← hn]; simp
  have HE1 : Hid ((l : Int) / (W : Int) = (n : Int)) := e1
  have w0 : (1 : Int) ≤ (W : Int) := by omega
  have w1 : ((W : Int) == 0) = false := by simp; omega
  have HL : Hid (l = D.length) := hl
  rw [← hl] at HSO HC1 HSE HROW h1 ⊢
  rw [← hpl] at HC3 HSE HCM h3 ⊢
  clear hn hl hpl n1 n2 n3 hc1 hD hP hpos e1
  go_enter Try.func3, Try.ntmps3
  go_wp2_with (go_at_call 8; refine (bytes_any _ _ _ _ _ _ _ _ _ _ _ (by omega) (by omega) (by omega) S _ hS).mono ?_; rintro e w2 ⟨⟨bb, rfl, hsm⟩, rfl⟩; cases bb)
  · go_ret; exact ⟨rfl, Below.refl _ _⟩
  go_wp2_with fail
  refine (names_any (8*(l:Int)+8*(pl:Int)) (by omega) (by omega) _ _ _ (by omega) S (hsm trivial) _ hS).mono ?_
  rintro e w2 ⟨⟨bb, rfl⟩, rfl⟩
  clear hsm
  cases bb
  · go_wp2_with fail
    refine (HSO.out ()).mono ?_
    rintro e w2 ⟨⟨bb, rfl, hso⟩, nq, rfl⟩
    have HS0 : Hid (bb = true → Plain.Sorted n (nodeL D W)) := hso
    clear hso
    cases bb
    · go_wp2
      go_ret
      exact ⟨rfl, belowDraw (Below.refl _ _) _⟩
    have hso : Hid (Plain.Sorted n (nodeL D W)) := HS0.out rfl
    clear HS0
    obtain ⟨w3, hw3⟩ : ∃ w3, w3 = w.drewN nq := ⟨_, rfl⟩
    have hb3 : Hid (Below w.heap.size w w3) := by rw [hw3]; exact belowDraw (Below.refl _ _) _
    rw [← hw3]
    clear hw3
    go_wp2_with fail
    refine (HC1.out w3 hb3.out).mono ?_
    rintro e w4 ⟨d1, dc, rfl, hdc, hd4, hb4⟩
    have hb4' : Hid (Below w.heap.size w w4) := Below.next hb3.out hb4
    have HD4 : Hid (Words w4 d1 D) := hd4
    clear hb4 hd4
    go_wp2_with fail
    refine (HC2.out w4 hb4'.out).mono ?_
    rintro e w5 ⟨s1, sl, sc, rfl, hb5⟩
    have hb5' : Hid (Below w.heap.size w w5) := Below.next hb4'.out hb5
    have HD5 : Hid (Words w5 d1 D) := HD4.out.below hb5
    clear hb5
    go_wp2_with fail
    refine (HC3.out w5 hb5'.out).mono ?_
    rintro e w6 ⟨p1, pc, rfl, hpc, hp6, hb6⟩
    have hb6' : Hid (Below w.heap.size w w6) := Below.next hb5'.out hb6
    have HD6 : Hid (Words w6 d1 D) := HD5.out.below hb6
    have HP6 : Hid (Words w6 p1 P) := hp6
    clear hb6 hp6
    go_wp2_with fail
    refine (ring_any x W d1 s1 l dc sl sc w6).mono ?_
    rintro e w7 ⟨rfl, hw7⟩
    have hb67 : Below w6.heap.size w6 w7 := by rw [← hw7]; exact (Below.refl _ _).alloc (Nat.le_refl _) _
    have HR : Hid (RingAt w7 w6.heap.size W d1 l dc) := by rw [← hw7]; exact RingAt.new x W d1 s1 l dc sl sc w6
    have hb7 : Hid (Below w.heap.size w w7) := Below.next hb6'.out hb67
    have HD7 : Hid (Words w7 d1 D) := HD6.out.below hb67
    have HP7 : Hid (Words w7 p1 P) := HP6.out.below hb67
    obtain ⟨r, hr⟩ : ∃ r, r = w6.heap.size := ⟨_, rfl⟩
    rw [← hr] at HR ⊢
    clear hb67 hw7 hr
    go_wp2_with fail
    refine (HSE.out r d1 p1 dc pc w7 hdc hso.out HR.out HD7.out HP7.out).mono ?_
    rintro e w8 ⟨lo, gf, rfl, hlo, hgf, nq8, hw8⟩
    have hb8 : Hid (Below w.heap.size w w8) := by rw [hw8]; exact belowDraw hb7.out _
    have HD8 : Hid (Words w8 d1 D) := by rw [hw8]; exact HD7.out
    have HP8 : Hid (Words w8 p1 P) := by rw [hw8]; exact HP7.out
    have HLO : Hid (Plain.belowTo (nodeL D W) P n = lo) := hlo
    have HGF : Hid (Plain.foundTo (nodeL D W) P n = gf) := hgf
    clear hlo hgf hw8
    have e1 := HE1.out
    go_wp2
    clear e1
    obtain ⟨b, off, hao, hid⟩ := HD8.out.ids
    have HAO : Hid (0 < D.length → d1 = some ⟨b, off, none⟩) := hao
    have HID : Hid (Ids w8 b off D) := hid
    clear hao hid
    go_loopw [15, 16, 17] (fun z f i wr => ∃ k nq : Nat, k ≤ n ∧ i = .int .i64 k ∧ z = .int .i64 (Plain.belowTo (nodeL D W) P k : Nat) ∧ f = .bool (Plain.foundTo (nodeL D W) P k) ∧ wr = w8.drewN nq) (fun _ _ i _ => n - (intOf i).toNat)
    case atStart => exact ⟨0, 0, Nat.zero_le _, rfl, rfl, rfl, rfl⟩
    case round =>
      obtain ⟨k, nq, hk, rfl, rfl, rfl, rfl⟩ := hrel
      obtain ⟨B, hB⟩ : ∃ B, B = Plain.belowTo (nodeL D W) P k := ⟨_, rfl⟩
      have hBl : B ≤ k := by rw [hB]; exact Plain.belowTo_le _ _ _
      obtain ⟨F, hF⟩ : ∃ F, F = Plain.foundTo (nodeL D W) P k := ⟨_, rfl⟩
      rw [← hB, ← hF]
      have HB : Hid (B = Plain.belowTo (nodeL D W) P k) := hB
      have HF : Hid (F = Plain.foundTo (nodeL D W) P k) := hF
      clear hB hF
      by_cases hlt : k < n
      · obtain rfl := HAO.out (HPOS.out (by omega))
        have HCK : Hid (Calls Try.prog 15 #[.slice (some ⟨b, off + k * W, none⟩) W (dc - k * W), .slice p1 pl pc] (w8.drewN nq) fun e w' => e = .returned (.int .i64 (Plain.cmpL (nodeL D W k) P)) ∧ ∃ n4, w' = (w8.drewN nq).drewN n4) := HCM.out k b off dc p1 pc (w8.drewN nq) hlt ⟨HID.out.cell⟩ HP8.out
        obtain ⟨C, hC⟩ : ∃ C, C = Plain.cmpL (nodeL D W k) P := ⟨_, rfl⟩
        rw [← hC] at HCK
        have HCC : Hid (C = Plain.cmpL (nodeL D W k) P) := hC
        clear hC
        by_cases c1 : C < 0
        · have c2 : ¬ C = 0 := by omega
          go_wp2_with fail
          refine (nodeAt_any b off l dc W k (k * W) rfl hdc h1 hW (HROW.out k hlt) _).mono ?_
          rintro e w2 ⟨rfl, rfl⟩
          go_wp2_with fail
          refine HCK.out.mono ?_
          rintro e w3 ⟨rfl, n3, rfl⟩
          obtain ⟨n4, h4⟩ := draws2 w8 nq n3
          rw [h4]
          clear h4
          go_wp2
          go_roundw
          case rel =>
            refine ⟨k + 1, n4, by omega, by go_num, ?_, ?_, rfl⟩
            · show _ = Value.int .i64 ((if Plain.cmpL (nodeL D W k) P < 0 then Plain.belowTo (nodeL D W) P k + 1 else Plain.belowTo (nodeL D W) P k : Nat) : Int)
              rw [← HCC.out, ← HB.out, if_pos c1]
              go_num
            · show _ = Value.bool (if Plain.cmpL (nodeL D W k) P = 0 then true else Plain.foundTo (nodeL D W) P k)
              rw [← HCC.out, ← HF.out, if_neg c2]
          case measure => simp [intOf]; omega
        by_cases c2 : C = 0
        · have HC0 : Hid (C = 0) := c2
          have c3 : (C == 0) = true := by simp [c2]
          clear c2
          go_wp2_with fail
          refine (nodeAt_any b off l dc W k (k * W) rfl hdc h1 hW (HROW.out k hlt) _).mono ?_
          rintro e w2 ⟨rfl, rfl⟩
          go_wp2_with fail
          refine HCK.out.mono ?_
          rintro e w3 ⟨rfl, n3, rfl⟩
          obtain ⟨n4, h4⟩ := draws2 w8 nq n3
          rw [h4]
          clear h4
          go_wp2
          go_roundw
          case rel =>
            refine ⟨k + 1, n4, by omega, by go_num, ?_, ?_, rfl⟩
            · show _ = Value.int .i64 ((if Plain.cmpL (nodeL D W k) P < 0 then Plain.belowTo (nodeL D W) P k + 1 else Plain.belowTo (nodeL D W) P k : Nat) : Int)
              rw [← HCC.out, ← HB.out, if_neg (show ¬ C < 0 by omega)]
            · show _ = Value.bool (if Plain.cmpL (nodeL D W k) P = 0 then true else Plain.foundTo (nodeL D W) P k)
              rw [← HCC.out, ← HF.out, if_pos HC0.out]
          case measure => simp [intOf]; omega
        · go_wp2_with fail
          refine (nodeAt_any b off l dc W k (k * W) rfl hdc h1 hW (HROW.out k hlt) _).mono ?_
          rintro e w2 ⟨rfl, rfl⟩
          go_wp2_with fail
          refine HCK.out.mono ?_
          rintro e w3 ⟨rfl, n3, rfl⟩
          obtain ⟨n4, h4⟩ := draws2 w8 nq n3
          rw [h4]
          clear h4
          go_wp2
          go_roundw
          case rel =>
            refine ⟨k + 1, n4, by omega, by go_num, ?_, ?_, rfl⟩
            · show _ = Value.int .i64 ((if Plain.cmpL (nodeL D W k) P < 0 then Plain.belowTo (nodeL D W) P k + 1 else Plain.belowTo (nodeL D W) P k : Nat) : Int)
              rw [← HCC.out, ← HB.out, if_neg (show ¬ C < 0 by omega)]
            · show _ = Value.bool (if Plain.cmpL (nodeL D W k) P = 0 then true else Plain.foundTo (nodeL D W) P k)
              rw [← HCC.out, ← HF.out, if_neg c2]
          case measure => simp [intOf]; omega
      · obtain rfl : k = n := by omega
        obtain rfl : B = lo := HB.out.trans HLO.out
        obtain rfl : F = gf := HF.out.trans HGF.out
        cases F
        all_goals
          go_wp2
          go_ret
          exact ⟨rfl, belowDraw hb8.out _⟩
  · go_wp2
    go_ret
    exact ⟨rfl, Below.refl _ _⟩
end Go.Proofs.Qxb6603742a
