import Derived.RangeFuncNested
import Derived.RangeFuncBound
import Derived.RangeFuncCalls
import Derived.RangeFuncLeaves
import Derived.RangeFuncFrom
import Derived.Shelf.Abstract
import Derived.Shelf.RegionOpen
import Derived.WalkKit
import Derived.OwnWalkIn
import Derived.TacticsInMore
import Derived.LoopNIn
import Derived.LoopIn
import Derived.Sort.QuietIn
import Derived.WalkSmall
import Derived.Test.Qxb6603622aProg
import Derived.Test.Qxb6603622aPlain
namespace Go.Proofs.Qxb6603622a
open Go.RowKit Go.Shelf
attribute [local go_sem] Oper.semAt_some

/-- The blocks that In names lie as they lay. -/
def KeepsIn (In : Nat → Prop) (W W' : World) : Prop := ∀ k, In k → W'.heap[k]? = W.heap[k]?
theorem KeepsIn.refl (In : Nat → Prop) (W : World) : KeepsIn In W W := fun _ _ => rfl
theorem KeepsIn.trans {In : Nat → Prop} {A B C : World} (h : KeepsIn In A B) (k : KeepsIn In B C) : KeepsIn In A C := fun i hi => (k i hi).trans (h i hi)
theorem KeepsIn.drewN {In : Nat → Prop} {A B : World} (h : KeepsIn In A B) (n : Nat) : KeepsIn In A (B.drewN n) := h
theorem KeepsIn.cell {In : Nat → Prop} {A B : World} (h : KeepsIn In A B) {p : Addr} (hp : In p.block) : B.cell? p = A.cell? p := World.cell?_of_block (w := A) (h p.block hp)
theorem KeepsIn.of_below {In : Nat → Prop} {n₀ : Nat} {A B : World} (h : Below n₀ A B) (hi : ∀ k, In k → k < n₀) : KeepsIn In A B := fun k hk => h.block k (hi k hk)

/-- THE DOCUMENT IN MEMORY, in blocks that In names: block Bd: the text and the nodes' slice; block g: five cells a node. -/
structure Doc (In : Nat → Prop) (W : World) (Bd g cap n : Nat) (K X : Nat → Nat) : Prop where
  bd : In Bd
  gd : In g
  slot : W.cell? ⟨Bd, 1, none⟩ = some (.slice (some ⟨g, 0, none⟩) n cap)
  kind : ∀ i, i < n → W.cell? ⟨g, i * 5, none⟩ = some (.int .u8 (K i))
  next : ∀ i, i < n → W.cell? ⟨g, i * 5 + 4, none⟩ = some (.int .u32 (X i))

theorem Doc.keeps {In : Nat → Prop} {Bd g cap n : Nat} {K X : Nat → Nat} {A B : World} (h : Doc In A Bd g cap n K X) (hb : KeepsIn In A B) : Doc In B Bd g cap n K X :=
  ⟨h.bd, h.gd, (hb.cell (p := ⟨Bd, 1, none⟩) h.bd).trans h.slot, fun i hi => (hb.cell (p := ⟨g, i * 5, none⟩) h.gd).trans (h.kind i hi), fun i hi => (hb.cell (p := ⟨g, i * 5 + 4, none⟩) h.gd).trans (h.next i hi)⟩

theorem Doc.mono {In In' : Nat → Prop} {Bd g cap n : Nat} {K X : Nat → Nat} {A : World} (h : Doc In A Bd g cap n K X) (hb : In' Bd) (hg : In' g) : Doc In' A Bd g cap n K X := ⟨hb, hg, h.slot, h.kind, h.next⟩

set_option maxRecDepth 100000 in
set_option maxHeartbeats 1000000 in
theorem elements1_in (m : Nat) (hm : 1 ≤ m) (l Ba Bp Bd g cap n t c : Nat) (In : Nat → Prop) (K X : Nat → Nat) (hn : n ≤ 65536) (ht : t < n) (hN : ∀ j, j < n → Plain.Node n K X j) (hd : Plain.Done K X t c)
    (J Jx : List Nat → World → Prop)
    (hdrew : ∀ pre W k, J pre W → J pre (W.drewN k))
    (hY : ∀ pre x W, J pre W → pre.length < c → YieldAt Fence.wide (m - 1) Try.prog l #[.int .u32 (x : Nat)] W fun e W' =>
      (e = .returned (.bool true) ∧ J (pre ++ [x]) W' ∧ KeepsIn In W W') ∨ (e = .returned (.bool false) ∧ Jx (pre ++ [x]) W'))
    (W : World) (hBa : In Ba) (hBp : In Bp) (hca : W.cell? ⟨Ba, 0, none⟩ = some (.int .u32 (t : Nat))) (hcp : W.cell? ⟨Bp, 0, none⟩ = some (.pointer (some ⟨Bd, 0, none⟩))) (hD : Doc In W Bd g cap n K X) (h0 : J [] W) :
    CallsIn Fence.wide m Try.prog 25 #[.func (.yield l) #[] #[], .pointer (some ⟨Ba, 0, none⟩), .pointer (some ⟨Bp, 0, none⟩)] W fun e W' => (∃ v, e = .returned v) ∧
      ((∃ ys, ys.length = c ∧ J ys W') ∨ (∃ pre, pre.length ≤ c ∧ Jx pre W')) := by
  refine callsIn_of_wp Try.func25 rfl trivial ?_ rfl
  simp only [Try.ntmps25, List.size_toArray, List.length_cons, List.length_nil, Nat.reduceAdd, Nat.reduceSub, Array.replicate_succ, Array.replicate_zero, List.push_toArray, List.append_toArray, List.nil_append, List.cons_append]
  gi_wp2
  gi_loopw [4] (fun p wr => ∃ (pre : List Nat), p = .int .u32 (Plain.hop X pre.length (t + 1) : Nat) ∧ pre.length ≤ c ∧ KeepsIn In W wr ∧ J pre wr)
    (fun p _ => n + 1 - (intOf p).toNat)
  case atStart => exact ⟨[], rfl, Nat.zero_le _, KeepsIn.refl _ _, h0⟩
  case round =>
    obtain ⟨pre, rfl, hle, hb, hJ⟩ := hrel
    have hD' := hD.keeps hb
    have hx := hD'.next t ht
    have hs := hD'.slot
    have hca' := (hb.cell (p := ⟨Ba, 0, none⟩) hBa).trans hca
    have hcp' := (hb.cell (p := ⟨Bp, 0, none⟩) hBp).trans hcp
    have hti : (t : Int) < (n : Int) := by omega
    have hX := (hN t ht).2.1
    by_cases hlt : pre.length < c
    · have hl := hd.1.2.1 pre.length hlt
      gi_wp2
      gi_quiet (fail)
      obtain ⟨fn, tmps, assign, body, hy, hR⟩ := hY pre (Plain.hop X pre.length (t + 1)) (wr.drewN nq) (hdrew _ _ _ hJ) hlt
      gi_wp2
      refine hR.mono ?_
      clear hR hy
      rintro e W3 (⟨rfl, hJ3, hk3⟩ | ⟨rfl, hJx3⟩)
      · have hb3 : KeepsIn In W W3 := (hb.drewN nq).trans hk3
        have hD3 := hD.keeps hb3
        have hx3 := hD3.next (Plain.hop X pre.length (t + 1)) (by omega)
        have hs3 := hD3.slot
        have hcp3 := (hb3.cell (p := ⟨Bp, 0, none⟩) hBp).trans hcp
        have hhn : Plain.hop X pre.length (t + 1) < n := by omega
        have hinc := (hN _ hhn).1
        gi_wp2
        go_roundw
        case rel => exact ⟨pre ++ [Plain.hop X pre.length (t + 1)], by simp [Plain.hop_last], by simp; omega, hb3, hJ3⟩
        case measure => simp [intOf]; omega
      · gi_wp2
        refine bodyPost_ret (results_none rfl _ _ _) rfl ?_
        exact ⟨⟨_, rfl⟩, .inr ⟨_, by simp; omega, hJx3⟩⟩
    · have hc : pre.length = c := by omega
      have hl : X t ≤ Plain.hop X pre.length (t + 1) := by rw [hc, hd.1.1]; exact Nat.le_refl _
      have HC : Hid (pre.length = c) := hc
      clear hc
      gi_wp2
      gi_quiet (fail)
      gi_wp2
      go_end0
      exact ⟨⟨_, rfl⟩, .inl ⟨pre, HC.out, hdrew _ _ _ hJ⟩⟩

set_option maxRecDepth 100000 in
set_option maxHeartbeats 1000000 in
theorem members1_in (m : Nat) (hm : 1 ≤ m) (l Ba Bp Bd g cap n t q : Nat) (In : Nat → Prop) (K X : Nat → Nat) (hn : n ≤ 65536) (ht : t < n) (hN : ∀ j, j < n → Plain.Node n K X j) (hd : Plain.Done K X t (2 * q)) (hk : K t = 6)
    (J Jx : List Nat → World → Prop)
    (hdrew : ∀ pre W k, J pre W → J pre (W.drewN k))
    (hY : ∀ pre x W, J pre W → pre.length < q → YieldAt Fence.wide (m - 1) Try.prog l #[.int .u32 (x : Nat)] W fun e W' =>
      (e = .returned (.bool true) ∧ J (pre ++ [x]) W' ∧ KeepsIn In W W') ∨ (e = .returned (.bool false) ∧ Jx (pre ++ [x]) W'))
    (W : World) (hBa : In Ba) (hBp : In Bp) (hca : W.cell? ⟨Ba, 0, none⟩ = some (.int .u32 (t : Nat))) (hcp : W.cell? ⟨Bp, 0, none⟩ = some (.pointer (some ⟨Bd, 0, none⟩))) (hD : Doc In W Bd g cap n K X) (h0 : J [] W) :
    CallsIn Fence.wide m Try.prog 24 #[.func (.yield l) #[] #[], .pointer (some ⟨Ba, 0, none⟩), .pointer (some ⟨Bp, 0, none⟩)] W fun e W' => (∃ v, e = .returned v) ∧
      ((∃ ys, ys.length = q ∧ J ys W') ∨ (∃ pre, pre.length ≤ q ∧ Jx pre W')) := by
  refine callsIn_of_wp Try.func24 rfl trivial ?_ rfl
  simp only [Try.ntmps24, List.size_toArray, List.length_cons, List.length_nil, Nat.reduceAdd, Nat.reduceSub, Array.replicate_succ, Array.replicate_zero, List.push_toArray, List.append_toArray, List.nil_append, List.cons_append]
  have HK : Hid (K t = 6) := hk
  clear hk
  gi_wp2
  gi_loopw [4] (fun p wr => ∃ (pre : List Nat) (x : Nat), p = .int .u32 (x : Nat) ∧ Hid (x = Plain.hop X (2 * pre.length) (t + 1)) ∧ pre.length ≤ q ∧ KeepsIn In W wr ∧ J pre wr)
    (fun p _ => n + 1 - (intOf p).toNat)
  case atStart => exact ⟨[], t + 1, by simp, rfl, Nat.zero_le _, KeepsIn.refl _ _, h0⟩
  case round =>
    obtain ⟨pre, x, rfl, HX, hle, hb, hJ⟩ := hrel
    have hD' := hD.keeps hb
    have hx := hD'.next t ht
    have hs := hD'.slot
    have hca' := (hb.cell (p := ⟨Ba, 0, none⟩) hBa).trans hca
    have hcp' := (hb.cell (p := ⟨Bp, 0, none⟩) hBp).trans hcp
    have hti : (t : Int) < (n : Int) := by omega
    have hX := (hN t ht).2.1
    by_cases hlt : pre.length < q
    · have hl : x < X t := by rw [HX.out]; exact hd.1.2.1 (2 * pre.length) (by omega)
      have hxn : x < n := by omega
      have H4 : K x = 4 := by rw [HX.out]; exact hd.1.2.2 HK.out (2 * pre.length) (by omega) (by omega)
      have HX1 : Hid (X x = x + 1) := (hN x hxn).2.2.2.2 (by omega) (by omega)
      have hl1 : x + 1 < X t := by
        have h := hd.1.2.1 (2 * pre.length + 1) (by omega)
        rw [Plain.hop_last, ← HX.out, HX1.out] at h
        exact h
      have HE : Hid (X (x + 1) = Plain.hop X (2 * (pre.length + 1)) (t + 1)) := by
        show X (x + 1) = Plain.hop X (2 * pre.length + 1 + 1) (t + 1)
        rw [Plain.hop_last, Plain.hop_last, ← HX.out, HX1.out]
      clear H4
      gi_wp2
      gi_quiet (fail)
      obtain ⟨fn, tmps, assign, body, hy, hR⟩ := hY pre x (wr.drewN nq) (hdrew _ _ _ hJ) hlt
      gi_wp2
      refine hR.mono ?_
      clear hR hy
      rintro e W3 (⟨rfl, hJ3, hk3⟩ | ⟨rfl, hJx3⟩)
      · have hb3 : KeepsIn In W W3 := (hb.drewN nq).trans hk3
        have hD3 := hD.keeps hb3
        have hx3 := hD3.next (x + 1) (by omega)
        have hs3 := hD3.slot
        have hcp3 := (hb3.cell (p := ⟨Bp, 0, none⟩) hBp).trans hcp
        have hhn : x + 1 < n := by omega
        have hinc := (hN _ hhn).1
        gi_wp2
        go_roundw
        case rel => exact ⟨pre ++ [x], X (x + 1), rfl, by rw [List.length_append]; exact HE.out, by simp; omega, hb3, hJ3⟩
        case measure => simp [intOf]; omega
      · gi_wp2
        refine bodyPost_ret (results_none rfl _ _ _) rfl ?_
        exact ⟨⟨_, rfl⟩, .inr ⟨_, by simp; omega, hJx3⟩⟩
    · have hc : pre.length = q := by omega
      have hl : X t ≤ x := by rw [HX.out, hc, hd.1.1]; exact Nat.le_refl _
      have HC : Hid (pre.length = q) := hc
      clear hc
      gi_wp2
      gi_quiet (fail)
      gi_wp2
      go_end0
      exact ⟨⟨_, rfl⟩, .inl ⟨pre, HC.out, hdrew _ _ _ hJ⟩⟩

theorem grownBy_drewN (W : World) (k : Nat) : W.grownBy (W.drewN k) none := ⟨rfl, rfl, rfl, Nat.le_refl _, fun _ _ _ => rfl⟩
theorem AbidesFrom.drewN {β : Type} {B : Nat} {J : β → World → Prop} (h : AbidesFrom B J) (s : β) (W : World) (k : Nat) (hs : J s W) : J s (W.drewN k) := h s W _ none hs (grownBy_drewN W k) (fun r e => by cases e)

set_option maxHeartbeats 1000000 in
theorem elements_in (m : Nat) (p0 : Option Addr) (t : Int) (w : World) :
    CallsIn Fence.wide m Try.prog 23 #[.pointer p0, .int .u32 t] w fun e w' => e = .returned (.func (.func 25) #[] #[.pointer (some ⟨w.heap.size + 1, 0, none⟩), .pointer (some ⟨w.heap.size, 0, none⟩)]) ∧ w' = (w.alloc (.cells #[.pointer p0] 29)).alloc (.cells #[.int .u32 t] 24) := by
  refine callsIn_of_wp Try.func23 rfl trivial ?_ rfl
  simp only [Try.ntmps23, List.size_toArray, List.length_cons, List.length_nil, Nat.reduceAdd, Nat.reduceSub, Array.replicate_succ, Array.replicate_zero, List.push_toArray, List.append_toArray, List.nil_append, List.cons_append]
  gi_wp2
  go_ret
  exact ⟨rfl, rfl⟩

set_option maxHeartbeats 1000000 in
theorem members_in (m : Nat) (p0 : Option Addr) (t : Int) (w : World) :
    CallsIn Fence.wide m Try.prog 22 #[.pointer p0, .int .u32 t] w fun e w' => e = .returned (.func (.func 24) #[] #[.pointer (some ⟨w.heap.size + 1, 0, none⟩), .pointer (some ⟨w.heap.size, 0, none⟩)]) ∧ w' = (w.alloc (.cells #[.pointer p0] 29)).alloc (.cells #[.int .u32 t] 24) := by
  refine callsIn_of_wp Try.func22 rfl trivial ?_ rfl
  simp only [Try.ntmps22, List.size_toArray, List.length_cons, List.length_nil, Nat.reduceAdd, Nat.reduceSub, Array.replicate_succ, Array.replicate_zero, List.push_toArray, List.append_toArray, List.nil_append, List.cons_append]
  gi_wp2
  go_ret
  exact ⟨rfl, rfl⟩

theorem elements_stops (m : Nat) (hm : 1 ≤ m) (Ba Bp Bd g cap n t c : Nat) (In : Nat → Prop) (K X : Nat → Nat) (hn : n ≤ 65536) (ht : t < n) (hN : ∀ j, j < n → Plain.Node n K X j) (hd : Plain.Done K X t c)
    (w : World) (hIn : ∀ k, In k → k < w.heap.size) (hBa : In Ba) (hBp : In Bp) (hca : w.cell? ⟨Ba, 0, none⟩ = some (.int .u32 (t : Nat))) (hcp : w.cell? ⟨Bp, 0, none⟩ = some (.pointer (some ⟨Bd, 0, none⟩))) (hD : Doc In w Bd g cap n K X) :
    SeqStopsK Fence.wide m Try.prog 25 #[.pointer (some ⟨Ba, 0, none⟩), .pointer (some ⟨Bp, 0, none⟩)] (fun x : Nat => #[Value.int .u32 (x : Int)]) (KeepsIn In) (fun ys => ys.length = c) (fun pre => pre.length ≤ c) c w := fun l J Jx W hW hJ _ hY h0 =>
  elements1_in m hm l Ba Bp Bd g cap n t c In K X hn ht hN hd J Jx (fun pre W k h => AbidesFrom.drewN hJ pre W k h) hY W hBa hBp ((hW.cell (p := ⟨Ba, 0, none⟩) (hIn _ hBa)).trans hca) ((hW.cell (p := ⟨Bp, 0, none⟩) (hIn _ hBp)).trans hcp) (hD.keeps (KeepsIn.of_below hW hIn)) h0

theorem members_stops (m : Nat) (hm : 1 ≤ m) (Ba Bp Bd g cap n t q : Nat) (In : Nat → Prop) (K X : Nat → Nat) (hn : n ≤ 65536) (ht : t < n) (hN : ∀ j, j < n → Plain.Node n K X j) (hd : Plain.Done K X t (2 * q)) (hk : K t = 6)
    (w : World) (hIn : ∀ k, In k → k < w.heap.size) (hBa : In Ba) (hBp : In Bp) (hca : w.cell? ⟨Ba, 0, none⟩ = some (.int .u32 (t : Nat))) (hcp : w.cell? ⟨Bp, 0, none⟩ = some (.pointer (some ⟨Bd, 0, none⟩))) (hD : Doc In w Bd g cap n K X) :
    SeqStopsK Fence.wide m Try.prog 24 #[.pointer (some ⟨Ba, 0, none⟩), .pointer (some ⟨Bp, 0, none⟩)] (fun x : Nat => #[Value.int .u32 (x : Int)]) (KeepsIn In) (fun ys => ys.length = q) (fun pre => pre.length ≤ q) q w := fun l J Jx W hW hJ _ hY h0 =>
  members1_in m hm l Ba Bp Bd g cap n t q In K X hn ht hN hd hk J Jx (fun pre W k h => AbidesFrom.drewN hJ pre W k h) hY W hBa hBp ((hW.cell (p := ⟨Ba, 0, none⟩) (hIn _ hBa)).trans hca) ((hW.cell (p := ⟨Bp, 0, none⟩) (hIn _ hBp)).trans hcp) (hD.keeps (KeepsIn.of_below hW hIn)) h0

theorem cell_of_box_l {W : World} {B : Nat} {v : Value} {t : TypeId} (h : W.heap[B]? = some (.cells #[v] t (0, 0))) : W.cell? ⟨B, 0, none⟩ = some v ∧ W.frozen? ⟨B, 0, none⟩ = false := by
  constructor <;> simp [World.cell?, World.frozen?, h]
theorem cell_new_l (W : World) (v : Value) (t : TypeId) : (W.alloc (.cells #[v] t)).cell? ⟨W.heap.size, 0, none⟩ = some v ∧ (W.alloc (.cells #[v] t)).frozen? ⟨W.heap.size, 0, none⟩ = false :=
  cell_of_box_l (World.alloc_heap_new W _)
theorem cell_alloc_l {W : World} {a : Addr} {v : Value} (o : Obj) (h : W.cell? a = some v) : (W.alloc o).cell? a = some v := cell_kept h (World.grownBy_alloc W o none) (fun r e => by cases e)
theorem frozen_alloc_l {W : World} {a : Addr} {v : Value} (o : Obj) (h : W.cell? a = some v) (hf : W.frozen? a = false) : (W.alloc o).frozen? a = false := (frozen_kept h (World.grownBy_alloc W o none) (fun r e => by cases e)).trans hf

theorem keepsIn_b {In : Nat → Prop} {N : Nat} (hIn : ∀ k, In k → k < N) : ∀ (W : World) (l : Nat) (o o' : Obj), N ≤ l → W.heap[l]? = some o → o.isCells = false → o.isWalk = false → KeepsIn In W (W.putObj l o') := by
  intro W l o o' hl h1 _ _ k hk
  have hlt := (Array.getElem?_eq_some_iff.1 h1).1
  exact ((Below.refl N W).grown (grownBy_putObj' W l o') (by omega) (fun k e => by cases e; omega)).block k (hIn k hk)

set_option maxRecDepth 100000 in
set_option maxHeartbeats 2000000 in
/-- 'count' at a node that is no object. -/
theorem count_else (Bd g cap n t c : Nat) (K X : Nat → Nat) (hn : n ≤ 65536) (ht : t < n) (hc : c ≤ 65536) (hN : ∀ j, j < n → Plain.Node n K X j) (hd : Plain.Done K X t c) (hk : K t ≠ 6) (w : World) (hD : Doc (· < w.heap.size) w Bd g cap n K X) :
    CallsIn Fence.wide 4 Try.prog 20 #[.pointer (some ⟨Bd, 0, none⟩), .int .u32 (t : Nat)] w fun e W' => e = .returned (.int .i64 (c : Nat)) ∧ Below w.heap.size w W' := by
  have hs := hD.slot
  have hkc := hD.kind t ht
  have hbd := hD.bd
  have hgd := hD.gd
  have hti : (t : Int) < (n : Int) := by omega
  have t1 : (((K t : Nat) : Int) == 6) = false := by simp; omega
  refine callsIn_of_wp_marks Try.func20 rfl trivial ?_ rfl
  simp only [Try.ntmps20, List.size_toArray, List.length_cons, List.length_nil, Nat.reduceAdd, Nat.reduceSub, Array.replicate_succ, Array.replicate_zero, List.push_toArray, List.append_toArray, List.nil_append, List.cons_append]
  gi_wp2_with (refine ⟨trivial, ?_⟩; gi_at_call 23; refine (elements_in 3 _ _ _).mono ?_; rintro e w' ⟨rfl, rfl⟩)
  have c0 := cell_new_l w (.int .i64 0) 3
  have c1 := cell_new_l (w.alloc (.cells #[.int .i64 0] 3)) (.pointer (some ⟨Bd, 0, none⟩)) 29
  have c2 := cell_new_l ((w.alloc (.cells #[.int .i64 0] 3)).alloc (.cells #[.pointer (some ⟨Bd, 0, none⟩)] 29)) (.int .u32 (t : Nat)) 24
  simp only [World.size_alloc] at c1 c2
  have hB0 : Below w.heap.size w (((w.alloc (.cells #[.int .i64 0] 3)).alloc (.cells #[.pointer (some ⟨Bd, 0, none⟩)] 29)).alloc (.cells #[.int .u32 (t : Nat)] 24)) := (((Below.refl _ w).alloc (Nat.le_refl _) _).alloc (by simp) _).alloc (by simp; omega) _
  have hD2 : Doc (fun k => k < w.heap.size + 3 ∧ k ≠ w.heap.size) (((w.alloc (.cells #[.int .i64 0] 3)).alloc (.cells #[.pointer (some ⟨Bd, 0, none⟩)] 29)).alloc (.cells #[.int .u32 (t : Nat)] 24)) Bd g cap n K X := (hD.keeps (KeepsIn.of_below hB0 (fun k h => h))).mono ⟨by omega, by omega⟩ ⟨by omega, by omega⟩
  refine wpIn_rangeFunc_ownF rfl (by omega) (gf := 25) (lb := #[.pointer (some ⟨w.heap.size + 1 + 1, 0, none⟩), .pointer (some ⟨w.heap.size + 1, 0, none⟩)]) rfl trivial (enters_of Try.func25 (by kernel_rfl) rfl)
    (elements_stops 3 (by omega) (w.heap.size + 1 + 1) (w.heap.size + 1) Bd g cap n t c (fun k => k < w.heap.size + 3 ∧ k ≠ w.heap.size) K X hn ht hN hd _ (fun k h => by simp; omega) ⟨by omega, by omega⟩ ⟨by omega, by omega⟩ c2.1 (cell_alloc_l _ c1.1) hD2)
    KeepsIn.trans (keepsIn_b (fun k h => by simp; omega)) (Below.refl _ _) (fun _ => rfl)
    (fun pre W => (pre.length ≤ c ∧ W.cell? ⟨w.heap.size, 0, none⟩ = some (.int .i64 (pre.length : Nat)) ∧ W.frozen? ⟨w.heap.size, 0, none⟩ = false) ∧ Below w.heap.size w W)
    (fun _ _ _ => False)
    (OwnFrom.and (Own.from (fun s A B row hs hg hr => ⟨hs.1, cell_kept hs.2.1 hg hr, (frozen_kept hs.2.1 hg hr).trans hs.2.2⟩) _) (ownFrom_below (Nat.le_refl _) (by simp; omega)))
    (fun _ _ _ _ _ hs _ _ => hs)
    ⟨⟨Nat.zero_le _, cell_alloc_l _ (cell_alloc_l _ c0.1), frozen_alloc_l _ (cell_alloc_l _ c0.1) (frozen_alloc_l _ c0.1 c0.2)⟩, hB0⟩
    (fun x => { tmps := #[.pointer (some ⟨Bd, 0, none⟩), .int .u32 (t : Nat), undef, undef, .int .i64 0, .pointer (some ⟨w.heap.size, 0, none⟩), .pointer (some ⟨Bd, 0, none⟩), .pointer (some ⟨Bd, 0, none⟩), .pointer (some ⟨Bd, 1, none⟩), .slice (some ⟨g, 0, none⟩) n cap, .int .u32 (t : Nat), .pointer (some ⟨g, t * 5, none⟩), .pointer (some ⟨g, t * 5, none⟩), .int .u8 (K t), .bool false, undef, undef, undef, undef, undef, undef, undef, .pointer (some ⟨Bd, 0, none⟩), .int .u32 (t : Nat), .func (.func 25) #[] #[.pointer (some ⟨w.heap.size + 1 + 1, 0, none⟩), .pointer (some ⟨w.heap.size + 1, 0, none⟩)], .int .u32 (x : Nat), undef, undef, undef], defers := [] }) ?assign ?body ?done ?stop
  case assign =>
    intro l x W K hK
    gi_wp2
    simpa using hK
  case body =>
    rintro l pre x W ⟨⟨hle, hc, hf⟩, hB⟩ hlt
    gi_wp2
    exact ⟨KeepsOthers.setCell _ _ _, fun k hk => Below.heap_setCell _ _ _ _ (by simpa using hk.2), ⟨by simp; omega, by rw [List.length_append]; exact World.cell?_setCell_same' _ _ _ (by rw [hc]; rfl), by rw [World.frozen?_setCell]; exact hf⟩, hB.setCell (p := ⟨w.heap.size, 0, none⟩) (Nat.le_refl _) _⟩
  case done =>
    rintro D ys W hD hlen ⟨⟨_, hc, _⟩, hB⟩ hK
    gi_wp2
    refine ⟨by simp, .inl ⟨_, _, rfl, run_takeDeferred hK, ?_⟩⟩
    exact ⟨_, results_tmp rfl _ _ _, by rw [← hlen]; rfl, hB.trans (belowK_b (w := w) (Nat.le_refl _) W D _ _ (by simp at hD; omega) hK rfl rfl)⟩
  case stop =>
    rintro D c pre W _ _ h _
    exact h.elim
set_option maxRecDepth 100000 in
set_option maxHeartbeats 2000000 in
/-- 'count' at a node that is an object. -/
theorem count_obj (Bd g cap n t q : Nat) (K X : Nat → Nat) (hn : n ≤ 65536) (ht : t < n) (hq : q ≤ 65536) (hN : ∀ j, j < n → Plain.Node n K X j) (hd : Plain.Done K X t (2 * q)) (hk : K t = 6) (w : World) (hD : Doc (· < w.heap.size) w Bd g cap n K X) :
    CallsIn Fence.wide 4 Try.prog 20 #[.pointer (some ⟨Bd, 0, none⟩), .int .u32 (t : Nat)] w fun e W' => e = .returned (.int .i64 (q : Nat)) ∧ Below w.heap.size w W' := by
  have hs := hD.slot
  have hkc := hD.kind t ht
  have hbd := hD.bd
  have hgd := hD.gd
  have hti : (t : Int) < (n : Int) := by omega
  have t1 : (((K t : Nat) : Int) == 6) = true := by simp; omega
  have HK : Hid (K t = 6) := hk
  clear hk
  refine callsIn_of_wp_marks Try.func20 rfl trivial ?_ rfl
  simp only [Try.ntmps20, List.size_toArray, List.length_cons, List.length_nil, Nat.reduceAdd, Nat.reduceSub, Array.replicate_succ, Array.replicate_zero, List.push_toArray, List.append_toArray, List.nil_append, List.cons_append]
  gi_wp2_with (refine ⟨trivial, ?_⟩; gi_at_call 22; refine (members_in 3 _ _ _).mono ?_; rintro e w' ⟨rfl, rfl⟩)
  have c0 := cell_new_l w (.int .i64 0) 3
  have c1 := cell_new_l (w.alloc (.cells #[.int .i64 0] 3)) (.pointer (some ⟨Bd, 0, none⟩)) 29
  have c2 := cell_new_l ((w.alloc (.cells #[.int .i64 0] 3)).alloc (.cells #[.pointer (some ⟨Bd, 0, none⟩)] 29)) (.int .u32 (t : Nat)) 24
  simp only [World.size_alloc] at c1 c2
  have hB0 : Below w.heap.size w (((w.alloc (.cells #[.int .i64 0] 3)).alloc (.cells #[.pointer (some ⟨Bd, 0, none⟩)] 29)).alloc (.cells #[.int .u32 (t : Nat)] 24)) := (((Below.refl _ w).alloc (Nat.le_refl _) _).alloc (by simp) _).alloc (by simp; omega) _
  have hD2 : Doc (fun k => k < w.heap.size + 3 ∧ k ≠ w.heap.size) (((w.alloc (.cells #[.int .i64 0] 3)).alloc (.cells #[.pointer (some ⟨Bd, 0, none⟩)] 29)).alloc (.cells #[.int .u32 (t : Nat)] 24)) Bd g cap n K X := (hD.keeps (KeepsIn.of_below hB0 (fun k h => h))).mono ⟨by omega, by omega⟩ ⟨by omega, by omega⟩
  refine wpIn_rangeFunc_ownF rfl (by omega) (gf := 24) (lb := #[.pointer (some ⟨w.heap.size + 1 + 1, 0, none⟩), .pointer (some ⟨w.heap.size + 1, 0, none⟩)]) rfl trivial (enters_of Try.func24 (by kernel_rfl) rfl)
    (members_stops 3 (by omega) (w.heap.size + 1 + 1) (w.heap.size + 1) Bd g cap n t q (fun k => k < w.heap.size + 3 ∧ k ≠ w.heap.size) K X hn ht hN hd HK.out _ (fun k h => by simp; omega) ⟨by omega, by omega⟩ ⟨by omega, by omega⟩ c2.1 (cell_alloc_l _ c1.1) hD2)
    KeepsIn.trans (keepsIn_b (fun k h => by simp; omega)) (Below.refl _ _) (fun _ => rfl)
    (fun pre W => (pre.length ≤ q ∧ W.cell? ⟨w.heap.size, 0, none⟩ = some (.int .i64 (pre.length : Nat)) ∧ W.frozen? ⟨w.heap.size, 0, none⟩ = false) ∧ Below w.heap.size w W)
    (fun _ _ _ => False)
    (OwnFrom.and (Own.from (fun s A B row hs hg hr => ⟨hs.1, cell_kept hs.2.1 hg hr, (frozen_kept hs.2.1 hg hr).trans hs.2.2⟩) _) (ownFrom_below (Nat.le_refl _) (by simp; omega)))
    (fun _ _ _ _ _ hs _ _ => hs)
    ⟨⟨Nat.zero_le _, cell_alloc_l _ (cell_alloc_l _ c0.1), frozen_alloc_l _ (cell_alloc_l _ c0.1) (frozen_alloc_l _ c0.1 c0.2)⟩, hB0⟩
    (fun x => { tmps := #[.pointer (some ⟨Bd, 0, none⟩), .int .u32 (t : Nat), undef, undef, .int .i64 0, .pointer (some ⟨w.heap.size, 0, none⟩), .pointer (some ⟨Bd, 0, none⟩), .pointer (some ⟨Bd, 0, none⟩), .pointer (some ⟨Bd, 1, none⟩), .slice (some ⟨g, 0, none⟩) n cap, .int .u32 (t : Nat), .pointer (some ⟨g, t * 5, none⟩), .pointer (some ⟨g, t * 5, none⟩), .int .u8 (K t), .bool true, .pointer (some ⟨Bd, 0, none⟩), .int .u32 (t : Nat), .func (.func 24) #[] #[.pointer (some ⟨w.heap.size + 1 + 1, 0, none⟩), .pointer (some ⟨w.heap.size + 1, 0, none⟩)], .int .u32 (x : Nat), undef, undef, undef, undef, undef, undef, undef, undef, undef, undef], defers := [] }) ?assign ?body ?done ?stop
  case assign =>
    intro l x W K hK
    gi_wp2
    simpa using hK
  case body =>
    rintro l pre x W ⟨⟨hle, hc, hf⟩, hB⟩ hlt
    gi_wp2
    exact ⟨KeepsOthers.setCell _ _ _, fun k hk => Below.heap_setCell _ _ _ _ (by simpa using hk.2), ⟨by simp; omega, by rw [List.length_append]; exact World.cell?_setCell_same' _ _ _ (by rw [hc]; rfl), by rw [World.frozen?_setCell]; exact hf⟩, hB.setCell (p := ⟨w.heap.size, 0, none⟩) (Nat.le_refl _) _⟩
  case done =>
    rintro D ys W hD hlen ⟨⟨_, hc, _⟩, hB⟩ hK
    gi_wp2
    refine ⟨by simp, .inl ⟨_, _, rfl, run_takeDeferred hK, ?_⟩⟩
    exact ⟨_, results_tmp rfl _ _ _, by rw [← hlen]; rfl, hB.trans (belowK_b (w := w) (Nat.le_refl _) W D _ _ (by simp at hD; omega) hK rfl rfl)⟩
  case stop =>
    rintro D c pre W _ _ h _
    exact h.elim
end Go.Proofs.Qxb6603622a
