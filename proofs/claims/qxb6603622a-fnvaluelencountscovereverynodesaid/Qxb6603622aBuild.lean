import Derived.Test.Qxb6603622aLen
import Derived.WalkKit
import Derived.WalkSmall
import Derived.WalkSpells
import Derived.Deep.RegionWith
import Derived.Deep.CutRange
import Derived.Deep.LoopGhost
namespace Go.Proofs.Qxb6603622a
open Go.RowKit

theorem Try.info54 : (Try.prog.info? 54).map (fun i => (i.zero, i.size, i.bytes)) = some (some (.agg #[.int .u8 0, .bool false, .int .u32 0, .int .u32 0, .int .u32 0]), 5, 16) := by kernel_rfl

/-- A node's five cells. -/
def nodeCells (k x : Nat) : List Value := [.int .u8 (k : Int), .bool false, .int .u32 0, .int .u32 0, .int .u32 (x : Int)]
/-- The cells of the first m nodes. -/
def cellsTo (K X : Nat → Nat) : Nat → List Value
  | 0 => []
  | m + 1 => cellsTo K X m ++ nodeCells (K m) (X m)
theorem cellsTo_length (K X : Nat → Nat) : ∀ m, (cellsTo K X m).length = m * 5
  | 0 => rfl
  | m + 1 => by simp [cellsTo, nodeCells, cellsTo_length K X m]; omega
theorem cellsTo_kind (K X : Nat → Nat) : ∀ m i, i < m → (cellsTo K X m)[i * 5]? = some (.int .u8 (K i : Int))
  | m + 1, i, h => by
    have hl := cellsTo_length K X m
    rcases Nat.lt_succ_iff_lt_or_eq.1 h with h' | rfl
    · rw [cellsTo, List.getElem?_append_left (by omega)]; exact cellsTo_kind K X m i h'
    · rw [cellsTo, List.getElem?_append_right (by omega), hl, Nat.sub_self]; rfl
theorem cellsTo_next (K X : Nat → Nat) : ∀ m i, i < m → (cellsTo K X m)[i * 5 + 4]? = some (.int .u32 (X i : Int))
  | m + 1, i, h => by
    have hl := cellsTo_length K X m
    rcases Nat.lt_succ_iff_lt_or_eq.1 h with h' | rfl
    · rw [cellsTo, List.getElem?_append_left (by omega)]; exact cellsTo_next K X m i h'
    · rw [cellsTo, List.getElem?_append_right (by omega), hl, show i * 5 + 4 - i * 5 = 4 from by omega]; rfl

/-- The document under way: m nodes laid. -/
structure Part (Bd m : Nat) (K X : Nat → Nat) (w : World) (v : Value) (wr : World) : Prop where
  blk : wr.heap[Bd]? = some (.cells #[.string ⟨#[]⟩, v] 49 (0, 0))
  own : wr.ownsRow (Bd + 1) 54 5 v m (cellsTo K X m)
  bel : Below Bd w wr

set_option maxHeartbeats 400000 in
theorem add_any (Bd m : Nat) (hm : m < 65536) (K X : Nat → Nat) (w0 w : World) (v : Value) (h : Part Bd m K X w0 v w) :
    Calls Try.prog 15 #[.pointer (some ⟨Bd, 0, none⟩), .int .u8 (K m), .int .u32 (X m)] w fun e w' => e = .returned (.tuple #[]) ∧ ∃ v', Part Bd (m + 1) K X w0 v' w' := by
  obtain ⟨i0, hi, hz0, hz1, hz2⟩ := info_parts Try.info54
  have c1 : w.cell? ⟨Bd, 1, none⟩ = some v := by simp [World.cell?, h.blk]
  have f1 : w.frozen? ⟨Bd, 1, none⟩ = false := by simp [World.frozen?, h.blk]
  have hlt : Bd < w.heap.size := lt_of_block h.blk
  have hnew : ∀ j u, (nodeCells (K m) (X m))[j]? = some u → (w.alloc (.cells #[.int .u8 (K m), .bool false, .int .u32 0, .int .u32 0, .int .u32 (X m)] 54)).cell? ((⟨w.heap.size, 0, none⟩ : Addr).add j) = some u := by
    intro j u hj
    match j, hj with
    | 0, hj => simp [nodeCells] at hj; subst hj; simp [Addr.add]
    | 1, hj => simp [nodeCells] at hj; subst hj; simp [Addr.add]
    | 2, hj => simp [nodeCells] at hj; subst hj; simp [Addr.add]
    | 3, hj => simp [nodeCells] at hj; subst hj; simp [Addr.add]
    | 4, hj => simp [nodeCells] at hj; subst hj; simp [Addr.add]
    | j + 5, hj => simp [nodeCells] at hj
  have hone : ∀ u ∈ nodeCells (K m) (X m), u.oneCell' = true := by
    intro u hu
    simp only [nodeCells, List.mem_cons, List.not_mem_nil, or_false] at hu
    rcases hu with rfl | rfl | rfl | rfl | rfl <;> rfl
  have HN : Hid (∀ j u, (nodeCells (K m) (X m))[j]? = some u → (w.alloc (.cells #[.int .u8 (K m), .bool false, .int .u32 0, .int .u32 0, .int .u32 (X m)] 54)).cell? ((⟨w.heap.size, 0, none⟩ : Addr).add j) = some u) := hnew
  have HO : Hid (∀ u ∈ nodeCells (K m) (X m), u.oneCell' = true) := hone
  clear hnew hone
  go_enter Try.func15, Try.ntmps15
  go_wp2_with (at_builtin; go_must (refine wpList_append_own _ rfl (.tmp 10) (.tmp 14) 47 rfl (Bd + 1) 54 i0 (.agg #[.int .u8 0, .bool false, .int .u32 0, .int .u32 0, .int .u32 0]) 5 16 Try.underlying47 hi hz0 hz1 hz2 rfl (by decide) _ _ _ rfl (h.own.alloc _) ⟨w.heap.size, 0, none⟩ 1 1 (nodeCells (K m) (X m)) rfl rfl HN.out HO.out (by unfold maxLen; omega) (by omega) (by simp; omega) ?_))
  intro v' w1 hown hgrow _
  have hne : some Bd ≠ v.ownBlock := fun e => by have := h.own.lt Bd e.symm; omega
  have hblk : w1.heap[Bd]? = some (.cells #[.string ⟨#[]⟩, v] 49 (0, 0)) := (hgrow.block Bd (by simp; omega) hne).trans ((Below.heap_alloc _ _ _ hlt).trans h.blk)
  have c2 : w1.cell? ⟨Bd, 1, none⟩ = some v := by simp [World.cell?, hblk]
  have f2 : w1.frozen? ⟨Bd, 1, none⟩ = false := by simp [World.frozen?, hblk]
  have hbel : Below Bd w0 w1 := (h.bel.alloc (by omega) _).grown hgrow (by simp; omega) (fun k e => by have := h.own.lt k e; omega)
  clear hgrow c1 f1 HN HO
  obtain ⟨g', cap', rfl⟩ : ∃ g' cap', v' = .slice (some ⟨g', 0, none⟩) (m + 1) cap' := by
    rcases hown.2 with ⟨_, h0⟩ | ⟨g, cap, _, e, _⟩
    · omega
    · exact ⟨g, cap, e⟩
  have HB : Hid (w1.heap[Bd]? = some (.cells #[.string ⟨#[]⟩, v] 49 (0, 0))) := hblk
  clear hblk
  go_wp2
  go_end0
  refine ⟨rfl, _, ?_, ownsRow_setCell_below hown (by simp) _, hbel.setCell (p := ⟨Bd, 1, none⟩) (Nat.le_refl _) _⟩
  rw [heap_setCell_same _ _ _ _ _ _ HB.out]
  rfl

theorem Part.drew {Bd m : Nat} {K X : Nat → Nat} {w wr : World} {v : Value} (h : Part Bd m K X w v wr) : Part Bd m K X w v wr.drew := ⟨h.blk, h.own.drew, h.bel.drew⟩

theorem Part.start (K X : Nat → Nat) (w : World) : Part w.heap.size 0 K X w (.slice none 0 0) (w.alloc (.cells #[.string ⟨#[]⟩, .slice none 0 0] 49)) :=
  ⟨World.alloc_heap_new w _, World.ownsRow_nil _ _ _ _, (Below.refl _ w).alloc (Nat.le_refl _) _⟩

set_option maxHeartbeats 1000000 in
theorem build_any (b0 o0 c0 b1 o1 c1 n : Nat) (K X : Nat → Nat) (hn2 : n ≤ 65536) (w : World)
    (hk : ∀ i, i < n → w.cell? ⟨b0, o0 + i, none⟩ = some (.int .u8 (K i))) (hx : ∀ i, i < n → w.cell? ⟨b1, o1 + i, none⟩ = some (.int .u32 (X i)))
    (hb0 : b0 < w.heap.size) (hb1 : b1 < w.heap.size) :
    Calls Try.prog 8 #[.slice (some ⟨b0, o0, none⟩) n c0, .slice (some ⟨b1, o1, none⟩) n c1] w fun e w' => ∃ v, e = .returned (.pointer (some ⟨w.heap.size, 0, none⟩)) ∧ Part w.heap.size n K X w v w' := by
  go_enter Try.func8, Try.ntmps8
  go_wp2
  go_loopg [6] n (fun k i wr => ∃ (m : Nat) (v : Value), m + k = n ∧ i = .int .i64 m ∧ Part w.heap.size m K X w v wr)
  case atStart => exact ⟨0, _, by omega, rfl, Part.start K X w⟩
  case round =>
    obtain ⟨m, v, hmk, rfl, hp⟩ := hrel
    by_cases hlt : m < n
    · have hkk : wr.cell? ⟨b0, o0 + m, none⟩ = some (.int .u8 (K m)) := (hp.bel.cell (p := ⟨b0, o0 + m, none⟩) hb0).trans (hk m hlt)
      have hxk : wr.cell? ⟨b1, o1 + m, none⟩ = some (.int .u32 (X m)) := (hp.bel.cell (p := ⟨b1, o1 + m, none⟩) hb1).trans (hx m hlt)
      have hmi : (m : Int) < (n : Int) := by omega
      have HM : Hid (m + gk = n) := hmk
      clear hmk
      go_wp2_with fail
      go_region_with (go_at_call 15; refine (add_any w.heap.size m (by omega) K X w _ v ?_).mono ?_; exact hp.drew; rintro e w' ⟨rfl, v', hp'⟩)
      all_goals
        go_wp2
        go_roundg (gk - 1)
        case measure => have := HM.out; omega
        case rel => exact ⟨m + 1, v', by have := HM.out; omega, by go_num, hp'⟩
    · obtain rfl : m = n := by omega
      clear hmk
      go_wp2
      go_ret
      exact ⟨v, rfl, hp⟩

theorem Part.doc {Bd n : Nat} {K X : Nat → Nat} {w wr : World} {v : Value} (h : Part Bd n K X w v wr) (hn : 0 < n) : ∃ g cap, Doc (· < wr.heap.size) wr Bd g cap n K X := by
  have hown := h.own
  obtain ⟨g, cap, rfl⟩ : ∃ g cap, v = .slice (some ⟨g, 0, none⟩) n cap := by
    rcases hown.2 with ⟨_, h0⟩ | ⟨g, cap, _, e, _⟩
    · omega
    · exact ⟨g, cap, e⟩
  refine ⟨g, cap, lt_of_block h.blk, (hown.lt g rfl).2, by simp [World.cell?, h.blk], fun i hi => ?_, fun i hi => ?_⟩
  · rw [hown.cellAt (i * 5) (by omega)]; exact cellsTo_kind K X n i hi
  · rw [hown.cellAt (i * 5 + 4) (by omega)]; exact cellsTo_next K X n i hi
end Go.Proofs.Qxb6603622a
