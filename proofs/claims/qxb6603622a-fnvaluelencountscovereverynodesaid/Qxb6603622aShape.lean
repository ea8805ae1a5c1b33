import Derived.Test.Qxb6603622aProg
import Derived.Test.Qxb6603622aPlain
import Derived.WalkKit
import Derived.WalkSmall
import Derived.Deep.OwnRows
import Derived.Maps.AppendAt
import Derived.WalkSpells
namespace Go.Proofs.Qxb6603622a
open Go.RowKit Plain

theorem Try.info3 : (Try.prog.info? 3).map (fun i => (i.zero, i.size, i.bytes)) = some (some (.int .i64 0), 1, 8) := by kernel_rfl

/-- What lies in memory: the counts' row (block B), the stack's row (block B + 1), and below B all is as it was. -/
structure Mem (B n : Nat) (w : World) (st : List Nat) (ch : Nat → Nat) (wr : World) : Prop where
  row : wr.rowIs B 3 n (fun i => .int .i64 (ch i))
  own : wr.ownsRow (B + 1) 3 1 (.slice (some ⟨B + 1, 0, none⟩) st.length n) st.length (st.reverse.map fun s : Nat => Value.int .i64 (s : Int))
  bel : Below B w wr

/-- A slice's length, for a loop's measure. -/
def lenOf : Value → Nat | .slice _ n _ => n | _ => 0

theorem Mem.top {B n : Nat} {w wr : World} {s : Nat} {rest : List Nat} {ch : Nat → Nat} (h : Mem B n w (s :: rest) ch wr) : wr.cell? ⟨B + 1, rest.length, none⟩ = some (.int .i64 (s : Int)) := by
  rw [h.own.cellAt rest.length (by simp)]
  simp

theorem Mem.pop {B n : Nat} {w wr : World} {s : Nat} {rest : List Nat} {ch : Nat → Nat} (h : Mem B n w (s :: rest) ch wr) : Mem B n w rest ch wr := by
  refine ⟨h.row, ?_, h.bel⟩
  have := h.own
  simp only [List.reverse_cons, List.map_append, List.length_cons] at this
  exact ownsRow_pop (by simp) this

theorem Mem.start {n : Nat} (hn : n ≤ 65536) (w : World) : Mem w.heap.size n w [] (fun _ => 0) ((w.alloc (.cells (madeCells #[.int .i64 0] n) 3)).alloc (.cells (madeCells #[.int .i64 0] n) 3)) := by
  refine ⟨(World.rowIs_made w _ n 3).alloc _, ?_, ((Below.refl _ w).alloc (Nat.le_refl _) _).alloc (by simp) _⟩
  have := World.ownsRow_made (base := w.heap.size + 1) (e := 3) (size := 1) (w.alloc (.cells (madeCells #[.int .i64 0] n) 3)) (madeCells #[.int .i64 0] n) n (by simp) (by unfold maxLen; omega) (by simp [size_madeCells])
  simpa using this

theorem Mem.bump {B n : Nat} {w wr : World} {st : List Nat} {ch : Nat → Nat} (h : Mem B n w st ch wr) (s : Nat) : Mem B n w st (Plain.bump ch s) (wr.setCell ⟨B, s, none⟩ (.int .i64 ((ch s : Int) + 1))) := by
  refine ⟨(h.row.set s _).congr (fun j hj => ?_), ownsRow_setCell_below h.own (by simp) _, h.bel.setCell (p := ⟨B, s, none⟩) (Nat.le_refl _) _⟩
  simp only [Plain.bump]
  split
  · next e => subst e; simp
  · rfl

/-- Behind 'stack = append(stack, k)': the block that held k alone, and the store. -/
theorem Mem.push {B n : Nat} {w wr w1 : World} {st : List Nat} {ch : Nat → Nat} {o : Obj} (h : Mem B n w st ch wr) (k : Nat)
    (hown : w1.ownsRow (B + 1) 3 1 (.slice (some ⟨B + 1, 0, none⟩) (st.length + 1) n) (st.length + 1) ((st.reverse.map fun s : Nat => Value.int .i64 (s : Int)) ++ [.int .i64 (k : Int)])) (hg : (wr.alloc o).grownBy w1 (some (B + 1))) : Mem B n w (k :: st) ch w1 := by
  have hlt := h.row.lt
  refine ⟨(h.row.alloc o).of_block (hg.block B (by simp; omega) (by simp)), by simpa using hown, (h.bel.alloc (by omega) o).grown hg (by simp; omega) (fun j e => by cases e; omega)⟩

theorem cell_one_at {w : World} {N : Nat} (v : Value) (t : TypeId) (h : N = w.heap.size) : ∀ j u, [v][j]? = some u → (w.alloc (.cells #[v] t)).cell? ((⟨N, 0, none⟩ : Addr).add j) = some u := by
  subst h
  exact cell_one_new w v t

/-- What the shape's call leaves. -/
def ShapePost (n : Nat) (K X : Nat → Nat) (w : World) (e : Ending) (w' : World) : Prop := ∃ v b, e = .returned (.tuple #[v, .bool b]) ∧ Below w.heap.size w w' ∧ (b = true → Plain.Shape n K X)

theorem ShapePost.no {n : Nat} {K X : Nat → Nat} {w w' : World} (v : Value) (h : Below w.heap.size w w') : ShapePost n K X w (.returned (.tuple #[v, .bool false])) w' := ⟨v, false, rfl, h, by simp⟩
theorem ShapePost.yes {n : Nat} {K X : Nat → Nat} {w w' : World} (v : Value) (h : Below w.heap.size w w') (hs : Plain.Shape n K X) : ShapePost n K X w (.returned (.tuple #[v, .bool true])) w' := ⟨v, true, rfl, h, fun _ => hs⟩

set_option maxRecDepth 100000 in
set_option maxHeartbeats 4000000 in
theorem shape_main (b0 o0 c0 b1 o1 c1 n : Nat) (K X : Nat → Nat) (hn : 0 < n) (hn2 : n ≤ 65536) (w : World)
    (hk : ∀ i, i < n → w.cell? ⟨b0, o0 + i, none⟩ = some (.int .u8 (K i))) (hx : ∀ i, i < n → w.cell? ⟨b1, o1 + i, none⟩ = some (.int .u32 (X i)))
    (hb0 : b0 < w.heap.size) (hb1 : b1 < w.heap.size) (hK : ∀ i, K i ≤ 255) (hX : ∀ i, X i ≤ 4294967295) :
    Calls Try.prog 7 #[.slice (some ⟨b0, o0, none⟩) n c0, .slice (some ⟨b1, o1, none⟩) n c1] w fun e w' => ShapePost n K X w e w' := by
  have hx0 : w.cell? ⟨b1, o1, none⟩ = some (.int .u32 (X 0)) := by simpa using hx 0 hn
  have hmk := fun ww => run_make_row' (P := Try.prog) 26 3 (.int .i64 0) 8 Try.underlying26 Try.info3 rfl .i64 .i64 n (by omega) (by omega) ww
  obtain ⟨i0, hi, hz0, hz1, hz2⟩ := info_parts Try.info3
  have hmk2 : ∀ ww : World, (Instr.makeSlice 26 (.int .i64 0) (.int .i64 (n : Int))).run Try.prog ww = .ok (.slice (some ⟨ww.heap.size, 0, none⟩) 0 n) (ww.alloc (.cells (madeCells #[.int .i64 0] n) 3)) := by
    intro ww
    have h := run_make (P := Try.prog) ww 26 3 i0 (.int .i64 0) Try.underlying26 hi hz0 .i64 .i64 0 n (by omega) (by omega) (by rw [hz2]; omega) (by omega)
    simpa [hz1, Value.cells] using h
  have hn0 : ((n : Int) == 0) = false := by simp; omega
  by_cases hroot : X 0 = n
  · have hb : (((X 0 : Nat) : Int) != (n : Int)) = false := by simp [hroot]
    have HR : Hid (X 0 = n) := hroot
    clear hroot
    go_enter Try.func7, Try.ntmps7
    go_wp2
    clear hmk hmk2 hx0 hb
    go_loopw [8, 9] (fun s i wr => ∃ (k : Nat) (st : List Nat) (ch : Nat → Nat), k ≤ n ∧ i = .int .i64 k ∧ s = .slice (some ⟨w.heap.size + 1, 0, none⟩) st.length n ∧ Plain.Inv n K X k st ch ∧ Mem w.heap.size n w st ch wr) (fun _ i _ => n - (intOf i).toNat)
    case atStart => exact ⟨0, [], fun _ => 0, Nat.zero_le _, rfl, rfl, Plain.Inv.start n K X, Mem.start hn2 w⟩
    case round =>
      obtain ⟨k, st, ch, hk1, rfl, rfl, hinv, hmem⟩ := hrel
      by_cases hlt : k < n
      · have hkk : wr.cell? ⟨b0, o0 + k, none⟩ = some (.int .u8 (K k)) := (hmem.bel.cell (p := ⟨b0, o0 + k, none⟩) hb0).trans (hk k hlt)
        have hxk : wr.cell? ⟨b1, o1 + k, none⟩ = some (.int .u32 (X k)) := (hmem.bel.cell (p := ⟨b1, o1 + k, none⟩) hb1).trans (hx k hlt)
        have hKk := hK k
        have hXk := hX k
        by_cases hN : Plain.Node n K X k
        · obtain ⟨n1, n2, n3, n4, n5⟩ := id hN
          have HN : Hid (Plain.Node n K X k) := hN
          have HC : Hid (K k = 5 ∨ K k = 6 ∨ (K k ≠ 5 ∧ K k ≠ 6)) := show K k = 5 ∨ K k = 6 ∨ (K k ≠ 5 ∧ K k ≠ 6) by omega
          have HT : (((K k : Nat) : Int) == 5) = true ∨ ((((K k : Nat) : Int) == 5) = false ∧ (((K k : Nat) : Int) == 6) = true) ∨ ((((K k : Nat) : Int) == 5) = false ∧ (((K k : Nat) : Int) == 6) = false ∧ (((X k : Nat) : Int) != (k : Int) + 1) = false) := by
            rcases HC.out with h | h | ⟨h, h'⟩
            · exact .inl (by simp; omega)
            · exact .inr (.inl ⟨by simp; omega, by simp; omega⟩)
            · have := n5 h h'
              exact .inr (.inr ⟨by simp; omega, by simp; omega, by simp; omega⟩)
          clear hN n5
          rcases HT with t1 | ⟨t1, t2⟩ | ⟨t1, t2, t6⟩
          all_goals
            go_wp2
            go_loop [8] (fun s => ∃ st : List Nat, s = .slice (some ⟨w.heap.size + 1, 0, none⟩) st.length n ∧ Plain.Inv n K X k st ch ∧ Mem w.heap.size n w st ch wr) (fun s => lenOf s)
            case atStart => exact ⟨st, rfl, hinv, hmem⟩
            case round =>
              clear hinv hmem
              obtain ⟨st, rfl, hinv, hmem⟩ := hrel
              cases st with
              | nil =>
                by_cases hz : k = 0
                · have t7 : ((k : Int) != 0) = false := by simp; omega
                  have H0 : Hid (k = 0) := hz
                  clear hz
                  go_wp2_with (at_builtin; go_must (refine wpList_append_fits _ rfl _ _ 26 rfl (w.heap.size + 1) 3 i0 1 Try.underlying26 hi hz1 (w.heap.size + 1) 0 n _ rfl (hmem.own.alloc _) ⟨wr.heap.size, 0, none⟩ 1 1 [.int .i64 k] rfl rfl (cell_one_new _ _ _) (by intro u hu; simp at hu; subst hu; rfl) (by omega) ?_))
                  first
                    | (intro w1 hown hgrow
                       go_wp2
                       go_roundw
                       case rel =>
                         have e0 := H0.out
                         have hr : Plain.Inv n K X (k + 1) [k] ch := by subst e0; exact hinv.root_push HN.out
                         exact ⟨k + 1, [k], ch, by omega, by go_num, rfl, hr, hmem.push k (by simpa using hown) hgrow⟩
                       case measure => simp [intOf]; omega)
                    | (go_roundw
                       case rel =>
                         have e0 := H0.out
                         have hr : Plain.Inv n K X (k + 1) [] ch := by subst e0; exact hinv.root_leaf HN.out (by intro h; simp [h] at t1) (by intro h; simp [h] at t2)
                         exact ⟨k + 1, [], ch, by omega, by go_num, rfl, hr, hmem⟩
                       case measure => simp [intOf]; omega)
                · have t7 : ((k : Int) != 0) = true := by simp; omega
                  go_wp2
                  go_ret2
                  exact ShapePost.no _ hmem.bel
              | cons s rest =>
                have hs := hinv.top_lt
                have htop := hmem.top
                have hks : wr.cell? ⟨b0, o0 + s, none⟩ = some (.int .u8 (K s)) := (hmem.bel.cell (p := ⟨b0, o0 + s, none⟩) hb0).trans (hk s (by omega))
                have hxs : wr.cell? ⟨b1, o1 + s, none⟩ = some (.int .u32 (X s)) := (hmem.bel.cell (p := ⟨b1, o1 + s, none⟩) hb1).trans (hx s (by omega))
                have hKs := hK s
                have hXs := hX s
                have hcs : wr.cell? ⟨w.heap.size, s, none⟩ = some (.int .i64 (ch s)) := hmem.row.cell (by omega)
                have hfs : wr.frozen? ⟨w.heap.size, s, none⟩ = false := hmem.row.frozen s
                have hch := hinv.small s
                have hl := hinv.len
                simp only [List.length_cons] at hl
                by_cases hpop : X s ≤ k
                · by_cases hodd : K s = 6 ∧ ch s % 2 = 1
                  · obtain ⟨hk6, ho⟩ := hodd
                    have t3 : (((K s : Nat) : Int) == 6) = true := by simp; omega
                    have t4 : (((ch s : Nat) : Int) % 2 != 0) = true := by simp; omega
                    clear hk6 ho
                    go_wp2
                    go_ret2
                    exact ShapePost.no _ hmem.bel
                  · have hinv2 := hinv.pop hpop (fun h => by omega)
                    have HT : (((K s : Nat) : Int) == 6) = false ∨ ((((K s : Nat) : Int) == 6) = true ∧ (((ch s : Nat) : Int) % 2 != 0) = false) := by
                      by_cases h : K s = 6
                      · exact .inr ⟨by simp; omega, by simp; omega⟩
                      · exact .inl (by simp; omega)
                    clear hodd
                    rcases HT with t3 | ⟨t3, t4⟩
                    all_goals
                      go_wp2
                      go_round
                      case rel => first | exact ⟨rest, rfl, hinv2, hmem.pop⟩ | exact ⟨_, _, _, ⟨rest, rfl, hinv2, hmem.pop⟩, rfl, rfl, rfl⟩
                      case measure => simp [lenOf]
                · by_cases hbig : X s < X k
                  · go_wp2
                    go_ret2
                    exact ShapePost.no _ hmem.bel
                  · by_cases hodd : K s = 6 ∧ ch s % 2 = 0 ∧ K k ≠ 4
                    · obtain ⟨hk6, ho, hk4⟩ := hodd
                      have t3 : (((K s : Nat) : Int) == 6) = true := by simp; omega
                      have t4 : (((ch s : Nat) : Int) % 2 == 0) = true := by simp; omega
                      have t5 : (((K k : Nat) : Int) != 4) = true := by simp; omega
                      clear hk6 ho hk4
                      go_wp2
                      go_ret2
                      exact ShapePost.no _ hmem.bel
                    · have HO : Hid (¬ (K s = 6 ∧ ch s % 2 = 0 ∧ K k ≠ 4)) := hodd
                      have hmb := hmem.bump s
                      have HT : (((K s : Nat) : Int) == 6) = false ∨ ((((K s : Nat) : Int) == 6) = true ∧ (((ch s : Nat) : Int) % 2 == 0) = false) ∨ ((((K s : Nat) : Int) == 6) = true ∧ (((ch s : Nat) : Int) % 2 == 0) = true ∧ (((K k : Nat) : Int) != 4) = false) := by
                        by_cases h : K s = 6
                        · by_cases h' : ch s % 2 = 0
                          · exact .inr (.inr ⟨by simp; omega, by simp; omega, by simp; omega⟩)
                          · exact .inr (.inl ⟨by simp; omega, by simp; omega⟩)
                        · exact .inl (by simp; omega)
                      clear hodd
                      rcases HT with t3 | ⟨t3, t4⟩ | ⟨t3, t4, t5⟩
                      all_goals
                        go_wp2_with (at_builtin; go_must (refine wpList_append_fits _ rfl _ _ 26 rfl (w.heap.size + 1) 3 i0 1 Try.underlying26 hi hz1 (w.heap.size + 1) (rest.length + 1) n _ rfl (hmb.own.alloc _) ⟨wr.heap.size, 0, none⟩ 1 1 [.int .i64 k] rfl rfl (cell_one_at _ _ (by simp)) (by intro u hu; simp at hu; subst hu; rfl) (by omega) ?_))
                        first
                          | (intro w1 hown hgrow
                             go_wp2
                             go_roundw
                             case rel => exact ⟨k + 1, k :: s :: rest, Plain.bump ch s, by omega, by go_num, rfl, hinv.push (by omega) HN.out (fun h h' => by have := HO.out; omega), hmb.push k (by simpa using hown) hgrow⟩
                             case measure => simp [intOf]; omega)
                          | (go_roundw
                             case rel => exact ⟨k + 1, s :: rest, Plain.bump ch s, by omega, by go_num, rfl, hinv.leaf (by omega) HN.out (fun h h' => by have := HO.out; omega) (by intro h; simp [h] at t1) (by intro h; simp [h] at t2), hmb⟩
                             case measure => simp [intOf]; omega)
        · have HT : X k ≤ k ∨ n < X k ∨ K k < 1 ∨ 6 < K k ∨ ((((K k : Nat) : Int) == 5) = false ∧ (((K k : Nat) : Int) == 6) = false ∧ (((X k : Nat) : Int) != (k : Int) + 1) = true) := by
            by_cases h1 : X k ≤ k
            · exact .inl h1
            by_cases h2 : n < X k
            · exact .inr (.inl h2)
            by_cases h3 : K k < 1
            · exact .inr (.inr (.inl h3))
            by_cases h4 : 6 < K k
            · exact .inr (.inr (.inr (.inl h4)))
            by_cases h5 : K k = 5
            · exact absurd ⟨by omega, by omega, by omega, by omega, fun h => absurd h5 h⟩ hN
            by_cases h6 : K k = 6
            · exact absurd ⟨by omega, by omega, by omega, by omega, fun _ h => absurd h6 h⟩ hN
            by_cases h7 : X k = k + 1
            · exact absurd ⟨by omega, by omega, by omega, by omega, fun _ _ => h7⟩ hN
            exact .inr (.inr (.inr (.inr ⟨by simp; omega, by simp; omega, by simp; omega⟩)))
          clear hN
          rcases HT with t1 | t1 | t1 | t1 | ⟨t1, t2, t3⟩
          all_goals
            go_wp2
          all_goals (go_ret2; exact ShapePost.no _ hmem.bel)
      · obtain rfl : k = n := by omega
        go_wp2
        go_loop [8] (fun s => ∃ st : List Nat, s = .slice (some ⟨w.heap.size + 1, 0, none⟩) st.length k ∧ Plain.Inv k K X k st ch ∧ Mem w.heap.size k w st ch wr) (fun s => lenOf s)
        case atStart => exact ⟨st, rfl, hinv, hmem⟩
        case round =>
          clear hinv hmem
          obtain ⟨st, rfl, hinv, hmem⟩ := hrel
          cases st with
          | nil =>
            go_wp2
            go_ret2
            exact ShapePost.yes _ hmem.bel (hinv.shape hn HR.out)
          | cons s rest =>
            have hs := hinv.top_lt
            have htop := hmem.top
            have hks : wr.cell? ⟨b0, o0 + s, none⟩ = some (.int .u8 (K s)) := (hmem.bel.cell (p := ⟨b0, o0 + s, none⟩) hb0).trans (hk s (by omega))
            have hKs := hK s
            have hcs : wr.cell? ⟨w.heap.size, s, none⟩ = some (.int .i64 (ch s)) := hmem.row.cell (by omega)
            have hch := hinv.small s
            have hl := hinv.len
            simp only [List.length_cons] at hl
            by_cases hodd : K s = 6 ∧ ch s % 2 = 1
            · obtain ⟨hk6, ho⟩ := hodd
              have t3 : (((K s : Nat) : Int) == 6) = true := by simp; omega
              have t4 : (((ch s : Nat) : Int) % 2 != 0) = true := by simp; omega
              clear hk6 ho
              go_wp2
              go_ret2
              exact ShapePost.no _ hmem.bel
            · have hinv2 := hinv.pop hinv.last (fun h => by omega)
              have HT : (((K s : Nat) : Int) == 6) = false ∨ ((((K s : Nat) : Int) == 6) = true ∧ (((ch s : Nat) : Int) % 2 != 0) = false) := by
                by_cases h : K s = 6
                · exact .inr ⟨by simp; omega, by simp; omega⟩
                · exact .inl (by simp; omega)
              clear hodd
              rcases HT with t3 | ⟨t3, t4⟩
              all_goals
                go_wp2
                go_round
                case rel => first | exact ⟨rest, rfl, hinv2, hmem.pop⟩ | exact ⟨_, _, _, ⟨rest, rfl, hinv2, hmem.pop⟩, rfl, rfl, rfl⟩
                case measure => simp [lenOf]
  · have hb : (((X 0 : Nat) : Int) != (n : Int)) = true := by simp; omega
    go_enter Try.func7, Try.ntmps7
    go_wp2
    go_ret2
    exact ShapePost.no _ (Below.refl _ _)

set_option maxRecDepth 100000 in
/-- The lengths do not fit: no shape. -/
theorem shape_short (a0 : Option Addr) (len0 c0 : Nat) (a1 : Option Addr) (len1 c1 : Nat) (h : len0 = 0 ∨ len1 ≠ len0) (h0 : len0 ≤ 65536) (w : World) :
    Calls Try.prog 7 #[.slice a0 len0 c0, .slice a1 len1 c1] w fun e w' => e = .returned (.tuple #[.slice none 0 0, .bool false]) ∧ w' = w := by
  by_cases hz : len0 = 0
  · have t1 : ((len0 : Int) == 0) = true := by simp; omega
    clear h hz
    go_enter Try.func7, Try.ntmps7
    go_wp2
    go_ret2
    exact ⟨rfl, rfl⟩
  · have t1 : ((len0 : Int) == 0) = false := by simp; omega
    have t2 : ((len1 : Int) != (len0 : Int)) = true := by simp; omega
    clear h
    go_enter Try.func7, Try.ntmps7
    go_wp2
    go_ret2
    exact ⟨rfl, rfl⟩
end Go.Proofs.Qxb6603622a
