import Derived.Test.Qxb6603638aRank
import Derived.WalkKit
import Derived.WalkSmall
import Derived.WalkSpells
import Derived.Deep.RegionHeld
namespace Go.Proofs.Qxb6603638a
open Go.RowKit
set_option linter.unusedSimpArgs false

theorem Try.info55 : (Try.prog.info? 55).map (fun i => (i.zero, i.size, i.bytes)) = some (some (.agg #[.int .u8 0, .int .u8 0, .int .u8 0, .int .u8 0, .int .u8 0, .int .u8 0, .int .u8 0, .int .u8 0, .int .u8 0, .int .u8 0, .int .u8 0, .int .u8 0, .int .u8 0, .int .u8 0, .int .u8 0, .int .u8 0, .int .u8 0, .int .u8 0, .int .u8 0, .int .u8 0, .int .i64 0, .int .i64 0, .bool false]), 23, 48) := by kernel_rfl
theorem Try.info58 : (Try.prog.info? 58).map (fun i => (i.zero, i.size, i.bytes)) = some (some (.agg #[.int .u8 0, .int .u8 0, .int .u8 0, .int .u8 0, .int .u8 0, .int .u8 0, .int .u8 0, .int .u8 0, .int .u8 0, .int .u8 0, .int .u8 0, .int .u8 0, .int .u8 0, .int .u8 0, .int .u8 0, .int .u8 0, .int .u8 0, .int .u8 0, .int .u8 0, .int .u8 0, .int .i64 0, .int .i64 0, .bool false]), 23, 48) := by kernel_rfl
theorem Try.size58 : (Try.prog.info? 58).map (·.size) = some 23 := by kernel_rfl

section
variable {P : Program} {ops : Array Oper} {Q : Exit → Act → World → Prop} {md : Region.Mode} {S : World → Prop}

/-- 'wpAnyH_take', the slot that is written named. -/
theorem takeD {i d : Nat} {oi : Oper} {v : Value} {fuel : Nat} {listed : Array Bool} {a : Act} {w : World} (hi : ops[i]? = some oi) (hd : oi.dst = some d)
    (hs : Region.noSelect ops = true) (hf : Region.free md ops listed i = true) (hr : (Region.ready md ops listed).contains i = true)
    (hQ : ∀ c a w, Q (.panic c) (a.put (some d) v) w → Q (.panic c) a w) (hy : YieldsIf P ops S oi v a) (hS : S w)
    (h : wpAnyH P md ops Q S fuel (listed.setIfInBounds i true) (a.put (some d) v) w) : wpAnyH P md ops Q S (fuel + 1) listed a w := by
  rw [← hd] at hQ h
  exact wpAnyH_take hi hs hf hr hQ hy hS h

/-- A load of many cells comes up. -/
theorem wpOp_load {i d : Nat} {o : Oper} {a : Act} {w : World} {K : Act → World → Prop} {ty : TypeId} {x : Operand} (ho : ops[i]? = some o) (hop : o.op = .load ty x) (hd : o.dst = some d)
    (hw : Region.wanted o (yielded ops a.tmps) = true) {b off : Nat} (hx : a.eval x = .pointer (some ⟨b, off, none⟩)) {cs : List Value} {e : TypeDesc} (hc : w.rangeAt b off cs)
    (hu : P.underlying ty = some e) (he : e.isRow = true) (hi : (P.info? ty).map (·.size) = some cs.length) (h : K (a.put (some d) (.agg cs.toArray)) w) : wpOp P ops Q i K a w := by
  unfold wpOp
  simp only [ho, hw, if_true]
  rw [← hd] at h
  exact .inl (wp_load_mid ty x hop b off hx cs e hc hu he hi h)

/-- A store of many cells comes up. -/
theorem wpOp_store {i : Nat} {o : Oper} {a : Act} {w : World} {K : Act → World → Prop} {ty : TypeId} {x y : Operand} (ho : ops[i]? = some o) (hop : o.op = .store ty x y) (hd : o.dst = none)
    (hw : Region.wanted o (yielded ops a.tmps) = true) {b off : Nat} {cells : Array Value} (hx : a.eval x = .pointer (some ⟨b, off, none⟩)) (hy : a.eval y = .agg cells)
    (ht : w.there b off cells.size) (hi : (P.info? ty).map (·.size) = some cells.size) (h1 : cells.all (·.oneCell') = true) (h : K (a.put none undef) (w.setCells b off cells.toList)) : wpOp P ops Q i K a w := by
  unfold wpOp
  simp only [ho, hw, if_true]
  rw [← hd] at h
  exact .inl (wp_store_mid ty x y hop b off cells hx hy ht hi h1 h)

theorem all_one {p : Nat → Prop} {x : Nat} (h : p x) : ∀ i ∈ [x], p i := fun i hi => by
  simp at hi; subst hi; exact h
theorem all_two {p : Nat → Prop} {x y : Nat} (h : p x) (h' : p y) : ∀ i ∈ [x, y], p i := fun i hi => by
  simp at hi; rcases hi with rfl | rfl
  · exact h
  · exact h'
end

/-- Two equal ranks compared, in whatever world. -/
theorem yieldsIf_neq {ops : Array Oper} {S : World → Prop} {o : Oper} {a : Act} (hw : Region.wanted o (yielded ops a.tmps) = true) (x y : Operand) (ho : o.op = .binOp .neq 55 x y 55) {V : List Value} (hV : Good V)
    (hx : a.eval x = .agg V.toArray) (hy : a.eval y = .agg V.toArray) : YieldsIf Try.prog ops S o (.bool false) a :=
  .inl ⟨hw, fun w _ => by
    unfold execOp
    simp only [ho, hx, hy, Sem.run_bind, Sem.run_pure, Result.andThen_ok, run_eqGuard_agg w .neq 55 x y V.toArray V.toArray (P := Try.prog) (by kernel_rfl), hV.neq w]⟩

theorem wrap_in {z : Int} (h : -9223372036854775808 ≤ z ∧ z ≤ 9223372036854775807) : IntKind.i64.wrap z = z := by
  rw [IntKind.wrap_i64]; omega

set_option maxRecDepth 100000 in
set_option maxHeartbeats 1000000 in
theorem swap_any (g n i j : Nat) (hi : i < n) (hj : j < n) (A B : List Value) (hA : A.length = 23) (hB : B.length = 23) (oA : ∀ v ∈ A, v.oneCell' = true) (oB : ∀ v ∈ B, v.oneCell' = true) (w : World)
    (rA : w.rangeAt g (i * 23) A) (rB : w.rangeAt g (j * 23) B) (tA : w.there g (i * 23) 23) (tB : w.there g (j * 23) 23) :
    Calls Try.prog 19 #[.slice (some ⟨g, 0, none⟩) n n, .int .i64 i, .int .i64 j] w fun e w' => e = .returned (.tuple #[]) ∧ w' = (w.drew.setCells g (i * 23) B).setCells g (j * 23) A := by
  have hii : (i : Int) < (n : Int) := by omega
  have hji : (j : Int) < (n : Int) := by omega
  go_enter Try.func19, Try.ntmps19
  refine wp_region_held_drew (S := fun _ => True) (by kernel_rfl) trivial (fun _ => ?_)
  refine takeD (i := 0) (d := 6) (v := .slice (some ⟨g, 0, none⟩) n n) rfl rfl (by kernel_rfl) (by kernel_rfl) (by kernel_rfl) (fun _ _ _ h => h) (Or.inl ⟨by rfl, fun w _ => by go_simp⟩) trivial ?_
  simp only [Act.put, List.setIfInBounds_toArray, List.set_cons_zero, List.set_cons_succ]
  refine takeD (i := 1) (d := 7) (v := .int .i64 i) rfl rfl (by kernel_rfl) (by kernel_rfl) (by kernel_rfl) (fun _ _ _ h => h) (Or.inl ⟨by rfl, fun w _ => by go_simp⟩) trivial ?_
  simp only [Act.put, List.setIfInBounds_toArray, List.set_cons_zero, List.set_cons_succ]
  refine takeD (i := 2) (d := 8) (v := .slice (some ⟨g, 0, none⟩) n n) rfl rfl (by kernel_rfl) (by kernel_rfl) (by kernel_rfl) (fun _ _ _ h => h) (Or.inl ⟨by rfl, fun w _ => by go_simp⟩) trivial ?_
  simp only [Act.put, List.setIfInBounds_toArray, List.set_cons_zero, List.set_cons_succ]
  refine takeD (i := 3) (d := 9) (v := .int .i64 j) rfl rfl (by kernel_rfl) (by kernel_rfl) (by kernel_rfl) (fun _ _ _ h => h) (Or.inl ⟨by rfl, fun w _ => by go_simp⟩) trivial ?_
  simp only [Act.put, List.setIfInBounds_toArray, List.set_cons_zero, List.set_cons_succ]
  refine takeD (i := 4) (d := 10) (v := .slice (some ⟨g, 0, none⟩) n n) rfl rfl (by kernel_rfl) (by kernel_rfl) (by kernel_rfl) (fun _ _ _ h => h) (Or.inl ⟨by rfl, fun w _ => by go_simp⟩) trivial ?_
  simp only [Act.put, List.setIfInBounds_toArray, List.set_cons_zero, List.set_cons_succ]
  refine takeD (i := 5) (d := 11) (v := .int .i64 j) rfl rfl (by kernel_rfl) (by kernel_rfl) (by kernel_rfl) (fun _ _ _ h => h) (Or.inl ⟨by rfl, fun w _ => by go_simp⟩) trivial ?_
  simp only [Act.put, List.setIfInBounds_toArray, List.set_cons_zero, List.set_cons_succ]
  refine takeD (i := 6) (d := 12) (v := .pointer (some ⟨g, j * 23, none⟩)) rfl rfl (by kernel_rfl) (by kernel_rfl) (by kernel_rfl) (fun _ _ _ h => h) (Or.inl ⟨by rfl, fun w _ => by go_simp⟩) trivial ?_
  simp only [Act.put, List.setIfInBounds_toArray, List.set_cons_zero, List.set_cons_succ]
  refine takeD (i := 8) (d := 14) (v := .slice (some ⟨g, 0, none⟩) n n) rfl rfl (by kernel_rfl) (by kernel_rfl) (by kernel_rfl) (fun _ _ _ h => h) (Or.inl ⟨by rfl, fun w _ => by go_simp⟩) trivial ?_
  simp only [Act.put, List.setIfInBounds_toArray, List.set_cons_zero, List.set_cons_succ]
  refine takeD (i := 9) (d := 15) (v := .int .i64 i) rfl rfl (by kernel_rfl) (by kernel_rfl) (by kernel_rfl) (fun _ _ _ h => h) (Or.inl ⟨by rfl, fun w _ => by go_simp⟩) trivial ?_
  simp only [Act.put, List.setIfInBounds_toArray, List.set_cons_zero, List.set_cons_succ]
  refine takeD (i := 10) (d := 16) (v := .pointer (some ⟨g, i * 23, none⟩)) rfl rfl (by kernel_rfl) (by kernel_rfl) (by kernel_rfl) (fun _ _ _ h => h) (Or.inl ⟨by rfl, fun w _ => by go_simp⟩) trivial ?_
  simp only [Act.put, List.setIfInBounds_toArray, List.set_cons_zero, List.set_cons_succ]
  have rA' : w.drew.rangeAt g (i * 23) A := (World.rangeAt_drew _ _ _ _).2 rA
  have rB' : w.drew.rangeAt g (j * 23) B := (World.rangeAt_drew _ _ _ _).2 rB
  have tA' : w.drew.there g (i * 23) B.toArray.size := by rw [List.size_toArray, hB]; exact (World.there_drew _ _ _ _).2 tA
  have tB' : (w.drew.setCells g (i * 23) B).there g (j * 23) A.toArray.size := by rw [List.size_toArray, hA]; exact World.there_setCells ((World.there_drew _ _ _ _).2 tB) _ _ _
  refine wpAnyH_all (rs := [7, 11]) (by kernel_rfl) (by simp) (all_two ?_ ?_)
  · refine wpOp_load (d := 13) rfl rfl rfl rfl rfl rB' Try.underlying55 rfl (by rw [hB]; exact Try.size55) ⟨trivial, ?_⟩
    simp only [Act.put, List.setIfInBounds_toArray, List.set_cons_zero, List.set_cons_succ, List.toList_toArray]
    refine wpAnyH_all (rs := [11]) (by kernel_rfl) (by simp) (all_one ?_)
    refine wpOp_load (d := 17) rfl rfl rfl rfl rfl rA' Try.underlying55 rfl (by rw [hA]; exact Try.size55) ⟨trivial, ?_⟩
    simp only [Act.put, List.setIfInBounds_toArray, List.set_cons_zero, List.set_cons_succ, List.toList_toArray]
    refine takeD (i := 12) (d := 18) (v := .pointer (some ⟨g, i * 23, none⟩)) rfl rfl (by kernel_rfl) (by kernel_rfl) (by kernel_rfl) (fun _ _ _ h => h) (Or.inl ⟨by rfl, fun w _ => by go_simp⟩) trivial ?_
    simp only [Act.put, List.setIfInBounds_toArray, List.set_cons_zero, List.set_cons_succ]
    refine wpAnyH_all (rs := [13]) (by kernel_rfl) (by simp) (all_one ?_)
    refine wpOp_store rfl rfl rfl rfl rfl rfl tA' (by rw [List.size_toArray, hB]; exact Try.size55) (all_oneCell_toArray oB) ⟨trivial, ?_⟩
    simp only [Act.put, List.setIfInBounds_toArray, List.set_cons_zero, List.set_cons_succ, List.toList_toArray]
    refine takeD (i := 14) (d := 19) (v := .pointer (some ⟨g, j * 23, none⟩)) rfl rfl (by kernel_rfl) (by kernel_rfl) (by kernel_rfl) (fun _ _ _ h => h) (Or.inl ⟨by rfl, fun w _ => by go_simp⟩) trivial ?_
    simp only [Act.put, List.setIfInBounds_toArray, List.set_cons_zero, List.set_cons_succ]
    refine wpAnyH_all (rs := [15]) (by kernel_rfl) (by simp) (all_one ?_)
    refine wpOp_store rfl rfl rfl rfl rfl rfl tB' (by rw [List.size_toArray, hA]; exact Try.size55) (all_oneCell_toArray oA) ⟨trivial, ?_⟩
    simp only [Act.put, List.setIfInBounds_toArray, List.set_cons_zero, List.set_cons_succ, List.toList_toArray]
    refine wpAnyH_done (by kernel_rfl) ?_ _
    go_end0
    exact ⟨rfl, rfl⟩
  · refine wpOp_load (d := 17) rfl rfl rfl rfl rfl rA' Try.underlying55 rfl (by rw [hA]; exact Try.size55) ⟨trivial, ?_⟩
    simp only [Act.put, List.setIfInBounds_toArray, List.set_cons_zero, List.set_cons_succ, List.toList_toArray]
    refine wpAnyH_all (rs := [7]) (by kernel_rfl) (by simp) (all_one ?_)
    refine wpOp_load (d := 13) rfl rfl rfl rfl rfl rB' Try.underlying55 rfl (by rw [hB]; exact Try.size55) ⟨trivial, ?_⟩
    simp only [Act.put, List.setIfInBounds_toArray, List.set_cons_zero, List.set_cons_succ, List.toList_toArray]
    refine takeD (i := 12) (d := 18) (v := .pointer (some ⟨g, i * 23, none⟩)) rfl rfl (by kernel_rfl) (by kernel_rfl) (by kernel_rfl) (fun _ _ _ h => h) (Or.inl ⟨by rfl, fun w _ => by go_simp⟩) trivial ?_
    simp only [Act.put, List.setIfInBounds_toArray, List.set_cons_zero, List.set_cons_succ]
    refine wpAnyH_all (rs := [13]) (by kernel_rfl) (by simp) (all_one ?_)
    refine wpOp_store rfl rfl rfl rfl rfl rfl tA' (by rw [List.size_toArray, hB]; exact Try.size55) (all_oneCell_toArray oB) ⟨trivial, ?_⟩
    simp only [Act.put, List.setIfInBounds_toArray, List.set_cons_zero, List.set_cons_succ, List.toList_toArray]
    refine takeD (i := 14) (d := 19) (v := .pointer (some ⟨g, j * 23, none⟩)) rfl rfl (by kernel_rfl) (by kernel_rfl) (by kernel_rfl) (fun _ _ _ h => h) (Or.inl ⟨by rfl, fun w _ => by go_simp⟩) trivial ?_
    simp only [Act.put, List.setIfInBounds_toArray, List.set_cons_zero, List.set_cons_succ]
    refine wpAnyH_all (rs := [15]) (by kernel_rfl) (by simp) (all_one ?_)
    refine wpOp_store rfl rfl rfl rfl rfl rfl tB' (by rw [List.size_toArray, hA]; exact Try.size55) (all_oneCell_toArray oA) ⟨trivial, ?_⟩
    simp only [Act.put, List.setIfInBounds_toArray, List.set_cons_zero, List.set_cons_succ, List.toList_toArray]
    refine wpAnyH_done (by kernel_rfl) ?_ _
    go_end0
    exact ⟨rfl, rfl⟩
end Go.Proofs.Qxb6603638a
