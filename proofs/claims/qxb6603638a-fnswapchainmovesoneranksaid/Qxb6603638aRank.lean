import Derived.Test.Qxb6603638aProg
import Derived.Test.Qxb6603638aMem
import Derived.WalkKit
import Derived.WalkSmall
import Derived.WalkSpells
import Derived.DeepKeys
import Derived.MapViews
namespace Go.Proofs.Qxb6603638a
open Go.RowKit

theorem Try.cells58 : Try.prog.cellsOf 58 = 23 := by kernel_rfl
theorem Try.cells55 : Try.prog.cellsOf 55 = 23 := by kernel_rfl
theorem Try.cells23 : Try.prog.cellsOf 23 = 20 := by kernel_rfl
theorem Try.cells53 : Try.prog.cellsOf 53 = 20 := by kernel_rfl
theorem Try.cells5 : Try.prog.cellsOf 5 = 1 := by kernel_rfl
theorem Try.cells3 : Try.prog.cellsOf 3 = 1 := by kernel_rfl
theorem Try.cells4 : Try.prog.cellsOf 4 = 1 := by kernel_rfl

/-- 23 cells that read as a rank. -/
def Good (V : List Value) : Prop := ∃ l, Try.prog.keyLits 4 58 V = some l

theorem key_same (V : List Value) : Try.prog.keyLits 4 55 V = Try.prog.keyLits 4 58 V := by
  simp [Program.keyLits, Try.underlying55, Try.underlying58, Try.underlying53, Try.underlying23, Try.cells55, Try.cells58, Try.cells53, Try.cells23]

theorem Good.len {V : List Value} (h : Good V) : V.length = 23 := by
  obtain ⟨l, h⟩ := h
  unfold Program.keyLits at h
  simp only [Try.underlying58, Try.cells58] at h
  split at h
  · next e => exact e.1
  · cases h

theorem mapM_some {α β : Type} {f : α → Option β} : ∀ {xs : List α} {ys : List β}, xs.mapM f = some ys → ∀ x ∈ xs, ∃ y, f x = some y
  | [], _, _, _, h => by simp at h
  | x :: xs, ys, e, z, h => by
    rw [List.mapM_cons] at e
    simp only [bind, Option.bind_eq_some_iff, pure, Option.some.injEq] at e
    obtain ⟨y, hy, ys', hys, _⟩ := e
    rcases List.mem_cons.1 h with rfl | h
    · exact ⟨y, hy⟩
    · exact mapM_some hys z h

theorem key_int {t : TypeId} {q : IntKind} (ht : Try.prog.underlying t = some (.int q)) {d : Nat} {cs : List Value} {l : List Lit} (h : Try.prog.keyLits (d + 1) t cs = some l) : ∃ n, cs = [.int q n] := by
  unfold Program.keyLits at h
  simp only [ht] at h
  split at h
  · cases ‹some (TypeDesc.int q) = some .bool›
  · next e => cases e; split at h
              · next e => exact ⟨_, by rw [e.1]⟩
              · cases h
  all_goals first | (cases ‹some (TypeDesc.int q) = _›; done) | cases h

theorem key_bool {t : TypeId} (ht : Try.prog.underlying t = some .bool) {d : Nat} {cs : List Value} {l : List Lit} (h : Try.prog.keyLits (d + 1) t cs = some l) : ∃ b, cs = [.bool b] := by
  unfold Program.keyLits at h
  simp only [ht] at h
  split at h
  · exact ⟨_, rfl⟩
  all_goals first | (cases ‹some TypeDesc.bool = _›; done) | cases h

/-- The cell at each place. -/
theorem Good.cell {V : List Value} (h : Good V) : (∀ i, i < 20 → ∃ n, V[i]? = some (.int .u8 n)) ∧ (∃ n, V[20]? = some (.int .i64 n)) ∧ (∃ n, V[21]? = some (.int .i64 n)) ∧ ∃ b, V[22]? = some (.bool b) := by
  have hl := h.len
  obtain ⟨l, h⟩ := h
  unfold Program.keyLits at h
  simp only [Try.underlying58] at h
  split at h
  · simp only [Option.map_eq_some_iff] at h
    obtain ⟨ls, hls, _⟩ := h
    have hf := mapM_some hls
    simp only [List.mem_cons, List.not_mem_nil, or_false, forall_eq_or_imp, forall_eq] at hf
    obtain ⟨⟨l0, h0⟩, ⟨l1, h1⟩, ⟨l2, h2⟩, ⟨l3, h3⟩⟩ := hf
    refine ⟨fun i hi => ?_, ?_, ?_, ?_⟩
    · unfold Program.keyLits at h0
      simp only [Try.underlying23] at h0
      split at h0
      · simp only [Option.map_eq_some_iff] at h0
        obtain ⟨ks, has, _⟩ := h0
        obtain ⟨y, hy⟩ := mapM_some has i (by simpa using hi)
        rw [Try.cells5, Try.cells23] at hy
        obtain ⟨n, e⟩ := key_int Try.underlying5 hy
        have := congrArg (fun c : List Value => c[0]?) e
        simp [List.getElem?_drop, hi] at this
        exact ⟨n, this⟩
      · cases h0
    · rw [Try.cells3] at h1
      obtain ⟨n, e⟩ := key_int Try.underlying3 h1
      have := congrArg (fun c : List Value => c[0]?) e
      simp [List.getElem?_drop] at this
      exact ⟨n, this⟩
    · rw [Try.cells3] at h2
      obtain ⟨n, e⟩ := key_int Try.underlying3 h2
      have := congrArg (fun c : List Value => c[0]?) e
      simp [List.getElem?_drop] at this
      exact ⟨n, this⟩
    · rw [Try.cells4] at h3
      obtain ⟨n, e⟩ := key_bool Try.underlying4 h3
      have := congrArg (fun c : List Value => c[0]?) e
      simp [List.getElem?_drop] at this
      exact ⟨n, this⟩
  · cases h

theorem Good.one {V : List Value} (h : Good V) : ∀ v ∈ V, v.oneCell' = true := by
  intro v hv
  obtain ⟨i, hi, rfl⟩ := List.mem_iff_getElem.1 hv
  have hl := h.len
  obtain ⟨h0, ⟨n1, h1⟩, ⟨n2, h2⟩, ⟨n3, h3⟩⟩ := h.cell
  have key : ∀ u, V[i]? = some u → u.oneCell' = true → (V[i]).oneCell' = true := fun u e hu => by
    rw [List.getElem?_eq_getElem hi] at e
    cases e; exact hu
  by_cases c0 : i < 20
  · obtain ⟨n, e⟩ := h0 i c0; exact key _ e rfl
  by_cases c1 : i = 20
  · subst c1; exact key _ h1 rfl
  by_cases c2 : i = 21
  · subst c2; exact key _ h2 rfl
  have c3 : i = 22 := by omega
  subst c3; exact key _ h3 rfl

/-- TWO EQUAL RANKS ARE NOT UNEQUAL. -/
theorem Good.neq {V : List Value} (h : Good V) (w : World) : (binOp .neq 55 (.agg V.toArray) (.agg V.toArray)).run Try.prog w = .ok (.bool false) w := by
  have hl := h.len
  obtain ⟨l, h⟩ := h
  rw [← key_same] at h
  have hf : (Value.agg V.toArray).formed Try.prog 55 = true := by simp [Value.formed, Try.underlying55, Try.cells55, hl]
  obtain ⟨r, hr, hiff⟩ := run_equalIn_deep (P := Try.prog) 9996 4 55 (by kernel_rfl) w 4 4 (.agg V.toArray) (.agg V.toArray) l l hf hf (by simpa [Value.cells] using h) (by simpa [Value.cells] using h)
  have hr' : r = true := hiff.2 rfl
  subst hr'
  rw [run_neq_struct, hr]
  rfl

/-- A rank built of its four parts. -/
theorem run_build_rank (D : List Value) (hD : D.length = 20) (x y : Int) (z : Bool) (w : World) :
    (Instr.build 55 #[(0, .agg D.toArray), (1, .int .i64 x), (2, .int .i64 y), (3, .bool z)]).run Try.prog w = .ok (.agg (D ++ [Value.int .i64 x, Value.int .i64 y, Value.bool z]).toArray) w := by
  obtain ⟨d0, d1, d2, d3, d4, d5, d6, d7, d8, d9, d10, d11, d12, d13, d14, d15, d16, d17, d18, d19, rfl⟩ : ∃ d0 d1 d2 d3 d4 d5 d6 d7 d8 d9 d10 d11 d12 d13 d14 d15 d16 d17 d18 d19, D = [d0, d1, d2, d3, d4, d5, d6, d7, d8, d9, d10, d11, d12, d13, d14, d15, d16, d17, d18, d19] := by
    match D, hD with
    | [d0, d1, d2, d3, d4, d5, d6, d7, d8, d9, d10, d11, d12, d13, d14, d15, d16, d17, d18, d19], _ => exact ⟨d0, d1, d2, d3, d4, d5, d6, d7, d8, d9, d10, d11, d12, d13, d14, d15, d16, d17, d18, d19, rfl⟩
  kernel_rfl

/-- 'build' at the list of a region's operations. -/
theorem wpList_build {P : Program} {ops : Array Oper} {rest : List Oper} {o : Oper} {a : Act} {w : World} {Q : Exit → Act → World → Prop} (hgd : o.guard = none) (ty : TypeId) (parts : Array (Nat × Operand)) (ho : o.op = .build ty parts)
    (vs : Array (Nat × Value)) (hvs : (parts.map fun (i, x) => (i, a.eval x)) = vs) (v : Value) (hr : ∀ w, (Instr.build ty vs).run P w = .ok v w)
    (h : wpList P ops Q rest (a.put o.dst v) w) : wpList P ops Q (o :: rest) a w := by
  refine wpList_plain hgd fun K hK => ?_
  unfold Oper.wp execOp
  subst hvs
  simp only [ho, hr, Sem.run_bind, Sem.run_pure, Result.andThen_ok]
  exact hK _ _ h

theorem Try.size53 : (Try.prog.info? 53).map (·.size) = some 20 := by kernel_rfl
theorem Try.size23 : (Try.prog.info? 23).map (·.size) = some 20 := by kernel_rfl
theorem Try.size55 : (Try.prog.info? 55).map (·.size) = some 23 := by kernel_rfl

theorem range_new (w : World) (D : List Value) (t : TypeId) : (w.alloc (.cells D.toArray t)).rangeAt w.heap.size 0 D := fun j v hv => by
  rw [cell_of_row _ _ _ D.toArray t (0, 0) (heap_alloc_new w _)]
  simpa using hv
theorem there_new {w : World} {N : Nat} (C : Array Value) (t : TypeId) (n : Nat) (hn : n = C.size) (hN : N = w.heap.size) : (w.alloc (.cells C t)).there N 0 n := fun j hj => by
  subst hn hN
  have hb := heap_alloc_new w (.cells C t)
  refine ⟨?_, frozen_of_row _ _ _ C t hb⟩
  rw [cell_of_row _ _ _ C t (0, 0) hb, Array.getElem?_eq_getElem (by simpa using hj)]
  rfl
theorem one_append {D : List Value} (oD : ∀ v ∈ D, v.oneCell' = true) {x y : Int} {z : Bool} : (D ++ [Value.int .i64 x, Value.int .i64 y, Value.bool z]).toArray.all (·.oneCell') = true :=
  all_oneCell_toArray (fun v hv => by
    rcases List.mem_append.1 hv with h | h
    · exact oD v h
    · simp only [List.mem_cons, List.not_mem_nil, or_false] at h
      rcases h with rfl | rfl | rfl <;> rfl)

theorem there_below {w w' : World} {B b o n : Nat} (h : w.there b o n) (hb : Below B w w') (hlt : b < B) : w'.there b o n := fun j hj => by
  rw [hb.cell (p := ⟨b, _, none⟩) hlt, hb.frozen (p := ⟨b, _, none⟩) hlt]; exact h j hj

theorem results_cell_mid {P : Program} {fn : Func} {p : Tmp} {ty : TypeId} (h : fn.results = #[.cell p ty]) (tmps : Array Value) (w : World) (g o : Nat) (cs : List Value) (d : TypeDesc)
    (hp : tmps.getD p undef = .pointer (some ⟨g, o, none⟩)) (hc : w.rangeAt g o cs) (hu : P.underlying ty = some d) (hd : d.isRow = true) (hi : (P.info? ty).map (·.size) = some cs.length) :
    (results fn tmps).run P w = .ok (.agg cs.toArray) w := by
  have hp' : tmps[p]?.getD undef = .pointer (some ⟨g, o, none⟩) := by simpa using hp
  simp [results, h, hp', asAddr, run_loadVar_mid w g o ty cs d hc hu hd hi]

set_option maxRecDepth 100000 in
set_option maxHeartbeats 1000000 in
theorem newRank_any (D : List Value) (hD : D.length = 20) (oD : ∀ v ∈ D, v.oneCell' = true) (x y : Int) (z : Bool) (w : World) :
    Calls Try.prog 20 #[.agg D.toArray, .int .i64 x, .int .i64 y, .bool z] w
      fun e w' => e = .returned (.agg (D ++ [Value.int .i64 x, Value.int .i64 y, Value.bool z]).toArray) ∧ Below w.heap.size w w' := by
  have HZ : Hid ((D ++ [Value.int .i64 x, Value.int .i64 y, Value.bool z]).toArray.size = 23) := by show _ = _; simp [hD]
  have H4 : Hid ((Try.prog.info? 55).map (·.size) = some (D ++ [Value.int .i64 x, Value.int .i64 y, Value.bool z]).toArray.size) := by rw [HZ.out]; exact Try.size55
  have H5 : Hid ((Try.prog.info? 53).map (·.size) = some D.length) := by rw [hD]; exact Try.size53
  have H6 : Hid (∀ v ∈ D, v.oneCell' = true) := oD
  have H7 : Hid (D.length = 20) := hD
  clear oD hD
  go_enter Try.func20, Try.ntmps20
  go_wp2_with (first | (refine wpList_load_mid rfl 53 (.tmp 4) rfl _ _ rfl D _ (World.rangeAt_alloc (range_new w D 53) _) Try.underlying53 rfl H5.out ?_) | (refine wpList_build rfl 55 #[(0, .tmp 9), (1, .tmp 10), (2, .tmp 11), (3, .tmp 12)] rfl #[(0, .agg D.toArray), (1, .int .i64 x), (2, .int .i64 y), (3, .bool z)] ?_ _ (run_build_rank D H7.out x y z) ?_; · simp [Act.eval]) | (refine wpList_store_mid rfl 55 (.tmp 8) (.tmp 13) rfl _ _ _ rfl rfl (there_new _ 55 _ HZ.out (World.size_alloc _ _).symm) H4.out (one_append H6.out) ?_))
  simp only [Act.put, List.setIfInBounds_toArray, List.set_cons_zero, List.set_cons_succ]
  refine bodyPost_ret (v := .agg (D ++ [Value.int .i64 x, Value.int .i64 y, Value.bool z]).toArray) (results_cell_mid rfl _ _ (w.heap.size + 1) 0 _ _ rfl (World.rangeAt_setCells_same _ _ _ _ ?_) Try.underlying55 rfl H4.out) rfl ⟨rfl, below_setCells _ (by omega) _ _ _ (((Below.refl _ w).alloc (Nat.le_refl _) _).alloc (by simp) _)⟩
  exact there_new _ 55 _ HZ.out (World.size_alloc _ _).symm

set_option maxRecDepth 100000 in
set_option maxHeartbeats 1000000 in
/-- zzRank: the same 23 cells, as a rank of the other package. -/
theorem rank_any (V : List Value) (hV : Good V) (w : World) :
    Calls Try.prog 15 #[.agg V.toArray] w fun e w' => e = .returned (.agg V.toArray) ∧ Below w.heap.size w w' := by
  have HL : Hid (V.length = 23) := hV.len
  obtain ⟨_, ⟨x, hx⟩, ⟨y, hy⟩, ⟨z, hz⟩⟩ := hV.cell
  have HE : Hid (V = V.take 20 ++ [Value.int .i64 x, Value.int .i64 y, Value.bool z]) := by
    show V = _
    have h20 : 20 < V.length := by rw [HL.out]; omega
    have h21 : 21 < V.length := by rw [HL.out]; omega
    have h22 : 22 < V.length := by rw [HL.out]; omega
    rw [List.getElem?_eq_getElem h20] at hx
    rw [List.getElem?_eq_getElem h21] at hy
    rw [List.getElem?_eq_getElem h22] at hz
    have e : V.drop 20 = [Value.int .i64 x, Value.int .i64 y, Value.bool z] := by
      rw [List.drop_eq_getElem_cons h20, List.drop_eq_getElem_cons h21, List.drop_eq_getElem_cons h22, List.drop_of_length_le (by rw [HL.out]; omega), Option.some.inj hx, Option.some.inj hy, Option.some.inj hz]
    rw [← e, List.take_append_drop]
  have H1 : Hid (∀ v ∈ V.take 20, v.oneCell' = true) := fun v hv => hV.one v (List.mem_of_mem_take hv)
  have H2 : Hid ((V.take 20).length = 20) := by show _ = _; rw [List.length_take, HL.out]; rfl
  have H3 : Hid ((Try.prog.info? 23).map (·.size) = some (V.take 20).length) := by rw [H2.out]; exact Try.size23
  have H4 : Hid ((Try.prog.info? 55).map (·.size) = some V.length) := by rw [HL.out]; exact Try.size55
  have HR : Hid ((w.alloc (.cells V.toArray 58)).rangeAt w.heap.size 0 V) := range_new w V 58
  have HO : Hid (∀ v ∈ V, v.oneCell' = true) := hV.one
  have HT : Hid (∀ W : World, W.heap.size = w.heap.size + 1 → ∀ C : Array Value, C.size = 23 → (W.alloc (.cells C 55)).there (w.heap.size + 1) 0 V.toArray.size) := fun W hW C hC => there_new C 55 _ (by rw [hC]; simpa using HL.out) hW.symm
  clear hV
  go_enter Try.func15, Try.ntmps15
  go_wp2_with (first | (refine wpList_load_mid rfl 23 (.tmp 3) rfl _ _ rfl (V.take 20) _ ?_ Try.underlying23 rfl H3.out ?_; exact World.rangeAt_alloc (fun j v hv => HR.out j v (by rw [List.getElem?_take] at hv; split at hv; exact hv; cases hv)) _) | (go_at_call 20; refine (newRank_any (V.take 20) H2.out H1.out x y z _).mono ?_; rintro e w1 ⟨rfl, hb1⟩; rw [← HE.out]; have ht1 := there_below (HT.out (w.alloc (.cells V.toArray 58)) (by simp) _ rfl) hb1 (by simp)) | (refine wpList_store_mid rfl 55 (.tmp 2) (.tmp 11) rfl _ _ _ rfl rfl ht1 H4.out (all_oneCell_toArray HO.out) ?_))
  simp only [Act.put]
  refine bodyPost_ret (v := .agg V.toArray) (results_cell_mid rfl _ _ (w.heap.size + 1) 0 V _ rfl (World.rangeAt_setCells_same _ _ _ _ ?_) Try.underlying55 rfl H4.out) rfl ⟨rfl, below_setCells _ (by omega) _ _ _ ((((Below.refl _ w).alloc (Nat.le_refl _) _).alloc (by simp) _).trans (hb1.mono (by simp; omega)))⟩
  simpa using ht1
end Go.Proofs.Qxb6603638a
