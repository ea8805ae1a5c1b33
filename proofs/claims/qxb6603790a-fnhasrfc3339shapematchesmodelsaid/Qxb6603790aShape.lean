import Derived.Test.Qxb6603790aDate
namespace Go.Proofs.Qxb6603790a
open Go.RowKit
set_option linter.unusedVariables false

/-- Six bytes that write an offset. -/
def Six (c0 c1 c2 c3 c4 c5 : Int) : Prop := (c0 = 43 ∨ c0 = 45) ∧ c3 = 58 ∧ Dig c1 ∧ Dig c2 ∧ (c1 - 48) * 10 + (c2 - 48) ≤ 23 ∧ Dig c4 ∧ c4 ≤ 53 ∧ Dig c5
/-- What begins at place z is a zone, to the end. -/
def Zone (s : ByteArray) (z : Nat) : Prop := (z + 1 = s.size ∧ (bt s z = 90 ∨ bt s z = 122)) ∨ (z + 6 = s.size ∧ Six (bt s z) (bt s (z + 1)) (bt s (z + 2)) (bt s (z + 3)) (bt s (z + 4)) (bt s (z + 5)))
/-- Between the front and place z: nothing, or a dot and digits. -/
def Mid (s : ByteArray) (z : Nat) : Prop := z = 19 ∨ (bt s 19 = 46 ∧ 21 ≤ z ∧ ∀ k, 20 ≤ k → k < z → Dig (bt s k))
def Shape (s : ByteArray) : Prop := 20 ≤ s.size ∧ Front s ∧ ∃ z, 19 ≤ z ∧ Zone s z ∧ Mid s z

/-- What both readers leave. -/
def ShapePost (s : ByteArray) (w : World) (e : Ending) (w' : World) : Prop := (∃ b, e = .returned (.bool b) ∧ (b = true ↔ Shape s)) ∧ Below w.heap.size w w'
theorem ShapePost.no {s : ByteArray} {w w' : World} (h : ¬ Shape s) (hb : Below w.heap.size w w') : ShapePost s w (.returned (.bool false)) w' := ⟨⟨false, rfl, ⟨fun q => (by cases q), fun q => absurd q h⟩⟩, hb⟩
theorem ShapePost.yes {s : ByteArray} {w w' : World} (h : Shape s) (hb : Below w.heap.size w w') : ShapePost s w (.returned (.bool true)) w' := ⟨⟨true, rfl, ⟨fun _ => h, fun _ => rfl⟩⟩, hb⟩

theorem belowDraw {a b : World} (h : Below a.heap.size a b) (n : Nat) : Below a.heap.size a (b.drewN n) := h.trans ⟨rfl, rfl, rfl, Nat.le_refl _, fun _ _ => rfl⟩

/-- A zone begins with no dot and no digit. -/
theorem Zone.first {s : ByteArray} {z : Nat} (h : Zone s z) : z < s.size ∧ ¬ Dig (bt s z) ∧ bt s z ≠ 46 := by
  unfold Zone Six Dig at h
  unfold Dig
  omega

/-- Read from the front: no dot. -/
theorem shape_plain {s : ByteArray} (h1 : 20 ≤ s.size) (hf : Front s) (hd : bt s 19 ≠ 46) : Shape s ↔ Zone s 19 := by
  constructor
  · rintro ⟨_, _, z, hz, h, rfl | ⟨q, _⟩⟩
    · exact h
    · exact absurd q hd
  · intro h
    exact ⟨h1, hf, 19, Nat.le_refl _, h, .inl rfl⟩

/-- Read from the front: a dot, and the run of digits ends at q. -/
theorem shape_dot {s : ByteArray} (h1 : 20 ≤ s.size) (hf : Front s) (hd : bt s 19 = 46) {q : Nat} (hr : Run s 20 q) : Shape s ↔ 21 ≤ q ∧ Zone s q := by
  constructor
  · rintro ⟨_, _, z, hz, h, rfl | ⟨_, hz', hdig⟩⟩
    · exact absurd hd h.first.2.2
    · obtain rfl : z = q := by
        have h0 := hr.le
        rcases Nat.lt_trichotomy z q with c | c | c
        · exact absurd (hr.dig z (by omega) c) h.first.2.1
        · exact c
        · rcases hr.stop with e | e
          · have := h.first.1
            omega
          · exact absurd (hdig q h0 c) e
      exact ⟨hz', h⟩
  · rintro ⟨hq, h⟩
    exact ⟨h1, hf, q, by omega, h, .inr ⟨hd, hq, hr.dig⟩⟩

/-- Read from the end: Z. -/
theorem shape_z {s : ByteArray} {B : Nat} (h1 : 19 ≤ B) (hs : s.size = B + 1) (hf : Front s) (hz : bt s B = 90 ∨ bt s B = 122) : Shape s ↔ Mid s B := by
  constructor
  · rintro ⟨_, _, z, hz', h, hm⟩
    obtain rfl : z = B := by
      rcases h with ⟨q, _⟩ | ⟨q, h⟩
      · omega
      · have := h.2.2.2.2.2.2.2
        unfold Dig at this
        rw [show z + 5 = B from by omega] at this
        omega
    exact hm
  · intro h
    exact ⟨by omega, hf, B, h1, .inl ⟨by omega, hz⟩, h⟩

/-- Read from the end: no Z. -/
theorem shape_six {s : ByteArray} {B : Nat} (h1 : 19 ≤ B) (hs : s.size = B + 6) (hf : Front s) (hz : bt s (B + 5) ≠ 90 ∧ bt s (B + 5) ≠ 122) :
    Shape s ↔ Six (bt s B) (bt s (B + 1)) (bt s (B + 2)) (bt s (B + 3)) (bt s (B + 4)) (bt s (B + 5)) ∧ Mid s B := by
  constructor
  · rintro ⟨_, _, z, hz', h, hm⟩
    rcases h with ⟨q, h⟩ | ⟨q, h⟩
    · rw [show z = B + 5 from by omega] at h
      omega
    · obtain rfl : z = B := by omega
      exact ⟨h, hm⟩
  · rintro ⟨h, hm⟩
    exact ⟨by omega, hf, B, h1, .inr ⟨by omega, h⟩, hm⟩

/-- Too short for an offset, and no Z. -/
theorem shape_short {s : ByteArray} {B : Nat} (hs : s.size = B + 1) (h : s.size < 25) (hz : bt s B ≠ 90 ∧ bt s B ≠ 122) : ¬ Shape s := by
  rintro ⟨_, _, z, hz', ⟨q, h⟩ | ⟨q, h⟩, hm⟩
  · rw [show z = B from by omega] at h
    omega
  · omega

theorem front_yes (s : ByteArray) (h1 : (19 : Int) ≤ (s.size : Int)) (h : Front s) (w : World) : Calls Try.prog 12 #[.string s] w fun e w' => e = .returned (.bool true) ∧ w = w' := by
  refine (front_any s h1 w).mono ?_
  rintro e w' ⟨⟨b, rfl, hb⟩, rfl⟩
  rw [hb.2 h]
  exact ⟨rfl, rfl⟩
theorem front_no (s : ByteArray) (h1 : (19 : Int) ≤ (s.size : Int)) (h : ¬ Front s) (w : World) : Calls Try.prog 12 #[.string s] w fun e w' => e = .returned (.bool false) ∧ w = w' := by
  refine (front_any s h1 w).mono ?_
  rintro e w' ⟨⟨b, rfl, hb⟩, rfl⟩
  cases b
  · exact ⟨rfl, rfl⟩
  · exact absurd (hb.1 rfl) h
end Go.Proofs.Qxb6603790a
