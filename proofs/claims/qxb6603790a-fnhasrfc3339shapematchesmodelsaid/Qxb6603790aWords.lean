import Derived.Test.Qxb6603790aShape
namespace Go.Proofs.Qxb6603790a
open Go.RowKit
set_option linter.unusedVariables false

theorem toList_data (a : ByteArray) : a.toList = a.data.toList := ByteArray.toList_eq a

theorem eq_one (zs : ByteArray) (x : UInt8) : binOp .eql 9 (.string zs) (.string ⟨#[x]⟩) = pure (.bool (decide (zs.size = 1 ∧ bt zs 0 = (x.toNat : Int)))) := by
  rw [binOp_string_eql, toList_data, toList_data]
  obtain ⟨⟨l⟩⟩ := zs
  congr 2
  rw [Bool.eq_iff_iff, decide_eq_true_iff, beq_iff_eq]
  show l = [x] ↔ l.length = 1 ∧ bt ⟨⟨l⟩⟩ 0 = _
  unfold bt
  match l with
  | [] => simp
  | [y] =>
    simp
    exact ⟨fun h => by rw [h], fun h => UInt8.toNat_inj.1 (by omega)⟩
  | _ :: _ :: _ => simp

theorem eq_none (zs : ByteArray) : binOp .eql 9 (.string zs) (.string ⟨#[]⟩) = pure (.bool (decide (zs.size = 0))) := by
  rw [binOp_string_eql, toList_data, toList_data]
  obtain ⟨⟨l⟩⟩ := zs
  congr 2
  rw [Bool.eq_iff_iff, decide_eq_true_iff, beq_iff_eq]
  show l = [] ↔ l.length = 0
  simp

theorem le_two (zs : ByteArray) (h : zs.size = 6) (d1 : Dig (bt zs 1)) (d2 : Dig (bt zs 2)) : binOp .leq 9 (.string (zs.extract 1 3)) (.string ⟨#[50, 51]⟩) = pure (.bool (decide ((bt zs 1 - 48) * 10 + (bt zs 2 - 48) ≤ 23))) := by
  have hl : ∀ a b : ByteArray, binOp .leq 9 (.string a) (.string b) = pure (.bool (Op.bytesLess a.toList b.toList || a.toList == b.toList)) := fun a b => by simp [binOp, Op.stringOp]
  rw [hl, toList_data, toList_data]
  obtain ⟨⟨l⟩⟩ := zs
  have hl6 : l.length = 6 := h
  match l, hl6 with
  | [b0, b1, b2, b3, b4, b5], _ =>
    have e1 : bt ⟨⟨[b0, b1, b2, b3, b4, b5]⟩⟩ 1 = (b1.toNat : Int) := rfl
    have e2 : bt ⟨⟨[b0, b1, b2, b3, b4, b5]⟩⟩ 2 = (b2.toNat : Int) := rfl
    have ex : ((ByteArray.mk ⟨[b0, b1, b2, b3, b4, b5]⟩).extract 1 3).data.toList = [b1, b2] := by rw [ByteArray.extract_mk]; simp
    rw [ex, e1, e2]
    rw [e1] at d1
    rw [e2] at d2
    unfold Dig at d1 d2
    congr 2
    rw [Bool.eq_iff_iff, decide_eq_true_iff]
    show (Op.bytesLess [b1, b2] [50, 51] || [b1, b2] == [50, 51]) = true ↔ _
    simp [Op.bytesLess, UInt8.lt_iff_toNat_lt, ← UInt8.toNat_inj]
    omega
end Go.Proofs.Qxb6603790a
