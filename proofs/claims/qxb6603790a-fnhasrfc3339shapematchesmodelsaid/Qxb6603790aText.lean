import Derived.Test.Qxb6603790aProg
import Derived.WalkKit
import Derived.WalkSmall
import Derived.WalkSpells
import Derived.WalkLawsBesides
import Derived.Deep.QuietTactic
import Derived.BigQuiet
namespace Go.Proofs.Qxb6603790a
open Go.RowKit
set_option linter.unusedVariables false

/-- Byte i of a text, as a number. -/
def bt (s : ByteArray) (i : Nat) : Int := ((s.data.toList.getD i 0).toNat : Int)
/-- It is a digit. -/
def Dig (c : Int) : Prop := 48 ≤ c ∧ c ≤ 57

theorem bt_range (s : ByteArray) (i : Nat) : 0 ≤ bt s i ∧ bt s i ≤ 255 := by
  unfold bt
  have := UInt8.toNat_lt (s.data.toList.getD i 0)
  omega

theorem bt_get (s : ByteArray) (i : Nat) (h : i < s.size) : ((s[i]'h).toNat : Int) = bt s i := by
  obtain ⟨⟨l⟩⟩ := s
  have hl : i < l.length := h
  unfold bt
  simp only [List.getD, List.getElem?_eq_getElem hl, Option.getD_some]
  rfl

theorem run_at (s : ByteArray) (i : Int) (h0 : 0 ≤ i) (h : i < s.size) (w : World) : (Instr.index 9 (.string s) (.int .i64 i)).run Try.prog w = .ok (.int .u8 (bt s i.toNat)) w := by
  rw [run_index_string w 9 s .i64 i Try.underlying9, dif_pos ⟨h0, h⟩, bt_get]

theorem run_at' (s : ByteArray) (i : Nat) (h : i < s.size) (w : World) : (Instr.index 9 (.string s) (.int .i64 i)).run Try.prog w = .ok (.int .u8 (bt s i)) w := by
  rw [run_at s i (by omega) (by omega)]
  simp

theorem bt_extract (s : ByteArray) (a b i : Nat) (h : a + i < b) (hb : b ≤ s.size) : bt (s.extract a b) i = bt s (a + i) := by
  obtain ⟨⟨l⟩⟩ := s
  have hb' : b ≤ l.length := hb
  unfold bt
  rw [ByteArray.extract_mk]
  simp [List.getD_eq_getElem?_getD, List.getElem?_drop, show i < b - a by omega]

theorem extract_extract (s : ByteArray) (a b c d : Nat) (h : a + d ≤ b) (hb : b ≤ s.size) : (s.extract a b).extract c d = s.extract (a + c) (a + d) := by
  obtain ⟨⟨l⟩⟩ := s
  have hb' : b ≤ l.length := hb
  simp [ByteArray.extract_mk, List.drop_take, List.drop_drop, List.take_take]
  rw [Nat.min_eq_left (by omega), show a + d - (a + c) = d - c from by omega]
  omega

theorem isDigit_yes (c : Int) (h : 48 ≤ c) (h' : c ≤ 57) (w : World) : Calls Try.prog 14 #[.int .u8 c] w fun e w' => e = .returned (.bool true) ∧ w = w' := by
  go_enter Try.func14, Try.ntmps14
  go_wp2
  go_ret
  exact ⟨rfl, rfl⟩
theorem isDigit_no (c : Int) (h : ¬ Dig c) (w : World) : Calls Try.prog 14 #[.int .u8 c] w fun e w' => e = .returned (.bool false) ∧ w = w' := by
  by_cases c1 : 48 ≤ c
  · have c2 : ¬ c ≤ 57 := fun q => h ⟨c1, q⟩
    clear h
    go_enter Try.func14, Try.ntmps14
    go_wp2
    go_ret
    exact ⟨rfl, rfl⟩
  · clear h
    go_enter Try.func14, Try.ntmps14
    go_wp2
    go_ret
    exact ⟨rfl, rfl⟩
theorem lawDigit_yes (c : Int) (h : 48 ≤ c) (h' : c ≤ 57) (w : World) : Calls Try.prog 10 #[.int .u8 c] w fun e w' => e = .returned (.bool true) ∧ w = w' := by
  go_enter Try.func10, Try.ntmps10
  go_wp2
  go_ret
  exact ⟨rfl, rfl⟩
theorem lawDigit_no (c : Int) (h : ¬ Dig c) (w : World) : Calls Try.prog 10 #[.int .u8 c] w fun e w' => e = .returned (.bool false) ∧ w = w' := by
  by_cases c1 : 48 ≤ c
  · have c2 : ¬ c ≤ 57 := fun q => h ⟨c1, q⟩
    clear h
    go_enter Try.func10, Try.ntmps10
    go_wp2
    go_ret
    exact ⟨rfl, rfl⟩
  · clear h
    go_enter Try.func10, Try.ntmps10
    go_wp2
    go_ret
    exact ⟨rfl, rfl⟩

theorem bytes8_yes (s : ByteArray) (h : (s.size : Int) ≤ 1048576) (w : World) : Calls Try.prog 8 #[.string s] w fun e w' => e = .returned (.bool true) ∧ w = w' := by
  go_enter Try.func8, Try.ntmps8
  go_wp2
  go_ret
  exact ⟨rfl, rfl⟩
theorem bytes8_no (s : ByteArray) (h : ¬ (s.size : Int) ≤ 1048576) (w : World) : Calls Try.prog 8 #[.string s] w fun e w' => e = .returned (.bool false) ∧ w = w' := by
  go_enter Try.func8, Try.ntmps8
  go_wp2
  go_ret
  exact ⟨rfl, rfl⟩
theorem bytes5_yes (s : ByteArray) (h : (s.size : Int) ≤ 1048576) (w : World) : Calls Try.prog 5 #[.string s] w fun e w' => e = .returned (.bool true) ∧ w = w' := by
  go_enter Try.func5, Try.ntmps5
  go_wp2
  go_ret
  exact ⟨rfl, rfl⟩
theorem bytes5_no (s : ByteArray) (h : ¬ (s.size : Int) ≤ 1048576) (w : World) : Calls Try.prog 5 #[.string s] w fun e w' => e = .returned (.bool false) ∧ w = w' := by
  go_enter Try.func5, Try.ntmps5
  go_wp2
  go_ret
  exact ⟨rfl, rfl⟩

end Go.Proofs.Qxb6603790a
