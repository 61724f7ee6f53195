import Derived.Test.Qxb6627600aRows
import Derived.WalkKit
import Derived.ProofKit
import Derived.OpenShut
import Derived.ShutString
namespace Go.Proofs.Qxb6627600a
open Go.ChangeShapes Go.WideShapes Go.ChangeAt Go.RowKit

theorem ret_bool {a b : Bool} (h : a = b) : Ending.returned (.bool a) = .returned (.bool b) := by rw [h]

section
variable (s : ByteArray) (w : World)

theorem fate_1 (h1 : (s.toList == [108, 105, 115, 116, 101, 100, 45, 116, 121, 112, 101, 49]) = true) :
    Calls Try.prog 5 #[.string s] w fun e w' => e = .returned (.string ⟨#[114, 101, 112, 117, 114, 99, 104, 97, 115, 101]⟩) ∧ w' = w := by
  go_enter Try.func5, Try.ntmps5
  go_wp2
  go_ret
  exact ⟨rfl, rfl⟩
theorem fate_2 (h1 : (s.toList == [108, 105, 115, 116, 101, 100, 45, 116, 121, 112, 101, 49]) = false) (h2 : (s.toList == [110, 101, 101, 113, 45, 114, 101, 115, 116, 114, 105, 99, 116, 101, 100]) = true) :
    Calls Try.prog 5 #[.string s] w fun e w' => e = .returned (.string ⟨#[114, 101, 112, 117, 114, 99, 104, 97, 115, 101]⟩) ∧ w' = w := by
  go_enter Try.func5, Try.ntmps5
  go_wp2
  go_ret
  exact ⟨rfl, rfl⟩
theorem fate_3 (h1 : (s.toList == [108, 105, 115, 116, 101, 100, 45, 116, 121, 112, 101, 49]) = false) (h2 : (s.toList == [110, 101, 101, 113, 45, 114, 101, 115, 116, 114, 105, 99, 116, 101, 100]) = false) (h3 : (s.toList == [108, 105, 115, 116, 101, 100, 45, 116, 121, 112, 101, 50]) = true) :
    Calls Try.prog 5 #[.string s] w fun e w' => e = .returned (.string ⟨#[108, 97, 112, 115, 101]⟩) ∧ w' = w := by
  go_enter Try.func5, Try.ntmps5
  go_wp2
  go_ret
  exact ⟨rfl, rfl⟩
theorem fate_0 (h1 : (s.toList == [108, 105, 115, 116, 101, 100, 45, 116, 121, 112, 101, 49]) = false) (h2 : (s.toList == [110, 101, 101, 113, 45, 114, 101, 115, 116, 114, 105, 99, 116, 101, 100]) = false) (h3 : (s.toList == [108, 105, 115, 116, 101, 100, 45, 116, 121, 112, 101, 50]) = false) :
    Calls Try.prog 5 #[.string s] w fun e w' => e = .returned (.string ⟨#[]⟩) ∧ w' = w := by
  go_enter Try.func5, Try.ntmps5
  go_wp2
  go_ret
  exact ⟨rfl, rfl⟩
theorem reg_1 (h1 : (s.toList == [108, 105, 115, 116, 101, 100, 45, 116, 121, 112, 101, 49]) = true) :
    Calls Try.prog 6 #[.string s] w fun e w' => e = .returned (.int .i64 1) ∧ w' = w := by
  go_enter Try.func6, Try.ntmps6
  go_wp2
  go_ret
  exact ⟨rfl, rfl⟩
theorem reg_2 (h1 : (s.toList == [108, 105, 115, 116, 101, 100, 45, 116, 121, 112, 101, 49]) = false) (h2 : (s.toList == [110, 101, 101, 113, 45, 114, 101, 115, 116, 114, 105, 99, 116, 101, 100]) = true) :
    Calls Try.prog 6 #[.string s] w fun e w' => e = .returned (.int .i64 1) ∧ w' = w := by
  go_enter Try.func6, Try.ntmps6
  go_wp2
  go_ret
  exact ⟨rfl, rfl⟩
theorem reg_3 (h1 : (s.toList == [108, 105, 115, 116, 101, 100, 45, 116, 121, 112, 101, 49]) = false) (h2 : (s.toList == [110, 101, 101, 113, 45, 114, 101, 115, 116, 114, 105, 99, 116, 101, 100]) = false) (h3 : (s.toList == [108, 105, 115, 116, 101, 100, 45, 116, 121, 112, 101, 50]) = true) :
    Calls Try.prog 6 #[.string s] w fun e w' => e = .returned (.int .i64 2) ∧ w' = w := by
  go_enter Try.func6, Try.ntmps6
  go_wp2
  go_ret
  exact ⟨rfl, rfl⟩
theorem reg_0 (h1 : (s.toList == [108, 105, 115, 116, 101, 100, 45, 116, 121, 112, 101, 49]) = false) (h2 : (s.toList == [110, 101, 101, 113, 45, 114, 101, 115, 116, 114, 105, 99, 116, 101, 100]) = false) (h3 : (s.toList == [108, 105, 115, 116, 101, 100, 45, 116, 121, 112, 101, 50]) = false) :
    Calls Try.prog 6 #[.string s] w fun e w' => e = .returned (.int .i64 0) ∧ w' = w := by
  go_enter Try.func6, Try.ntmps6
  go_wp2
  go_ret
  exact ⟨rfl, rfl⟩

/-- No fate's text is a kind. -/
theorem fate_rep : Calls Try.prog 5 #[.string ⟨#[114, 101, 112, 117, 114, 99, 104, 97, 115, 101]⟩] w fun e w' => e = .returned (.string ⟨#[]⟩) ∧ w' = w :=
  fate_0 _ w (by rw [ByteArray.toList_eq]; rfl) (by rw [ByteArray.toList_eq]; rfl) (by rw [ByteArray.toList_eq]; rfl)
theorem fate_lapse : Calls Try.prog 5 #[.string ⟨#[108, 97, 112, 115, 101]⟩] w fun e w' => e = .returned (.string ⟨#[]⟩) ∧ w' = w :=
  fate_0 _ w (by rw [ByteArray.toList_eq]; rfl) (by rw [ByteArray.toList_eq]; rfl) (by rw [ByteArray.toList_eq]; rfl)
theorem fate_none : Calls Try.prog 5 #[.string ⟨#[]⟩] w fun e w' => e = .returned (.string ⟨#[]⟩) ∧ w' = w :=
  fate_0 _ w (by rw [ByteArray.toList_eq]; rfl) (by rw [ByteArray.toList_eq]; rfl) (by rw [ByteArray.toList_eq]; rfl)

theorem bytes4_any (h : s.size ≤ 1048576) : Calls Try.prog 4 #[.string s] w fun e w' => e = .returned (.bool true) ∧ w' = w := by
  go_enter Try.func4, Try.ntmps4
  go_wp2
  go_ret
  exact ⟨rfl, rfl⟩
theorem bytes4_no (h : 1048576 < s.size) : Calls Try.prog 4 #[.string s] w fun e w' => e = .returned (.bool false) ∧ w' = w := by
  go_enter Try.func4, Try.ntmps4
  go_wp2
  go_ret
  exact ⟨rfl, rfl⟩
end
end Go.Proofs.Qxb6627600a
