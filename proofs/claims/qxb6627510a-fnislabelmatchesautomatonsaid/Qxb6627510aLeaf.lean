import Derived.Test.Qxb6627510aRows
import Derived.Test.Qxb6627510aPlain
import Derived.WalkKit
import Derived.ProofKit
import Derived.OpenShut
import Derived.ShutString
namespace Go.Proofs.Qxb6627510a
open Go.ChangeShapes Go.WideShapes Go.ChangeAt Go.RowKit
open Plain

theorem ret_bool {a b : Bool} (h : a = b) : Ending.returned (.bool a) = .returned (.bool b) := by rw [h]

set_option maxHeartbeats 400000 in
theorem alnum_any (n : Int) (u : Bool) (w : World) :
    Calls Try.prog 12 #[.int .u8 n, .bool u] w fun e w' => e = .returned (.bool (alnumB n u)) ∧ w' = w := by
  cases u
  all_goals
    by_cases h1 : 48 ≤ n
    · by_cases h2 : n ≤ 57
      · go_enter Try.func12, Try.ntmps12
        go_wp2
        go_ret
        exact ⟨ret_bool (alnumB_of (by simp; omega)), rfl⟩
      · by_cases h3 : 97 ≤ n
        · by_cases h4 : n ≤ 122
          · go_enter Try.func12, Try.ntmps12
            go_wp2
            go_ret
            exact ⟨ret_bool (alnumB_of (by simp; omega)), rfl⟩
          · go_enter Try.func12, Try.ntmps12
            go_wp2
            go_ret
            exact ⟨ret_bool (alnumB_of (by simp; omega)), rfl⟩
        · by_cases h5 : 65 ≤ n
          · go_enter Try.func12, Try.ntmps12
            go_wp2
            go_ret
            exact ⟨ret_bool (alnumB_of (by simp; omega)), rfl⟩
          · go_enter Try.func12, Try.ntmps12
            go_wp2
            go_ret
            exact ⟨ret_bool (alnumB_of (by simp; omega)), rfl⟩
    · go_enter Try.func12, Try.ntmps12
      go_wp2
      go_ret
      exact ⟨ret_bool (alnumB_of (by simp; omega)), rfl⟩

theorem ret_int {k : IntKind} {a b : Int} (h : a = b) : Ending.returned (.int k a) = .returned (.int k b) := by rw [h]

set_option maxHeartbeats 400000 in
theorem kind_any (n : Int) (u : Bool) (w : World) :
    Calls Try.prog 13 #[.int .u8 n, .bool u] w fun e w' => e = .returned (.int .i64 (kindI n u)) ∧ w' = w := by
  by_cases h0 : n = 45
  · subst h0
    go_enter Try.func13, Try.ntmps13
    go_wp2
    go_ret
    exact ⟨ret_int (by simp [kindI]), rfl⟩
  have h0' : (n == 45) = false := by simpa using h0
  cases u
  all_goals
    by_cases h1 : 97 ≤ n
    · by_cases h2 : n ≤ 122
      · go_enter Try.func13, Try.ntmps13
        go_wp2
        go_ret
        exact ⟨ret_int (by unfold kindI; rw [if_neg h0, alnumB_true (by omega)]; rfl), rfl⟩
      · go_enter Try.func13, Try.ntmps13
        go_wp2
        go_ret
        exact ⟨ret_int (by unfold kindI; rw [if_neg h0, alnumB_false (by omega)]; rfl), rfl⟩
    · by_cases h3 : 48 ≤ n
      · by_cases h4 : n ≤ 57
        · go_enter Try.func13, Try.ntmps13
          go_wp2
          go_ret
          exact ⟨ret_int (by unfold kindI; rw [if_neg h0, alnumB_true (by omega)]; rfl), rfl⟩
        · go_enter Try.func13, Try.ntmps13
          go_wp2
          all_goals
            go_ret
            exact ⟨ret_int (by unfold kindI; rw [if_neg h0]; first | (rw [alnumB_true (by simp; omega)]; rfl) | (rw [alnumB_false (by simp; omega)]; rfl)), rfl⟩
      · go_enter Try.func13, Try.ntmps13
        go_wp2
        go_ret
        exact ⟨ret_int (by unfold kindI; rw [if_neg h0, alnumB_false (by simp; omega)]; rfl), rfl⟩

theorem bytes5_any (s : ByteArray) (u : Bool) (w : World) (h : s.size ≤ 1048576) :
    Calls Try.prog 5 #[.string s, .bool u] w fun e w' => e = .returned (.bool true) ∧ w' = w := by
  go_enter Try.func5, Try.ntmps5
  go_wp2
  go_ret
  exact ⟨rfl, rfl⟩
theorem bytes5_no (s : ByteArray) (u : Bool) (w : World) (h : 1048576 < s.size) :
    Calls Try.prog 5 #[.string s, .bool u] w fun e w' => e = .returned (.bool false) ∧ w' = w := by
  go_enter Try.func5, Try.ntmps5
  go_wp2
  go_ret
  exact ⟨rfl, rfl⟩
theorem bytes8_any (s : ByteArray) (u : Bool) (w : World) (h : s.size ≤ 1048576) :
    Calls Try.prog 8 #[.string s, .bool u] w fun e w' => e = .returned (.bool true) ∧ w' = w := by
  go_enter Try.func8, Try.ntmps8
  go_wp2
  go_ret
  exact ⟨rfl, rfl⟩
theorem bytes8_no (s : ByteArray) (u : Bool) (w : World) (h : 1048576 < s.size) :
    Calls Try.prog 8 #[.string s, .bool u] w fun e w' => e = .returned (.bool false) ∧ w' = w := by
  go_enter Try.func8, Try.ntmps8
  go_wp2
  go_ret
  exact ⟨rfl, rfl⟩
end Go.Proofs.Qxb6627510a
