import Derived.Test.Qxb6627603aRows
import Derived.WalkKit
import Derived.ProofKit
import Derived.OpenShut
import Derived.ShutString
import Derived.Deep.RegionWith
namespace Go.Proofs.Qxb6627603a
open Go.ChangeShapes Go.WideShapes Go.ChangeAt Go.RowKit

theorem ret_bool {a b : Bool} (h : a = b) : Ending.returned (.bool a) = .returned (.bool b) := by rw [h]
theorem ret_int {k : IntKind} {a b : Int} (h : a = b) : Ending.returned (.int k a) = .returned (.int k b) := by rw [h]

theorem str_any (a b : ByteArray) (w : World) (ha : a.size ≤ 4194304) (hb : b.size ≤ 4194304) :
    Calls Try.prog 9 #[.agg #[.string a, .string b]] w fun e w' => e = .returned (.string (a ++ ⟨#[58]⟩ ++ b)) ∧ w' = w.alloc (.cells #[.string a, .string b] 24) := by
  go_enter Try.func9, Try.ntmps9
  go_wp2
  go_ret
  exact ⟨rfl, rfl⟩

theorem make_any (a b c d e f : ByteArray) (w : World) :
    Calls Try.prog 6 #[.string a, .string b, .string c, .string d, .string e, .string f] w fun x w' => x = .returned (.agg #[.string a, .string b, .string c, .string d, .string e, .string f]) ∧
      w' = w.alloc (.cells #[.string a, .string b, .string c, .string d, .string e, .string f] 28) := by
  go_enter Try.func6, Try.ntmps6
  go_wp2
  exact bodyPost_ret (v := .agg #[.string a, .string b, .string c, .string d, .string e, .string f]) (by simp [results, Try.results6, go_sem]) rfl ⟨rfl, rfl⟩

theorem col_other (a b c d e f : ByteArray) (p : Int) (w : World) (h1 : (p == 1) = false) (h2 : (p == 2) = false) :
    Calls Try.prog 7 #[.agg #[.string a, .string b, .string c, .string d, .string e, .string f], .int .i64 p] w fun x w' => x = .returned (.int .i64 1) ∧
      w' = w.alloc (.cells #[.string a, .string b, .string c, .string d, .string e, .string f] 28) := by
  go_enter Try.func7, Try.ntmps7
  go_wp2
  go_ret
  exact ⟨rfl, rfl⟩

theorem size3 (a b : ByteArray) : (a ++ (⟨#[58]⟩ : ByteArray) ++ b).size = a.size + 1 + b.size := by
  rw [ByteArray.size_append, ByteArray.size_append]; rfl

set_option maxHeartbeats 400000 in
theorem col_rel (a b c d e f : ByteArray) (w : World) (ha : a.size ≤ 4194304) (hb : b.size ≤ 4194304) :
    Calls Try.prog 7 #[.agg #[.string a, .string b, .string c, .string d, .string e, .string f], .int .i64 1] w fun x w' => x = .returned (.int .i64 ((a.size : Int) + 1 + b.size + 2)) ∧
      w' = (w.alloc (.cells #[.string a, .string b, .string c, .string d, .string e, .string f] 28)).alloc (.cells #[.string a, .string b] 24) := by
  go_enter Try.func7, Try.ntmps7
  go_wp2_with (go_at_call 9; refine (str_any _ _ _ (by omega) (by omega)).mono ?_; rintro x w' ⟨rfl, rfl⟩)
  go_ret
  exact ⟨rfl, rfl⟩

theorem wrap_two {x : Int} (h0 : 0 ≤ x) (h1 : x ≤ 100000000) : IntKind.i64.wrap (IntKind.i64.wrap x + 3) = x + 3 := by
  rw [IntKind.wrap_i64, IntKind.wrap_i64]
  omega

set_option maxHeartbeats 400000 in
theorem col_sub (a b c d e f : ByteArray) (w : World) (ha : a.size ≤ 4194304) (hb : b.size ≤ 4194304) (hc : c.size ≤ 4194304) :
    Calls Try.prog 7 #[.agg #[.string a, .string b, .string c, .string d, .string e, .string f], .int .i64 2] w fun x w' => x = .returned (.int .i64 ((a.size : Int) + 1 + b.size + c.size + 3)) ∧
      w' = ((w.alloc (.cells #[.string a, .string b, .string c, .string d, .string e, .string f] 28)).alloc (.cells #[.string a, .string b] 24)).drew := by
  go_enter Try.func7, Try.ntmps7
  go_wp2_with fail
  go_region_with (go_at_call 9; refine (str_any _ _ _ (by omega) (by omega)).mono ?_; rintro x w' ⟨rfl, rfl⟩)
  all_goals
    go_wp2
    go_simp
    go_ret
    exact ⟨ret_int (wrap_two (by omega) (by omega)), rfl⟩
end Go.Proofs.Qxb6627603a
