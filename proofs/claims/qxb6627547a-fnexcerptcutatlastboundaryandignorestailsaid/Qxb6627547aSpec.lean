import Derived.Test.Qxb6627547aLeaf
import Derived.Deep.QuietTactic
import Derived.BigQuiet
namespace Go.Proofs.Qxb6627547a
open Go.ChangeShapes Go.WideShapes Go.ChangeAt Go.RowKit
open Plain

set_option maxHeartbeats 1000000 in
theorem spec_core (x r : ByteArray) (w : World) (hx : 60 < x.size) (hx2 : x.size ≤ 2097152) (hn1 : 60 ≤ r.size) (hn2 : r.size ≤ 63)
    (d0 : (((r[r.size - 3]'(by omega)).toNat : Int) != 46) = false) (d1 : (((r[r.size - 3 + 1]'(by omega)).toNat : Int) != 46) = false) (d2 : (((r[r.size - 3 + 2]'(by omega)).toNat : Int) != 46) = false)
    (he : ((r.extract 0 (r.size - 3)).toList == (x.extract 0 (r.size - 3)).toList) = true)
    (hc : Hid (∀ j, r.size - 3 < j → j ≤ 60 → contB (bt x j) = true)) (hs : Hid (57 < r.size - 3 → contB (bt x (r.size - 3)) = false)) :
    Calls Try.prog 7 #[.string x, .string r] w fun e w' => e = .returned (.bool true) ∧ ∃ q, w' = w.drewN q := by
  go_enter Try.func7, Try.ntmps7
  go_wp2
  go_quiet (fail)
  go_wp2
  clear he d0 d1 d2
  go_loop [6] (fun i => ∃ k : Nat, r.size - 3 < k ∧ k ≤ 61 ∧ i = .int .i64 k) (fun i => 61 - (intOf i).toNat)
  case atStart => exact ⟨r.size - 3 + 1, by omega, by omega, by go_num⟩
  case round =>
    obtain ⟨k, hk1, hk2, rfl⟩ := hrel
    by_cases hk : k ≤ 60
    · have hkx : k < x.size := by omega
      have hbd := byte_bd x[k]
      have C : contB (x[k].toNat : Int) = true := by rw [← bt_eq x k hkx]; exact hc.out k hk1 hk
      go_wp2_with (go_at_call 12; refine (cont_any _ _ (by omega) (by omega)).mono ?_; rintro e w' ⟨rfl, rfl⟩)
      go_round
      case rel => exact ⟨k + 1, by omega, by omega, by go_num⟩
      case measure => simp [intOf]; omega
    · have hkx : r.size - 3 < x.size := by omega
      have hbd := byte_bd (x[r.size - 3])
      by_cases h57 : 57 < r.size - 3
      · have C : contB (x[r.size - 3].toNat : Int) = false := by rw [← bt_eq x _ hkx]; exact hs.out h57
        go_wp2_with (go_at_call 12; refine (cont_any _ _ (by omega) (by omega)).mono ?_; rintro e w' ⟨rfl, rfl⟩)
        go_ret
        exact ⟨rfl, _, rfl⟩
      · go_wp2
        go_ret
        exact ⟨rfl, _, rfl⟩

/-- The excerpt of a long text passes. -/
theorem spec_any (x : ByteArray) (w : World) (hx : 60 < x.size) (hx2 : x.size ≤ 2097152) :
    Calls Try.prog 7 #[.string x, .string (exS x)] w fun e w' => e = .returned (.bool true) ∧ ∃ q, w' = w.drewN q := by
  have hb := cutN_bd x
  have hz := exL_size hx
  have hz3 : (exS x).size - 3 = cutN x := by omega
  have dd : ∀ j (h : j < (exS x).size), cutN x ≤ j → ((((exS x)[j]'h).toNat : Int) != 46) = false := fun j h hj => by
    rw [← bt_eq, exL_dots hx j hj (by omega)]; rfl
  refine spec_core x (exS x) w hx hx2 (by omega) (by omega) (dd _ _ (by omega)) (dd _ _ (by omega)) (dd _ _ (by omega)) ?_ ?_ ?_
  · rw [hz3, exL_head hx]; exact beq_self_eq_true _
  · rw [hz3]; exact cutN_cont x
  · rw [hz3]; exact cutN_start x
end Go.Proofs.Qxb6627547a
