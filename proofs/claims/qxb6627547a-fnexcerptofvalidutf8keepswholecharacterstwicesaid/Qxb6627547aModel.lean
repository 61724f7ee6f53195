import Derived.Test.Qxb6627547aLeaf
import Derived.Test.Qxb6627547aPlain2
namespace Go.Proofs.Qxb6627547a
open Go.ChangeShapes Go.WideShapes Go.ChangeAt Go.RowKit
open Plain

theorem wid_any (n : Int) (w : World) :
    Calls Try.prog 13 #[.int .u8 n] w fun e w' => e = .returned (.int .i64 (wid n : Nat)) ∧ w' = w := by
  by_cases h1 : n < 128
  · have W : Hid _ := wid1 h1
    go_enter Try.func13, Try.ntmps13
    go_wp2
    go_ret
    exact ⟨ret_int (by rw [W.out]; rfl), rfl⟩
  · by_cases h2 : n < 224
    · have W : Hid _ := wid2 (by omega) h2
      go_enter Try.func13, Try.ntmps13
      go_wp2
      go_ret
      exact ⟨ret_int (by rw [W.out]; rfl), rfl⟩
    · by_cases h3 : n < 240
      · have W : Hid _ := wid3 (by omega) h3
        go_enter Try.func13, Try.ntmps13
        go_wp2
        go_ret
        exact ⟨ret_int (by rw [W.out]; rfl), rfl⟩
      · have W : Hid _ := wid4 (n := n) (by omega)
        go_enter Try.func13, Try.ntmps13
        go_wp2
        go_ret
        exact ⟨ret_int (by rw [W.out]; rfl), rfl⟩

theorem wid_ex (n : Int) : ∃ W : Nat, Hid (wid n = W) ∧ 1 ≤ W ∧ W ≤ 4 := by
  have h := wid_bd n
  generalize hW : wid n = W at h
  exact ⟨W, rfl, h⟩

theorem wid_at (n : Int) (W : Nat) (h : Hid (wid n = W)) (w : World) :
    Calls Try.prog 13 #[.int .u8 n] w fun e w' => e = .returned (.int .i64 (W : Int)) ∧ w' = w := by
  rw [← h.out]; exact wid_any n w

set_option maxHeartbeats 400000 in
theorem model_any (x : ByteArray) (w : World) (hs : x.size ≤ 2097152) (wf : Hid (WF x)) :
    Calls Try.prog 10 #[.string x] w fun e w' => e = .returned (.string (exS x)) ∧ w' = w := by
  by_cases h60 : x.size ≤ 60
  · go_enter Try.func10, Try.ntmps10
    go_wp2
    go_ret
    exact ⟨ret_str (exS_short h60).symm, rfl⟩
  · go_enter Try.func10, Try.ntmps10
    go_wp2
    go_loop [3] (fun i => ∃ (p k : Nat), p ≤ 60 ∧ i = .int .i64 p ∧ Hid (p = pos x k)) (fun i => 61 - (intOf i).toNat)
    case atStart => exact ⟨0, 0, by omega, rfl, rfl⟩
    case round =>
      obtain ⟨p, k, hp, rfl, H⟩ := hrel
      have hlt : p < x.size := by omega
      obtain ⟨W, HW, hw1, hw2⟩ := wid_ex (x[p].toNat : Int)
      have E : Hid (pos x (k + 1) = p + W) := by
        show _ = _
        rw [pos_succ, ← H.out, bt_eq x p hlt, HW.out]
      by_cases hc : p + W ≤ 60
      · go_wp2_with (go_at_call 13; refine (wid_at _ W HW _).mono ?_; clear HW; rintro e w' ⟨rfl, rfl⟩)
        go_round
        case rel => exact ⟨p + W, k + 1, by omega, by go_num, E.out.symm⟩
        case measure => simp [intOf]; omega
      · go_wp2_with (go_at_call 13; refine (wid_at _ W HW _).mono ?_; clear HW; rintro e w' ⟨rfl, rfl⟩)
        go_ret
        exact ⟨ret_str (by rw [exS_long h60, cutN_pos (by omega) wf.out (k := k) (by rw [← H.out]; exact hp) (by rw [E.out]; omega), ← H.out]), rfl⟩
end Go.Proofs.Qxb6627547a
