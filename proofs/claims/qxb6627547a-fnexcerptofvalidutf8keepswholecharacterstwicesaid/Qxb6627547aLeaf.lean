import Derived.Test.Qxb6627547aRows
import Derived.Test.Qxb6627547aPlain
import Derived.WalkKit
import Derived.ProofKit
import Derived.OpenShut
import Derived.ShutString
namespace Go.Proofs.Qxb6627547a
open Go.ChangeShapes Go.WideShapes Go.ChangeAt Go.RowKit
open Plain

theorem ret_bool {a b : Bool} (h : a = b) : Ending.returned (.bool a) = .returned (.bool b) := by rw [h]
theorem ret_str {a b : ByteArray} (h : a = b) : Ending.returned (.string a) = .returned (.string b) := by rw [h]
theorem ret_int {k : IntKind} {a b : Int} (h : a = b) : Ending.returned (.int k a) = .returned (.int k b) := by rw [h]

theorem cont_bits : ∀ n : Fin 256, (bits BinOp.and IntKind.u8 (n.val : Int) 192 == 128) = contB (n.val : Int) := by decide +kernel

theorem cont_of (b : Int) (h0 : 0 ≤ b) (h1 : b ≤ 255) : (bits BinOp.and IntKind.u8 b 192 == 128) = contB b := by
  have := cont_bits ⟨b.toNat, by omega⟩
  simp only [Int.toNat_of_nonneg h0] at this
  exact this

theorem start_any (n : Int) (w : World) (h0 : 0 ≤ n) (h1 : n ≤ 255) :
    Calls Try.prog 11 #[.int .u8 n] w fun e w' => e = .returned (.bool (!contB n)) ∧ w' = w := by
  have C : Hid _ := cont_of n h0 h1
  go_enter Try.func11, Try.ntmps11
  go_wp2
  go_ret
  exact ⟨ret_bool (by rw [← C.out]; rfl), rfl⟩

theorem cont_any (n : Int) (w : World) (h0 : 0 ≤ n) (h1 : n ≤ 255) :
    Calls Try.prog 12 #[.int .u8 n] w fun e w' => e = .returned (.bool (contB n)) ∧ w' = w := by
  have C : Hid _ := cont_of n h0 h1
  go_enter Try.func12, Try.ntmps12
  go_wp2
  go_ret
  exact ⟨ret_bool C.out, rfl⟩

theorem byte_bd (c : UInt8) : 0 ≤ (c.toNat : Int) ∧ (c.toNat : Int) ≤ 255 := by have := c.toNat_lt; omega

set_option maxHeartbeats 400000 in
theorem ex_any (s : ByteArray) (w : World) (hs : s.size ≤ 2097152) :
    Calls Try.prog 6 #[.string s] w fun e w' => e = .returned (.string (exS s)) ∧ w' = w := by
  by_cases h60 : s.size ≤ 60
  · go_enter Try.func6, Try.ntmps6
    go_wp2
    go_ret
    exact ⟨ret_str (exS_short h60).symm, rfl⟩
  · go_enter Try.func6, Try.ntmps6
    go_wp2
    go_loop [3] (fun i => ∃ n : Nat, 57 ≤ n ∧ n ≤ 60 ∧ i = .int .i64 n ∧ Hid (∀ j, n < j → j ≤ 60 → contB (bt s j) = true)) (fun i => (intOf i).toNat)
    case atStart => exact ⟨60, by omega, by omega, rfl, fun j h1 h2 => absurd h1 (by omega)⟩
    case round =>
      obtain ⟨n, h1, h2, rfl, H⟩ := hrel
      have hlt : n < s.size := by omega
      have B : Hid (bt s n = (s[n].toNat : Int)) := bt_eq s n hlt
      have hbd := byte_bd s[n]
      by_cases h57 : 57 < n
      · cases hc : contB (s[n].toNat : Int)
        · have C : Hid (contB (s[n].toNat : Int) = false) := hc
          go_wp2_with (go_at_call 11; refine (start_any _ _ (by omega) (by omega)).mono ?_; rintro e w' ⟨rfl, rfl⟩)
          go_ret
          exact ⟨ret_str (by rw [exS_long h60, cutN_of h1 h2 H.out (fun _ => by rw [B.out]; exact C.out)]), rfl⟩
        · have C : Hid (contB (s[n].toNat : Int) = true) := hc
          go_wp2_with (go_at_call 11; refine (start_any _ _ (by omega) (by omega)).mono ?_; rintro e w' ⟨rfl, rfl⟩)
          go_round
          case rel => exact ⟨n - 1, by omega, by omega, by go_num, fun j h1 h2 => by
            by_cases e : j = n
            · subst e; rw [B.out]; exact C.out
            · exact H.out j (by omega) h2⟩
          case measure => simp [intOf]; omega
      · have E : Hid (n = 57) := (by omega : n = 57)
        have h57' : ¬ 57 < (n : Int) := by omega
        go_wp2
        go_ret
        exact ⟨ret_str (by rw [exS_long h60, cutN_of h1 h2 H.out (fun h => absurd h h57)]), rfl⟩

theorem bytes5_any (s t : ByteArray) (w : World) (h : s.size + t.size ≤ 1048576) :
    Calls Try.prog 5 #[.string s, .string t] w fun e w' => e = .returned (.bool true) ∧ w' = w := by
  go_enter Try.func5, Try.ntmps5
  go_wp2
  go_ret
  exact ⟨rfl, rfl⟩
theorem bytes5_no (s t : ByteArray) (w : World) (hs : s.size ≤ maxLen) (ht : t.size ≤ maxLen) (h : 1048576 < s.size + t.size) :
    Calls Try.prog 5 #[.string s, .string t] w fun e w' => e = .returned (.bool false) ∧ w' = w := by
  unfold maxLen at hs ht
  go_enter Try.func5, Try.ntmps5
  go_wp2
  all_goals
    go_ret
    exact ⟨rfl, rfl⟩
end Go.Proofs.Qxb6627547a
