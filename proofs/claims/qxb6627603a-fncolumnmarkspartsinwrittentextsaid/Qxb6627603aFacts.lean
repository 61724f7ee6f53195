import Derived.Test.Qxb6627603aLeaf
import Derived.Test.Qxb6627603aPlain
namespace Go.Proofs.Qxb6627603a
open Go.ChangeShapes Go.WideShapes Go.ChangeAt Go.RowKit

set_option maxHeartbeats 1000000 in
theorem bytes5_any (a b c d e f : ByteArray) (w : World) (h : a.size + b.size + c.size + d.size + e.size + f.size ≤ 1048576) :
    Calls Try.prog 5 #[.string a, .string b, .string c, .string d, .string e, .string f] w fun x w' => x = .returned (.bool true) ∧ w' = w := by
  go_enter Try.func5, Try.ntmps5
  go_wp2
  go_ret
  exact ⟨rfl, rfl⟩
set_option maxHeartbeats 1000000 in
theorem bytes5_no (a b c d e f : ByteArray) (w : World) (ha : a.size ≤ maxLen) (hb : b.size ≤ maxLen) (hc : c.size ≤ maxLen) (hd : d.size ≤ maxLen) (he : e.size ≤ maxLen) (hf : f.size ≤ maxLen)
    (h : 1048576 < a.size + b.size + c.size + d.size + e.size + f.size) :
    Calls Try.prog 5 #[.string a, .string b, .string c, .string d, .string e, .string f] w fun x w' => x = .returned (.bool false) ∧ w' = w := by
  unfold maxLen at ha hb hc hd he hf
  go_enter Try.func5, Try.ntmps5
  go_wp2
  all_goals
    go_ret
    exact ⟨rfl, rfl⟩

theorem idx_lt (a b c : ByteArray) : a.size + 1 + b.size < (a ++ (⟨#[58]⟩ : ByteArray) ++ b ++ (⟨#[35]⟩ : ByteArray) ++ c ++ (⟨#[64]⟩ : ByteArray)).size := by
  rw [Plain.size6, Plain.size3]; omega

theorem fact1 (a b c : ByteArray) : ((((a ++ (⟨#[58]⟩ : ByteArray) ++ b ++ (⟨#[35]⟩ : ByteArray) ++ c ++ (⟨#[64]⟩ : ByteArray))[a.size + 1 + b.size]'(idx_lt a b c)).toNat : Int) == 35) = true := by
  rw [← Plain.bt_eq]
  have := Plain.sharp6 (a ++ (⟨#[58]⟩ : ByteArray) ++ b) c
  rw [Plain.size3] at this
  rw [this]; rfl

theorem fact2 (a b c : ByteArray) : (((a ++ (⟨#[58]⟩ : ByteArray) ++ b ++ (⟨#[35]⟩ : ByteArray) ++ c ++ (⟨#[64]⟩ : ByteArray)).extract 0 (a.size + 1 + b.size)).toList == (a ++ (⟨#[58]⟩ : ByteArray) ++ b).toList) = true := by
  have := Plain.head6 (a ++ (⟨#[58]⟩ : ByteArray) ++ b) c
  rw [Plain.size3] at this
  rw [this]; exact beq_self_eq_true _

theorem fact3 (a b c : ByteArray) (wx : World) :
    (Instr.slice 9 (.string (a ++ (⟨#[58]⟩ : ByteArray) ++ b ++ (⟨#[35]⟩ : ByteArray) ++ c ++ (⟨#[64]⟩ : ByteArray))) (some (.int .i64 ((a.size : Int) + 1 + b.size + 2 - 1))) (some (.int .i64 ((a.size : Int) + 1 + b.size + c.size + 3 - 2))) none).run Try.prog wx = .ok (.string c) wx := by
  have z := Plain.size6 (a ++ (⟨#[58]⟩ : ByteArray) ++ b) c
  rw [Plain.size3] at z
  rw [run_slice_string wx 9 _ .i64 .i64 _ _ Try.underlying9 (by omega) (by omega) (by omega)]
  have := Plain.mid6 (a ++ (⟨#[58]⟩ : ByteArray) ++ b) c
  rw [Plain.size3] at this
  rw [show ((a.size : Int) + 1 + b.size + 2 - 1).toNat = a.size + 1 + b.size + 1 by omega, show ((a.size : Int) + 1 + b.size + c.size + 3 - 2).toNat = a.size + 1 + b.size + 1 + c.size by omega, this]

theorem idx_lt2 (a b c : ByteArray) : a.size + 1 + b.size + c.size + 1 < (a ++ (⟨#[58]⟩ : ByteArray) ++ b ++ (⟨#[35]⟩ : ByteArray) ++ c ++ (⟨#[64]⟩ : ByteArray)).size := by
  rw [Plain.size6, Plain.size3]; omega

theorem fact4 (a b c : ByteArray) : ((((a ++ (⟨#[58]⟩ : ByteArray) ++ b ++ (⟨#[35]⟩ : ByteArray) ++ c ++ (⟨#[64]⟩ : ByteArray))[a.size + 1 + b.size + c.size + 1]'(idx_lt2 a b c)).toNat : Int) == 64) = true := by
  rw [← Plain.bt_eq]
  have := Plain.at6 (a ++ (⟨#[58]⟩ : ByteArray) ++ b) c
  rw [Plain.size3] at this
  rw [show a.size + 1 + b.size + c.size + 1 = a.size + 1 + b.size + 1 + c.size by omega, this]; rfl

end Go.Proofs.Qxb6627603a
