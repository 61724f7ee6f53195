import Derived.Test.Qxb6627510aLeaf
import Derived.Test.Qxb6627510aPlain2
import Derived.Deep.OwnRows
import Derived.Laws.BytesArg
namespace Go.Proofs.Qxb6627510a
open Go.ChangeShapes Go.WideShapes Go.ChangeAt Go.RowKit
open Plain

theorem Try.info5 : (Try.prog.info? 5).map (fun i => (i.zero, i.size, i.bytes)) = some (some (.int .u8 0), 1, 1) := by kernel_rfl

/-- The row of bytes behind k rounds. -/
def rowF (s : ByteArray) (k : Nat) (j : Nat) : Value := .int .u8 (if j < k then lowN (bt s j) else 0)

theorem row_set {s : ByteArray} {wr : World} {b n k : Nat} (h : wr.rowIs b 5 n (rowF s k)) {v : Int} (hv : v = lowN (bt s k)) : (wr.setCell ⟨b, k, none⟩ (.int .u8 v)).rowIs b 5 n (rowF s (k + 1)) := by
  refine (h.set k (.int .u8 v)).congr fun i _ => ?_
  unfold rowF
  by_cases e : i = k
  · subst e
    rw [if_pos rfl, if_pos (by omega), hv]
  · rw [if_neg e]
    by_cases l : i < k
    · rw [if_pos l, if_pos (by omega)]
    · rw [if_neg l, if_neg (by omega)]

theorem back (s : ByteArray) (wr : World) (b : Nat) (h : wr.rowIs b 5 s.size (rowF s s.size)) :
    (convert 27 9 (.slice (some ⟨b, 0, none⟩) s.size s.size)).run Try.prog wr = .ok (.string (lowS s)) wr := by
  have e : strOfNums ((List.range s.size).map fun j => lowN (bt s j)) = lowS s := by
    unfold strOfNums lowS
    rw [List.map_map]
    rfl
  have := run_convert_bytes_arg (P := Try.prog) wr 27 5 Try.underlying27 Try.underlying5 b 0 s.size s.size ((List.range s.size).map fun j => lowN (bt s j)) (by simp) (fun i hi => by
    rw [Nat.zero_add, h.cell hi]
    simp [rowF, hi]) 9 Try.underlying9
  rw [e] at this
  exact this

set_option maxHeartbeats 1000000 in
theorem low_any (s : ByteArray) (w : World) (hs : s.size ≤ 65536) :
    Calls Try.prog 9 #[.string s] w fun e w' => e = .returned (.string (lowS s)) ∧ Grown w w' := by
  have hmk := run_make_row' (P := Try.prog) 27 5 (.int .u8 0) 1 Try.underlying27 Try.info5 rfl .i64 .i64 s.size (by omega) (by omega)
  go_enter Try.func9, Try.ntmps9
  go_wp2
  clear hmk
  go_loopw [4] (fun i wr => ∃ k : Nat, k ≤ s.size ∧ i = .int .i64 k ∧ wr.rowIs w.heap.size 5 s.size (rowF s k) ∧ Grown w wr) (fun i _ => s.size - (intOf i).toNat)
  case atStart => exact ⟨0, Nat.zero_le _, rfl, (World.rowIs_made w _ _ _).congr (fun i _ => by simp [rowF]), (Grown.refl _).alloc _ _⟩
  case round =>
    obtain ⟨k, hk, rfl, hrow, hg⟩ := hrel
    by_cases hlt : k < s.size
    · have hc := hrow.cell hlt
      have hf := hrow.frozen k
      have B : Hid (bt s k = (s[k].toNat : Int)) := bt_eq s k hlt
      by_cases h1 : 65 ≤ (s[k].toNat : Int)
      · by_cases h2 : (s[k].toNat : Int) ≤ 90
        · go_wp2
          go_roundw
          case rel => exact ⟨k + 1, by omega, by go_num, row_set hrow (by rw [B.out, lowN_up h1 h2]), hg.setCell (Nat.le_refl _) _⟩
          case measure => simp [intOf]; omega
        · go_wp2
          go_roundw
          case rel => exact ⟨k + 1, by omega, by go_num, row_set hrow (by rw [B.out, lowN_no (by omega)]), hg.setCell (Nat.le_refl _) _⟩
          case measure => simp [intOf]; omega
      · go_wp2
        go_roundw
        case rel => exact ⟨k + 1, by omega, by go_num, row_set hrow (by rw [B.out, lowN_no (by omega)]), hg.setCell (Nat.le_refl _) _⟩
        case measure => simp [intOf]; omega
    · have hk2 : k = s.size := by omega
      have hcv := back s wr w.heap.size (hk2 ▸ hrow)
      clear hk2 hrow
      go_wp2
      go_ret
      exact ⟨rfl, hg⟩

set_option maxHeartbeats 1000000 in
theorem up_any (s : ByteArray) (w : World) (hs : s.size ≤ 65536) :
    Calls Try.prog 10 #[.string s] w fun e w' => e = .returned (.bool (upB s)) ∧ w' = w := by
  go_enter Try.func10, Try.ntmps10
  go_wp2
  go_loop [3] (fun i => ∃ k : Nat, k ≤ s.size ∧ i = .int .i64 k ∧ Hid (∀ j, j < k → ¬ (65 ≤ bt s j ∧ bt s j ≤ 90))) (fun i => s.size - (intOf i).toNat)
  case atStart => exact ⟨0, Nat.zero_le _, rfl, fun j hj => absurd hj (by omega)⟩
  case round =>
    obtain ⟨k, hk, rfl, H⟩ := hrel
    by_cases hlt : k < s.size
    · have B : Hid (bt s k = (s[k].toNat : Int)) := bt_eq s k hlt
      by_cases h1 : 65 ≤ (s[k].toNat : Int)
      · by_cases h2 : (s[k].toNat : Int) ≤ 90
        · go_wp2
          go_ret
          exact ⟨ret_bool (upB_true ⟨k, hlt, by rw [B.out]; exact ⟨h1, h2⟩⟩).symm, rfl⟩
        · go_wp2
          go_round
          case rel => exact ⟨k + 1, by omega, by go_num, no_snoc H.out (by rw [B.out]; omega)⟩
          case measure => simp [intOf]; omega
      · go_wp2
        go_round
        case rel => exact ⟨k + 1, by omega, by go_num, no_snoc H.out (by rw [B.out]; omega)⟩
        case measure => simp [intOf]; omega
    · go_wp2
      go_ret
      exact ⟨ret_bool (upB_false fun ⟨j, hj, h⟩ => H.out j (by omega) h).symm, rfl⟩
end Go.Proofs.Qxb6627510a
