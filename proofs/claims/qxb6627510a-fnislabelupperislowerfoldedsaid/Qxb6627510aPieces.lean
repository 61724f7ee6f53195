import Derived.Test.Qxb6627510aLeaf
import Derived.Test.Qxb6627510aPlain3
namespace Go.Proofs.Qxb6627510a
open Go.ChangeShapes Go.WideShapes Go.ChangeAt Go.RowKit
open Plain

set_option maxHeartbeats 4000000 in
theorem pieces_any (t : ByteArray) (w : World) (hs : t.size ≤ 65536) :
    Calls Try.prog 11 #[.string t] w fun e w' => e = .returned (.bool (labelB t false)) ∧ w' = w := by
  by_cases h0 : 0 < t.size
  · have h0' : ((t.size : Int) == 0) = false := by simpa using (by omega : t.size ≠ 0)
    by_cases h63 : t.size ≤ 63
    · go_enter Try.func11, Try.ntmps11
      go_wp2
      clear h0'
      go_loop [3, 4, 5] (fun a b i => ∃ (k st : Nat) (fb : Bool), k ≤ t.size + 1 ∧ i = .int .i64 k ∧ a = .int .i64 st ∧ b = .bool fb ∧ Hid (PInv t k st fb)) (fun _ _ i => t.size + 1 - (intOf i).toNat)
      case atStart => exact ⟨0, 0, true, Nat.zero_le _, rfl, rfl, rfl, PInv.start t⟩
      case round =>
        obtain ⟨k, st, fb, hkn, rfl, rfl, rfl, H⟩ := hrel
        by_cases hk : k ≤ t.size
        · have hst := H.out.le hk
          by_cases hke : k = t.size
          · subst hke
            by_cases hse : st = t.size
            · subst hse
              cases fb
              · go_wp2
                go_ret
                exact ⟨ret_bool (H.out.no_last h0).symm, rfl⟩
              · exact (H.out.end_fb h0).elim
            · have hlt : st < t.size := by omega
              clear hse
              cases fb
              all_goals
                go_wp2
                go_loop [6] (fun v => ∃ j : Nat, st ≤ j ∧ j ≤ t.size ∧ v = .int .i64 j ∧ Hid (JInv t st j)) (fun v => t.size - (intOf v).toNat)
                case atStart => exact ⟨st, Nat.le_refl _, hst, rfl, JInv.start t st⟩
                case round =>
                  obtain ⟨j, hj1, hj2, rfl, J⟩ := hrel
                  by_cases hj : j < t.size
                  · have B : Hid (bt t j = (t[j].toNat : Int)) := bt_eq t j hj
                    by_cases c1 : 97 ≤ (t[j].toNat : Int)
                    · by_cases c2 : (t[j].toNat : Int) ≤ 122
                      · go_wp2
                        go_round
                        case rel => exact ⟨j + 1, by omega, by omega, by go_num, J.out.next (by rw [B.out]; exact alnumB_true (by omega))⟩
                        case measure => simp [intOf] <;> omega
                      · have c5 : decide ((t[j].toNat : Int) ≤ 57) = false := decide_eq_false (by omega)
                        go_wp2
                        go_ret
                        exact ⟨ret_bool (H.out.no_char hk hj1 hj (by rw [B.out]; exact alnumF_false (by omega))).symm, rfl⟩
                    · by_cases c3 : 48 ≤ (t[j].toNat : Int)
                      · by_cases c4 : (t[j].toNat : Int) ≤ 57
                        · go_wp2
                          go_round
                          case rel => exact ⟨j + 1, by omega, by omega, by go_num, J.out.next (by rw [B.out]; exact alnumB_true (by omega))⟩
                          case measure => simp [intOf] <;> omega
                        · go_wp2
                          go_ret
                          exact ⟨ret_bool (H.out.no_char hk hj1 hj (by rw [B.out]; exact alnumF_false (by omega))).symm, rfl⟩
                      · go_wp2
                        go_ret
                        exact ⟨ret_bool (H.out.no_char hk hj1 hj (by rw [B.out]; exact alnumF_false (by omega))).symm, rfl⟩
                  · have JE : Hid (j = t.size) := (by omega : j = t.size)
                    go_wp2
                    go_round
                    case rel => exact ⟨t.size + 1, t.size + 1, false, by omega, by go_num, by go_num, rfl, H.out.last h0 h63 hlt (JE.out ▸ J.out)⟩
                    case measure => simp [intOf] <;> omega
          · have hkl : k < t.size := by omega
            by_cases d : (t[k].toNat : Int) = 45
            · have D : Hid (bt t k = 45) := (bt_eq t k hkl).trans d
              have d' : ((t[k].toNat : Int) == 45) = true := by simpa using d
              clear d hke
              by_cases hse : fb = true ∧ k = st
              · obtain ⟨rfl, rfl⟩ := hse
                go_wp2
                go_ret
                exact ⟨ret_bool (H.out.no_first hkl D.out).symm, rfl⟩
              · have NE : Hid (¬ (fb = true ∧ k = st)) := hse
                clear hse
                have W : (fb = false ∧ st = k) ∨ st < k := by
                  by_cases e : st = k
                  · left; exact ⟨by cases fb; rfl; exact absurd ⟨rfl, e.symm⟩ NE.out, e⟩
                  · right; omega
                clear NE
                rcases W with ⟨rfl, rfl⟩ | hlt
                rotate_left
                · cases fb
                  all_goals
                    go_wp2
                    go_loop [6] (fun v => ∃ j : Nat, st ≤ j ∧ j ≤ k ∧ v = .int .i64 j ∧ Hid (JInv t st j)) (fun v => k - (intOf v).toNat)
                    case atStart => exact ⟨st, Nat.le_refl _, hst, rfl, JInv.start t st⟩
                    case round =>
                      obtain ⟨j, hj1, hj2, rfl, J⟩ := hrel
                      by_cases hj : j < k
                      · have hjt : j < t.size := by omega
                        have B : Hid (bt t j = (t[j].toNat : Int)) := bt_eq t j hjt
                        by_cases c1 : 97 ≤ (t[j].toNat : Int)
                        · by_cases c2 : (t[j].toNat : Int) ≤ 122
                          · go_wp2
                            go_round
                            case rel => exact ⟨j + 1, by omega, by omega, by go_num, J.out.next (by rw [B.out]; exact alnumB_true (by omega))⟩
                            case measure => simp [intOf] <;> omega
                          · have c5 : decide ((t[j].toNat : Int) ≤ 57) = false := decide_eq_false (by omega)
                            go_wp2
                            go_ret
                            exact ⟨ret_bool (H.out.no_char hk hj1 hj (by rw [B.out]; exact alnumF_false (by omega))).symm, rfl⟩
                        · by_cases c3 : 48 ≤ (t[j].toNat : Int)
                          · by_cases c4 : (t[j].toNat : Int) ≤ 57
                            · go_wp2
                              go_round
                              case rel => exact ⟨j + 1, by omega, by omega, by go_num, J.out.next (by rw [B.out]; exact alnumB_true (by omega))⟩
                              case measure => simp [intOf] <;> omega
                            · go_wp2
                              go_ret
                              exact ⟨ret_bool (H.out.no_char hk hj1 hj (by rw [B.out]; exact alnumF_false (by omega))).symm, rfl⟩
                          · go_wp2
                            go_ret
                            exact ⟨ret_bool (H.out.no_char hk hj1 hj (by rw [B.out]; exact alnumF_false (by omega))).symm, rfl⟩
                      · have JE : Hid (j = k) := (by omega : j = k)
                        go_wp2
                        go_round
                        case rel => exact ⟨k + 1, k + 1, false, by omega, by go_num, by go_num, rfl, H.out.dash hkl (by rw [D.out]) (fun h => absurd h.2 (by omega)) (JE.out ▸ J.out)⟩
                        case measure => simp [intOf] <;> omega
                · go_wp2
                  go_loop [6] (fun v => v = .int .i64 st) (fun _ => 0)
                  case atStart => exact rfl
                  case round =>
                    obtain rfl := hrel
                    go_wp2
                    go_round
                    case rel => exact ⟨st + 1, st + 1, false, by omega, by go_num, by go_num, rfl, H.out.dash hkl (by rw [D.out]) (fun h => absurd h.1 (by decide)) (JInv.start t st)⟩
                    case measure => simp [intOf] <;> omega
            · have D : Hid (bt t k ≠ 45) := fun h => d ((bt_eq t k hkl).symm.trans h)
              have d' : ((t[k].toNat : Int) == 45) = false := by simpa using d
              clear d hke
              cases fb
              all_goals
                go_wp2
                go_round
                case rel => exact ⟨k + 1, st, _, by omega, by go_num, rfl, rfl, H.out.plain hkl D.out⟩
                case measure => simp [intOf] <;> omega
        · go_wp2
          go_ret
          exact ⟨ret_bool (H.out.done hk).symm, rfl⟩
    · go_enter Try.func11, Try.ntmps11
      go_wp2
      go_ret
      exact ⟨ret_bool (labelB_false (fun h => by omega)).symm, rfl⟩
  · have h0' : ((t.size : Int) == 0) = true := by simpa using (by omega : t.size = 0)
    go_enter Try.func11, Try.ntmps11
    go_wp2
    go_ret
    exact ⟨ret_bool (labelB_false (fun h => by omega)).symm, rfl⟩
end Go.Proofs.Qxb6627510a
