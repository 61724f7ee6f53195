import Derived.Test.Qxb6627510aLeaf
namespace Go.Proofs.Qxb6627510a
open Go.ChangeShapes Go.WideShapes Go.ChangeAt Go.RowKit
open Plain

theorem toList_ne {s : ByteArray} (h : 0 < s.size) : s.toList.isEmpty = false := by
  cases e : s.toList with
  | nil =>
    exfalso
    rw [ByteArray.toList_eq] at e
    have h2 : s.data.toList.length = s.data.size := Array.length_toList
    have h3 : s.data.size = s.size := rfl
    rw [e, List.length_nil] at h2
    omega
  | cons a l => rfl

set_option maxHeartbeats 1000000 in
theorem label_any (s : ByteArray) (u : Bool) (w : World) (hs : s.size ≤ 65536) :
    Calls Try.prog 6 #[.string s, .bool u] w fun e w' => e = .returned (.bool (labelB s u)) ∧ w' = w := by
  by_cases h0 : 0 < s.size
  · have hne := toList_ne h0
    by_cases h1 : s.size ≤ 63
    · by_cases c0 : (s[0].toNat : Int) = 45
      · have q0 : ((s[0].toNat : Int) == 45) = true := by simpa using c0
        have C : Hid ((s[0].toNat : Int) = 45) := c0
        clear c0
        go_enter Try.func6, Try.ntmps6
        go_wp2
        go_ret
        exact ⟨ret_bool (labelB_false (fun h => h.2.2.1 (by rw [bt_eq _ _ h0]; exact C.out))).symm, rfl⟩
      · have q0 : ((s[0].toNat : Int) == 45) = false := by simpa using c0
        have C0 : Hid (¬ (s[0].toNat : Int) = 45) := c0
        clear c0
        by_cases c1 : (s[s.size - 1].toNat : Int) = 45
        · have q1 : ((s[s.size - 1].toNat : Int) == 45) = true := by simpa using c1
          have C : Hid ((s[s.size - 1].toNat : Int) = 45) := c1
          clear c1
          go_enter Try.func6, Try.ntmps6
          go_wp2
          go_ret
          exact ⟨ret_bool (labelB_false (fun h => h.2.2.2.1 (by rw [bt_eq _ _ (by omega)]; exact C.out))).symm, rfl⟩
        · have q1 : ((s[s.size - 1].toNat : Int) == 45) = false := by simpa using c1
          have C1 : Hid (¬ (s[s.size - 1].toNat : Int) = 45) := c1
          clear c1
          go_enter Try.func6, Try.ntmps6
          go_wp2
          go_loop [5] (fun i => ∃ k : Nat, k ≤ s.size ∧ i = .int .i64 k ∧ Hid (∀ j, j < k → okB s u j = true)) (fun i => s.size - (intOf i).toNat)
          case atStart => exact ⟨0, Nat.zero_le _, rfl, fun j hj => absurd hj (by omega)⟩
          case round =>
            obtain ⟨k, hk, rfl, H⟩ := hrel
            by_cases hlt : k < s.size
            · by_cases a : alnumB (s[k].toNat : Int) u = true
              · go_wp2_with (go_at_call 12; refine (alnum_any _ _ _).mono ?_; rintro e w' ⟨rfl, rfl⟩)
                go_round
                case rel => exact ⟨k + 1, by omega, by go_num, ok_snoc H.out (by unfold okB; rw [bt_eq _ _ hlt, a]; rfl)⟩
                case measure => simp [intOf]; omega
              · have a' : alnumB (s[k].toNat : Int) u = false := by simpa using a
                clear a
                by_cases d : (s[k].toNat : Int) = 45
                · have d' : ((s[k].toNat : Int) != 45) = false := by simpa using d
                  have D : Hid ((s[k].toNat : Int) = 45) := d
                  clear d
                  go_wp2_with (go_at_call 12; refine (alnum_any _ _ _).mono ?_; rintro e w' ⟨rfl, rfl⟩)
                  go_round
                  case rel => exact ⟨k + 1, by omega, by go_num, ok_snoc H.out (by unfold okB; rw [bt_eq _ _ hlt, D.out]; simp)⟩
                  case measure => simp [intOf]; omega
                · have d' : ((s[k].toNat : Int) != 45) = true := by simpa using d
                  have D : Hid (¬ (s[k].toNat : Int) = 45) := d
                  clear d
                  have A : Hid (alnumB (s[k].toNat : Int) u = false) := a'
                  go_wp2_with (go_at_call 12; refine (alnum_any _ _ _).mono ?_; rintro e w' ⟨rfl, rfl⟩)
                  go_ret
                  exact ⟨ret_bool (labelB_false (fun h => by
                    have := h.2.2.2.2 k hlt
                    unfold okB at this
                    rw [bt_eq _ _ hlt, A.out] at this
                    simp at this
                    exact D.out this)).symm, rfl⟩
            · go_wp2
              go_ret
              exact ⟨ret_bool (labelB_true ⟨h0, h1, by rw [bt_eq _ _ h0]; exact C0.out, by rw [bt_eq _ _ (by omega)]; exact C1.out, fun j hj => H.out j (by omega)⟩).symm, rfl⟩
    · go_enter Try.func6, Try.ntmps6
      go_wp2
      go_ret
      exact ⟨ret_bool (labelB_false (fun h => by omega)).symm, rfl⟩
  · have hz : s = ByteArray.empty := by
      apply ByteArray.ext
      apply Array.eq_empty_of_size_eq_zero
      have : s.data.size = s.size := rfl
      omega
    subst hz
    go_enter Try.func6, Try.ntmps6
    go_wp2
    go_ret
    exact ⟨ret_bool (labelB_false (fun h => by simp at h)).symm, rfl⟩
end Go.Proofs.Qxb6627510a
