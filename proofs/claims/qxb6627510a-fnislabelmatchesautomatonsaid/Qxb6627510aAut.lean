import Derived.Test.Qxb6627510aLeaf
namespace Go.Proofs.Qxb6627510a
open Go.ChangeShapes Go.WideShapes Go.ChangeAt Go.RowKit
open Plain

set_option maxHeartbeats 1000000 in
theorem aut_any (s : ByteArray) (u : Bool) (w : World) (hs : s.size ≤ 65536) :
    Calls Try.prog 7 #[.string s, .bool u] w fun e w' => e = .returned (.bool (labelB s u)) ∧ w' = w := by
  go_enter Try.func7, Try.ntmps7
  go_wp2
  go_loop [5, 6] (fun t i => ∃ (k : Nat) (st : Int), k ≤ s.size ∧ i = .int .i64 k ∧ t = .int .i64 st ∧ Hid (AutInv s u k st)) (fun _ i => s.size - (intOf i).toNat)
  case atStart => exact ⟨0, 0, Nat.zero_le _, rfl, rfl, Or.inl ⟨rfl, rfl⟩⟩
  case round =>
    obtain ⟨k, st, hk, rfl, rfl, H⟩ := hrel
    by_cases hlt : k < s.size
    · rcases kind_cases s u k hlt with ⟨hc, ha, hb⟩ | ⟨hc, ha, hb⟩ | ⟨hc, ha, hb⟩
      · have A : Hid (bt s k = 45) := ha
        have B : Hid (okB s u k = true) := hb
        clear ha hb
        rcases H.out with ⟨rfl, rfl⟩ | ⟨hp, rfl, _⟩ | ⟨hp, rfl, _⟩
        · go_wp2_with (go_at_call 13; refine (kind_any _ _ _).mono ?_; rintro e w' ⟨rfl, rfl⟩)
          go_ret
          exact ⟨ret_bool (label_no_first A.out).symm, rfl⟩
        · go_wp2_with (go_at_call 13; refine (kind_any _ _ _).mono ?_; rintro e w' ⟨rfl, rfl⟩)
          go_round
          case rel => exact ⟨k + 1, 2, by omega, by go_num, rfl, H.out.two (by decide) A.out B.out⟩
          case measure => simp [intOf]; omega
        · go_wp2_with (go_at_call 13; refine (kind_any _ _ _).mono ?_; rintro e w' ⟨rfl, rfl⟩)
          go_round
          case rel => exact ⟨k + 1, 2, by omega, by go_num, rfl, H.out.two (by decide) A.out B.out⟩
          case measure => simp [intOf]; omega
      · have A : Hid (bt s k ≠ 45) := ha
        have B : Hid (okB s u k = true) := hb
        clear ha hb
        rcases H.out with ⟨rfl, rfl⟩ | ⟨hp, rfl, _⟩ | ⟨hp, rfl, _⟩
        · go_wp2_with (go_at_call 13; refine (kind_any _ _ _).mono ?_; rintro e w' ⟨rfl, rfl⟩)
          go_round
          case rel => exact ⟨1, 1, by omega, by go_num, rfl, H.out.one A.out B.out⟩
          case measure => simp [intOf]; omega
        · go_wp2_with (go_at_call 13; refine (kind_any _ _ _).mono ?_; rintro e w' ⟨rfl, rfl⟩)
          go_round
          case rel => exact ⟨k + 1, 1, by omega, by go_num, rfl, H.out.one A.out B.out⟩
          case measure => simp [intOf]; omega
        · go_wp2_with (go_at_call 13; refine (kind_any _ _ _).mono ?_; rintro e w' ⟨rfl, rfl⟩)
          go_round
          case rel => exact ⟨k + 1, 1, by omega, by go_num, rfl, H.out.one A.out B.out⟩
          case measure => simp [intOf]; omega
      · have B : Hid (okB s u k = false) := hb
        clear ha hb
        rcases H.out with ⟨rfl, rfl⟩ | ⟨hp, rfl, _⟩ | ⟨hp, rfl, _⟩
        · go_wp2_with (go_at_call 13; refine (kind_any _ _ _).mono ?_; rintro e w' ⟨rfl, rfl⟩)
          go_ret
          exact ⟨ret_bool (label_no_ok hlt B.out).symm, rfl⟩
        · go_wp2_with (go_at_call 13; refine (kind_any _ _ _).mono ?_; rintro e w' ⟨rfl, rfl⟩)
          go_ret
          exact ⟨ret_bool (label_no_ok hlt B.out).symm, rfl⟩
        · go_wp2_with (go_at_call 13; refine (kind_any _ _ _).mono ?_; rintro e w' ⟨rfl, rfl⟩)
          go_ret
          exact ⟨ret_bool (label_no_ok hlt B.out).symm, rfl⟩
    · have hke : k = s.size := by omega
      have KE : Hid (k = s.size) := hke
      clear hke
      rcases H.out with ⟨rfl, rfl⟩ | ⟨hp, rfl, x⟩ | ⟨hp, rfl, x⟩
      · go_wp2
        go_ret
        exact ⟨ret_bool (labelB_false fun h => by have := KE.out; omega).symm, rfl⟩
      · have X : Hid _ := x
        clear x
        by_cases h63 : s.size ≤ 63
        · go_wp2
          go_ret
          obtain ⟨x1, x2, x3⟩ := X.out
          have hk2 := KE.out
          rw [hk2] at x2 x3 hp
          exact ⟨ret_bool (by rw [labelB_true ⟨hp, h63, x1, x3, x2⟩]; exact decide_eq_true (by omega)), rfl⟩
        · go_wp2
          go_ret
          exact ⟨ret_bool (by rw [labelB_false fun h => by omega]; exact decide_eq_false (by omega)), rfl⟩
      · have X : Hid _ := x
        clear x
        go_wp2
        go_ret
        obtain ⟨x1, x2, x3⟩ := X.out
        have hk2 := KE.out
        rw [hk2] at x3
        exact ⟨ret_bool (labelB_false fun h => h.2.2.2.1 x3).symm, rfl⟩
end Go.Proofs.Qxb6627510a
