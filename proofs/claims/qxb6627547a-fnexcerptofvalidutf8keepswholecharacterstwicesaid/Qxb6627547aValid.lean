import Derived.Test.Qxb6627547aLeaf
import Derived.Test.Qxb6627547aPlain2
namespace Go.Proofs.Qxb6627547a
open Go.ChangeShapes Go.WideShapes Go.ChangeAt Go.RowKit
open Plain

/-- What the outer loop has read. -/
def VInv (x : ByteArray) (p k : Nat) : Prop := p = pos x k ∧ ∀ m, m < k → goodAt x (pos x m)

theorem VInv.step {x : ByteArray} {p k W : Nat} (h : VInv x p k) (hw : wid (bt x p) = W) (g : goodAt x p) : VInv x (p + W) (k + 1) :=
  ⟨by rw [pos_succ, ← h.1, hw], good_snoc h.1 h.2 g⟩

theorem VInv.one {x : ByteArray} {p k : Nat} (h : VInv x p k) (hlt : p < x.size) (hc : ((x[p]'hlt).toNat : Int) < 128) : VInv x (p + 1) (k + 1) := by
  rw [← bt_eq x p hlt] at hc
  exact h.step (wid1 hc) (good1 hlt hc)

theorem VInv.more {x : ByteArray} {p k W : Nat} (h : VInv x p k) (hlt : p < x.size) (hW : wid ((x[p]'hlt).toNat : Int) = W) (hp : p + W ≤ x.size) (h0 : 192 ≤ ((x[p]'hlt).toNat : Int)) (hp1 : p + 1 < x.size)
    (h1 : 128 ≤ ((x[p + 1]'hp1).toNat : Int) ∧ ((x[p + 1]'hp1).toNat : Int) ≤ 191) (h2 : ∀ j, 2 ≤ j → j < W → contB (bt x (p + j)) = true) : VInv x (p + W) (k + 1) := by
  rw [← bt_eq x p hlt] at hW h0
  rw [← bt_eq x (p + 1) hp1] at h1
  exact h.step hW (goodW hW hp h0 h1 h2)

theorem VInv.done {x : ByteArray} {p k : Nat} (h : VInv x p k) (hp : ¬ p < x.size) : WF x := WF_of (k := k) (by rw [← h.1]; omega) h.2

theorem two_snoc {x : ByteArray} {p q : Nat} (h : ∀ j, 2 ≤ j → j < q → contB (bt x (p + j)) = true) (hq : contB (bt x (p + q)) = true) : ∀ j, 2 ≤ j → j < q + 1 → contB (bt x (p + j)) = true := by
  intro j a b
  by_cases e : j = q
  · subst e; exact hq
  · exact h j a (by omega)

theorem nbits_no {b : Int} (h0 : 0 ≤ b) (h1 : b ≤ 255) (h : contB b = true) : (bits BinOp.and IntKind.u8 b 192 != 128) = false := by
  have := cont_of b h0 h1
  rw [h] at this
  simp [bne, this]
theorem nbits_yes {b : Int} (h0 : 0 ≤ b) (h1 : b ≤ 255) (h : contB b = false) : (bits BinOp.and IntKind.u8 b 192 != 128) = true := by
  have := cont_of b h0 h1
  rw [h] at this
  simp [bne, this]

def Said (x : ByteArray) (e : Ending) : Prop := ∃ b, e = .returned (.bool b) ∧ (b = true → WF x)
theorem said_no (x : ByteArray) : Said x (.returned (.bool false)) := ⟨false, rfl, fun h => absurd h (by decide)⟩
theorem said_yes {x : ByteArray} (h : WF x) : Said x (.returned (.bool true)) := ⟨true, rfl, fun _ => h⟩

set_option maxHeartbeats 4000000 in
set_option maxRecDepth 100000 in
theorem valid_any (x : ByteArray) (w : World) (hs : x.size ≤ 2097152) :
    Calls Try.prog 9 #[.string x] w fun e w' => Said x e ∧ w' = w := by
  go_enter Try.func9, Try.ntmps9
  go_wp2
  go_loop [3] (fun i => ∃ (p k : Nat), p ≤ x.size ∧ i = .int .i64 p ∧ Hid (VInv x p k)) (fun i => x.size - (intOf i).toNat)
  case atStart => exact ⟨0, 0, Nat.zero_le _, rfl, rfl, fun m h => absurd h (by omega)⟩
  case round =>
    obtain ⟨p, k, hp, rfl, H⟩ := hrel
    by_cases hlt : p < x.size
    · have hbd := byte_bd x[p]
      obtain ⟨hbd0, hbd1⟩ := hbd
      have L : (x[p].toNat : Int) < 128 ∨ (128 ≤ (x[p].toNat : Int) ∧ (x[p].toNat : Int) ≤ 193) ∨ (194 ≤ (x[p].toNat : Int) ∧ (x[p].toNat : Int) ≤ 223) ∨ (224 ≤ (x[p].toNat : Int) ∧ (x[p].toNat : Int) ≤ 224) ∨ (225 ≤ (x[p].toNat : Int) ∧ (x[p].toNat : Int) ≤ 236) ∨ (237 ≤ (x[p].toNat : Int) ∧ (x[p].toNat : Int) ≤ 237) ∨ (238 ≤ (x[p].toNat : Int) ∧ (x[p].toNat : Int) ≤ 238) ∨ (239 ≤ (x[p].toNat : Int) ∧ (x[p].toNat : Int) ≤ 239) ∨ (240 ≤ (x[p].toNat : Int) ∧ (x[p].toNat : Int) ≤ 240) ∨ (241 ≤ (x[p].toNat : Int) ∧ (x[p].toNat : Int) ≤ 243) ∨ (244 ≤ (x[p].toNat : Int) ∧ (x[p].toNat : Int) ≤ 244) ∨ 245 ≤ (x[p].toNat : Int) := by omega
      rcases L with c0 | ⟨c0, c1⟩ | ⟨c0, c1⟩ | ⟨c0, c1⟩ | ⟨c0, c1⟩ | ⟨c0, c1⟩ | ⟨c0, c1⟩ | ⟨c0, c1⟩ | ⟨c0, c1⟩ | ⟨c0, c1⟩ | ⟨c0, c1⟩ | c0
      · go_wp2
        go_round
        case rel => exact ⟨p + 1, k + 1, by omega, by go_num, H.out.one hlt c0⟩
        case measure => simp [intOf]; omega
      · have e238 : ((x[p].toNat : Int) == 238) = false := beq_eq_false_iff_ne.2 (by omega)
        have e239 : ((x[p].toNat : Int) == 239) = false := beq_eq_false_iff_ne.2 (by omega)
        go_wp2
        go_ret
        exact ⟨said_no x, rfl⟩
      · have e238 : ((x[p].toNat : Int) == 238) = false := beq_eq_false_iff_ne.2 (by omega)
        have e239 : ((x[p].toNat : Int) == 239) = false := beq_eq_false_iff_ne.2 (by omega)
        by_cases hw : p + 2 ≤ x.size
        · have hp1 : p + 1 < x.size := by omega
          have hb := byte_bd x[p + 1]
          obtain ⟨hb0, hb1⟩ := hb
          by_cases b0 : 128 ≤ (x[p + 1].toNat : Int)
          · by_cases b1 : (x[p + 1].toNat : Int) ≤ 191
            · go_wp2
              go_loop [9] (fun v => v = .int .i64 2) (fun _ => 0)
              case atStart => exact rfl
              case round =>
                obtain rfl := hrel
                go_wp2
                go_round
                case rel => exact ⟨p + 2, k + 1, by omega, by go_num, H.out.more hlt (wid2 (by omega) (by omega)) hw (by omega) hp1 ⟨by omega, by omega⟩ (fun j a b => absurd a (by omega))⟩
                case measure => simp [intOf]; omega
            · go_wp2
              go_ret
              exact ⟨said_no x, rfl⟩
          · go_wp2
            go_ret
            exact ⟨said_no x, rfl⟩
        · go_wp2
          go_ret
          exact ⟨said_no x, rfl⟩
      · have e238 : ((x[p].toNat : Int) == 238) = false := beq_eq_false_iff_ne.2 (by omega)
        have e239 : ((x[p].toNat : Int) == 239) = false := beq_eq_false_iff_ne.2 (by omega)
        by_cases hw : p + 3 ≤ x.size
        · have hp1 : p + 1 < x.size := by omega
          have hb := byte_bd x[p + 1]
          obtain ⟨hb0, hb1⟩ := hb
          by_cases b0 : 160 ≤ (x[p + 1].toNat : Int)
          · by_cases b1 : (x[p + 1].toNat : Int) ≤ 191
            · go_wp2
              go_loop [9] (fun v => ∃ q : Nat, 2 ≤ q ∧ q ≤ 3 ∧ v = .int .i64 q ∧ Hid (∀ j, 2 ≤ j → j < q → contB (bt x (p + j)) = true)) (fun v => 3 - (intOf v).toNat)
              case atStart => exact ⟨2, by omega, by omega, rfl, fun j a b => absurd a (by omega)⟩
              case round =>
                obtain ⟨q, hq1, hq2, rfl, J⟩ := hrel
                by_cases hq : q < 3
                · have hpq : p + q < x.size := by omega
                  obtain ⟨hc0, hc1⟩ := byte_bd x[p + q]
                  cases hcc : contB (x[p + q].toNat : Int)
                  · have hnb := nbits_yes hc0 hc1 hcc
                    clear hcc
                    go_wp2
                    go_ret
                    exact ⟨said_no x, rfl⟩
                  · have hnb := nbits_no hc0 hc1 hcc
                    have C : Hid (contB (bt x (p + q)) = true) := (congrArg contB (bt_eq x (p + q) hpq)).trans hcc
                    clear hcc
                    go_wp2
                    go_round
                    case rel => exact ⟨q + 1, by omega, by omega, by go_num, two_snoc J.out C.out⟩
                    case measure => simp [intOf]; omega
                · have QE : Hid (q = 3) := (by omega : q = 3)
                  go_wp2
                  go_round
                  case rel => exact ⟨p + 3, k + 1, by omega, by go_num, H.out.more hlt (wid3 (by omega) (by omega)) hw (by omega) hp1 ⟨by omega, by omega⟩ (fun j a b => J.out j a (by have := QE.out; omega))⟩
                  case measure => simp [intOf]; omega
            · go_wp2
              go_ret
              exact ⟨said_no x, rfl⟩
          · go_wp2
            go_ret
            exact ⟨said_no x, rfl⟩
        · go_wp2
          go_ret
          exact ⟨said_no x, rfl⟩
      · have e238 : ((x[p].toNat : Int) == 238) = false := beq_eq_false_iff_ne.2 (by omega)
        have e239 : ((x[p].toNat : Int) == 239) = false := beq_eq_false_iff_ne.2 (by omega)
        by_cases hw : p + 3 ≤ x.size
        · have hp1 : p + 1 < x.size := by omega
          have hb := byte_bd x[p + 1]
          obtain ⟨hb0, hb1⟩ := hb
          by_cases b0 : 128 ≤ (x[p + 1].toNat : Int)
          · by_cases b1 : (x[p + 1].toNat : Int) ≤ 191
            · go_wp2
              go_loop [9] (fun v => ∃ q : Nat, 2 ≤ q ∧ q ≤ 3 ∧ v = .int .i64 q ∧ Hid (∀ j, 2 ≤ j → j < q → contB (bt x (p + j)) = true)) (fun v => 3 - (intOf v).toNat)
              case atStart => exact ⟨2, by omega, by omega, rfl, fun j a b => absurd a (by omega)⟩
              case round =>
                obtain ⟨q, hq1, hq2, rfl, J⟩ := hrel
                by_cases hq : q < 3
                · have hpq : p + q < x.size := by omega
                  obtain ⟨hc0, hc1⟩ := byte_bd x[p + q]
                  cases hcc : contB (x[p + q].toNat : Int)
                  · have hnb := nbits_yes hc0 hc1 hcc
                    clear hcc
                    go_wp2
                    go_ret
                    exact ⟨said_no x, rfl⟩
                  · have hnb := nbits_no hc0 hc1 hcc
                    have C : Hid (contB (bt x (p + q)) = true) := (congrArg contB (bt_eq x (p + q) hpq)).trans hcc
                    clear hcc
                    go_wp2
                    go_round
                    case rel => exact ⟨q + 1, by omega, by omega, by go_num, two_snoc J.out C.out⟩
                    case measure => simp [intOf]; omega
                · have QE : Hid (q = 3) := (by omega : q = 3)
                  go_wp2
                  go_round
                  case rel => exact ⟨p + 3, k + 1, by omega, by go_num, H.out.more hlt (wid3 (by omega) (by omega)) hw (by omega) hp1 ⟨by omega, by omega⟩ (fun j a b => J.out j a (by have := QE.out; omega))⟩
                  case measure => simp [intOf]; omega
            · go_wp2
              go_ret
              exact ⟨said_no x, rfl⟩
          · go_wp2
            go_ret
            exact ⟨said_no x, rfl⟩
        · go_wp2
          go_ret
          exact ⟨said_no x, rfl⟩
      · have e238 : ((x[p].toNat : Int) == 238) = false := beq_eq_false_iff_ne.2 (by omega)
        have e239 : ((x[p].toNat : Int) == 239) = false := beq_eq_false_iff_ne.2 (by omega)
        by_cases hw : p + 3 ≤ x.size
        · have hp1 : p + 1 < x.size := by omega
          have hb := byte_bd x[p + 1]
          obtain ⟨hb0, hb1⟩ := hb
          by_cases b0 : 128 ≤ (x[p + 1].toNat : Int)
          · by_cases b1 : (x[p + 1].toNat : Int) ≤ 159
            · go_wp2
              go_loop [9] (fun v => ∃ q : Nat, 2 ≤ q ∧ q ≤ 3 ∧ v = .int .i64 q ∧ Hid (∀ j, 2 ≤ j → j < q → contB (bt x (p + j)) = true)) (fun v => 3 - (intOf v).toNat)
              case atStart => exact ⟨2, by omega, by omega, rfl, fun j a b => absurd a (by omega)⟩
              case round =>
                obtain ⟨q, hq1, hq2, rfl, J⟩ := hrel
                by_cases hq : q < 3
                · have hpq : p + q < x.size := by omega
                  obtain ⟨hc0, hc1⟩ := byte_bd x[p + q]
                  cases hcc : contB (x[p + q].toNat : Int)
                  · have hnb := nbits_yes hc0 hc1 hcc
                    clear hcc
                    go_wp2
                    go_ret
                    exact ⟨said_no x, rfl⟩
                  · have hnb := nbits_no hc0 hc1 hcc
                    have C : Hid (contB (bt x (p + q)) = true) := (congrArg contB (bt_eq x (p + q) hpq)).trans hcc
                    clear hcc
                    go_wp2
                    go_round
                    case rel => exact ⟨q + 1, by omega, by omega, by go_num, two_snoc J.out C.out⟩
                    case measure => simp [intOf]; omega
                · have QE : Hid (q = 3) := (by omega : q = 3)
                  go_wp2
                  go_round
                  case rel => exact ⟨p + 3, k + 1, by omega, by go_num, H.out.more hlt (wid3 (by omega) (by omega)) hw (by omega) hp1 ⟨by omega, by omega⟩ (fun j a b => J.out j a (by have := QE.out; omega))⟩
                  case measure => simp [intOf]; omega
            · go_wp2
              go_ret
              exact ⟨said_no x, rfl⟩
          · go_wp2
            go_ret
            exact ⟨said_no x, rfl⟩
        · go_wp2
          go_ret
          exact ⟨said_no x, rfl⟩
      · have e238 : ((x[p].toNat : Int) == 238) = true := beq_iff_eq.2 (by omega)
        have e239 : ((x[p].toNat : Int) == 239) = false := beq_eq_false_iff_ne.2 (by omega)
        by_cases hw : p + 3 ≤ x.size
        · have hp1 : p + 1 < x.size := by omega
          have hb := byte_bd x[p + 1]
          obtain ⟨hb0, hb1⟩ := hb
          by_cases b0 : 128 ≤ (x[p + 1].toNat : Int)
          · by_cases b1 : (x[p + 1].toNat : Int) ≤ 191
            · go_wp2
              go_loop [9] (fun v => ∃ q : Nat, 2 ≤ q ∧ q ≤ 3 ∧ v = .int .i64 q ∧ Hid (∀ j, 2 ≤ j → j < q → contB (bt x (p + j)) = true)) (fun v => 3 - (intOf v).toNat)
              case atStart => exact ⟨2, by omega, by omega, rfl, fun j a b => absurd a (by omega)⟩
              case round =>
                obtain ⟨q, hq1, hq2, rfl, J⟩ := hrel
                by_cases hq : q < 3
                · have hpq : p + q < x.size := by omega
                  obtain ⟨hc0, hc1⟩ := byte_bd x[p + q]
                  cases hcc : contB (x[p + q].toNat : Int)
                  · have hnb := nbits_yes hc0 hc1 hcc
                    clear hcc
                    go_wp2
                    go_ret
                    exact ⟨said_no x, rfl⟩
                  · have hnb := nbits_no hc0 hc1 hcc
                    have C : Hid (contB (bt x (p + q)) = true) := (congrArg contB (bt_eq x (p + q) hpq)).trans hcc
                    clear hcc
                    go_wp2
                    go_round
                    case rel => exact ⟨q + 1, by omega, by omega, by go_num, two_snoc J.out C.out⟩
                    case measure => simp [intOf]; omega
                · have QE : Hid (q = 3) := (by omega : q = 3)
                  go_wp2
                  go_round
                  case rel => exact ⟨p + 3, k + 1, by omega, by go_num, H.out.more hlt (wid3 (by omega) (by omega)) hw (by omega) hp1 ⟨by omega, by omega⟩ (fun j a b => J.out j a (by have := QE.out; omega))⟩
                  case measure => simp [intOf]; omega
            · go_wp2
              go_ret
              exact ⟨said_no x, rfl⟩
          · go_wp2
            go_ret
            exact ⟨said_no x, rfl⟩
        · go_wp2
          go_ret
          exact ⟨said_no x, rfl⟩
      · have e238 : ((x[p].toNat : Int) == 238) = false := beq_eq_false_iff_ne.2 (by omega)
        have e239 : ((x[p].toNat : Int) == 239) = true := beq_iff_eq.2 (by omega)
        by_cases hw : p + 3 ≤ x.size
        · have hp1 : p + 1 < x.size := by omega
          have hb := byte_bd x[p + 1]
          obtain ⟨hb0, hb1⟩ := hb
          by_cases b0 : 128 ≤ (x[p + 1].toNat : Int)
          · by_cases b1 : (x[p + 1].toNat : Int) ≤ 191
            · go_wp2
              go_loop [9] (fun v => ∃ q : Nat, 2 ≤ q ∧ q ≤ 3 ∧ v = .int .i64 q ∧ Hid (∀ j, 2 ≤ j → j < q → contB (bt x (p + j)) = true)) (fun v => 3 - (intOf v).toNat)
              case atStart => exact ⟨2, by omega, by omega, rfl, fun j a b => absurd a (by omega)⟩
              case round =>
                obtain ⟨q, hq1, hq2, rfl, J⟩ := hrel
                by_cases hq : q < 3
                · have hpq : p + q < x.size := by omega
                  obtain ⟨hc0, hc1⟩ := byte_bd x[p + q]
                  cases hcc : contB (x[p + q].toNat : Int)
                  · have hnb := nbits_yes hc0 hc1 hcc
                    clear hcc
                    go_wp2
                    go_ret
                    exact ⟨said_no x, rfl⟩
                  · have hnb := nbits_no hc0 hc1 hcc
                    have C : Hid (contB (bt x (p + q)) = true) := (congrArg contB (bt_eq x (p + q) hpq)).trans hcc
                    clear hcc
                    go_wp2
                    go_round
                    case rel => exact ⟨q + 1, by omega, by omega, by go_num, two_snoc J.out C.out⟩
                    case measure => simp [intOf]; omega
                · have QE : Hid (q = 3) := (by omega : q = 3)
                  go_wp2
                  go_round
                  case rel => exact ⟨p + 3, k + 1, by omega, by go_num, H.out.more hlt (wid3 (by omega) (by omega)) hw (by omega) hp1 ⟨by omega, by omega⟩ (fun j a b => J.out j a (by have := QE.out; omega))⟩
                  case measure => simp [intOf]; omega
            · go_wp2
              go_ret
              exact ⟨said_no x, rfl⟩
          · go_wp2
            go_ret
            exact ⟨said_no x, rfl⟩
        · go_wp2
          go_ret
          exact ⟨said_no x, rfl⟩
      · have e238 : ((x[p].toNat : Int) == 238) = false := beq_eq_false_iff_ne.2 (by omega)
        have e239 : ((x[p].toNat : Int) == 239) = false := beq_eq_false_iff_ne.2 (by omega)
        by_cases hw : p + 4 ≤ x.size
        · have hp1 : p + 1 < x.size := by omega
          have hb := byte_bd x[p + 1]
          obtain ⟨hb0, hb1⟩ := hb
          by_cases b0 : 144 ≤ (x[p + 1].toNat : Int)
          · by_cases b1 : (x[p + 1].toNat : Int) ≤ 191
            · go_wp2
              go_loop [9] (fun v => ∃ q : Nat, 2 ≤ q ∧ q ≤ 4 ∧ v = .int .i64 q ∧ Hid (∀ j, 2 ≤ j → j < q → contB (bt x (p + j)) = true)) (fun v => 4 - (intOf v).toNat)
              case atStart => exact ⟨2, by omega, by omega, rfl, fun j a b => absurd a (by omega)⟩
              case round =>
                obtain ⟨q, hq1, hq2, rfl, J⟩ := hrel
                by_cases hq : q < 4
                · have hpq : p + q < x.size := by omega
                  obtain ⟨hc0, hc1⟩ := byte_bd x[p + q]
                  cases hcc : contB (x[p + q].toNat : Int)
                  · have hnb := nbits_yes hc0 hc1 hcc
                    clear hcc
                    go_wp2
                    go_ret
                    exact ⟨said_no x, rfl⟩
                  · have hnb := nbits_no hc0 hc1 hcc
                    have C : Hid (contB (bt x (p + q)) = true) := (congrArg contB (bt_eq x (p + q) hpq)).trans hcc
                    clear hcc
                    go_wp2
                    go_round
                    case rel => exact ⟨q + 1, by omega, by omega, by go_num, two_snoc J.out C.out⟩
                    case measure => simp [intOf]; omega
                · have QE : Hid (q = 4) := (by omega : q = 4)
                  go_wp2
                  go_round
                  case rel => exact ⟨p + 4, k + 1, by omega, by go_num, H.out.more hlt (wid4 (by omega)) hw (by omega) hp1 ⟨by omega, by omega⟩ (fun j a b => J.out j a (by have := QE.out; omega))⟩
                  case measure => simp [intOf]; omega
            · go_wp2
              go_ret
              exact ⟨said_no x, rfl⟩
          · go_wp2
            go_ret
            exact ⟨said_no x, rfl⟩
        · go_wp2
          go_ret
          exact ⟨said_no x, rfl⟩
      · have e238 : ((x[p].toNat : Int) == 238) = false := beq_eq_false_iff_ne.2 (by omega)
        have e239 : ((x[p].toNat : Int) == 239) = false := beq_eq_false_iff_ne.2 (by omega)
        by_cases hw : p + 4 ≤ x.size
        · have hp1 : p + 1 < x.size := by omega
          have hb := byte_bd x[p + 1]
          obtain ⟨hb0, hb1⟩ := hb
          by_cases b0 : 128 ≤ (x[p + 1].toNat : Int)
          · by_cases b1 : (x[p + 1].toNat : Int) ≤ 191
            · go_wp2
              go_loop [9] (fun v => ∃ q : Nat, 2 ≤ q ∧ q ≤ 4 ∧ v = .int .i64 q ∧ Hid (∀ j, 2 ≤ j → j < q → contB (bt x (p + j)) = true)) (fun v => 4 - (intOf v).toNat)
              case atStart => exact ⟨2, by omega, by omega, rfl, fun j a b => absurd a (by omega)⟩
              case round =>
                obtain ⟨q, hq1, hq2, rfl, J⟩ := hrel
                by_cases hq : q < 4
                · have hpq : p + q < x.size := by omega
                  obtain ⟨hc0, hc1⟩ := byte_bd x[p + q]
                  cases hcc : contB (x[p + q].toNat : Int)
                  · have hnb := nbits_yes hc0 hc1 hcc
                    clear hcc
                    go_wp2
                    go_ret
                    exact ⟨said_no x, rfl⟩
                  · have hnb := nbits_no hc0 hc1 hcc
                    have C : Hid (contB (bt x (p + q)) = true) := (congrArg contB (bt_eq x (p + q) hpq)).trans hcc
                    clear hcc
                    go_wp2
                    go_round
                    case rel => exact ⟨q + 1, by omega, by omega, by go_num, two_snoc J.out C.out⟩
                    case measure => simp [intOf]; omega
                · have QE : Hid (q = 4) := (by omega : q = 4)
                  go_wp2
                  go_round
                  case rel => exact ⟨p + 4, k + 1, by omega, by go_num, H.out.more hlt (wid4 (by omega)) hw (by omega) hp1 ⟨by omega, by omega⟩ (fun j a b => J.out j a (by have := QE.out; omega))⟩
                  case measure => simp [intOf]; omega
            · go_wp2
              go_ret
              exact ⟨said_no x, rfl⟩
          · go_wp2
            go_ret
            exact ⟨said_no x, rfl⟩
        · go_wp2
          go_ret
          exact ⟨said_no x, rfl⟩
      · have e238 : ((x[p].toNat : Int) == 238) = false := beq_eq_false_iff_ne.2 (by omega)
        have e239 : ((x[p].toNat : Int) == 239) = false := beq_eq_false_iff_ne.2 (by omega)
        by_cases hw : p + 4 ≤ x.size
        · have hp1 : p + 1 < x.size := by omega
          have hb := byte_bd x[p + 1]
          obtain ⟨hb0, hb1⟩ := hb
          by_cases b0 : 128 ≤ (x[p + 1].toNat : Int)
          · by_cases b1 : (x[p + 1].toNat : Int) ≤ 143
            · go_wp2
              go_loop [9] (fun v => ∃ q : Nat, 2 ≤ q ∧ q ≤ 4 ∧ v = .int .i64 q ∧ Hid (∀ j, 2 ≤ j → j < q → contB (bt x (p + j)) = true)) (fun v => 4 - (intOf v).toNat)
              case atStart => exact ⟨2, by omega, by omega, rfl, fun j a b => absurd a (by omega)⟩
              case round =>
                obtain ⟨q, hq1, hq2, rfl, J⟩ := hrel
                by_cases hq : q < 4
                · have hpq : p + q < x.size := by omega
                  obtain ⟨hc0, hc1⟩ := byte_bd x[p + q]
                  cases hcc : contB (x[p + q].toNat : Int)
                  · have hnb := nbits_yes hc0 hc1 hcc
                    clear hcc
                    go_wp2
                    go_ret
                    exact ⟨said_no x, rfl⟩
                  · have hnb := nbits_no hc0 hc1 hcc
                    have C : Hid (contB (bt x (p + q)) = true) := (congrArg contB (bt_eq x (p + q) hpq)).trans hcc
                    clear hcc
                    go_wp2
                    go_round
                    case rel => exact ⟨q + 1, by omega, by omega, by go_num, two_snoc J.out C.out⟩
                    case measure => simp [intOf]; omega
                · have QE : Hid (q = 4) := (by omega : q = 4)
                  go_wp2
                  go_round
                  case rel => exact ⟨p + 4, k + 1, by omega, by go_num, H.out.more hlt (wid4 (by omega)) hw (by omega) hp1 ⟨by omega, by omega⟩ (fun j a b => J.out j a (by have := QE.out; omega))⟩
                  case measure => simp [intOf]; omega
            · go_wp2
              go_ret
              exact ⟨said_no x, rfl⟩
          · go_wp2
            go_ret
            exact ⟨said_no x, rfl⟩
        · go_wp2
          go_ret
          exact ⟨said_no x, rfl⟩
      · have e238 : ((x[p].toNat : Int) == 238) = false := beq_eq_false_iff_ne.2 (by omega)
        have e239 : ((x[p].toNat : Int) == 239) = false := beq_eq_false_iff_ne.2 (by omega)
        go_wp2
        go_ret
        exact ⟨said_no x, rfl⟩
    · go_wp2
      go_ret
      exact ⟨said_yes (H.out.done hlt), rfl⟩
end Go.Proofs.Qxb6627547a
