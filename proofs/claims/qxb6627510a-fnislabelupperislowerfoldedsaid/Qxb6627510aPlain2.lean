/-
  More plain mathematics: the lower-cased text.
-/
import Derived.Test.Qxb6627510aPlain
namespace Go.Proofs.Qxb6627510a.Plain

/-- An upper-case ASCII letter made lower-case. -/
def lowN (n : Int) : Int := if 65 ≤ n ∧ n ≤ 90 then n + 32 else n

theorem lowN_up {n : Int} (h : 65 ≤ n) (h' : n ≤ 90) : lowN n = n + 32 := if_pos ⟨h, h'⟩
theorem lowN_no {n : Int} (h : ¬ (65 ≤ n ∧ n ≤ 90)) : lowN n = n := if_neg h

/-- The lower-cased text. -/
def lowS (s : ByteArray) : ByteArray := ⟨((List.range s.size).map fun j => UInt8.ofNat (lowN (bt s j)).toNat).toArray⟩

theorem lowS_size (s : ByteArray) : (lowS s).size = s.size := by
  show ((List.range s.size).map fun j => UInt8.ofNat (lowN (bt s j)).toNat).toArray.size = _
  simp

theorem bt_bd (s : ByteArray) (j : Nat) : 0 ≤ bt s j ∧ bt s j ≤ 255 := by
  unfold bt
  split
  · rename_i h
    have := (s[j]'h).toNat_lt
    omega
  · omega

theorem lowN_bd {n : Int} (h : 0 ≤ n ∧ n ≤ 255) : 0 ≤ lowN n ∧ lowN n ≤ 255 := by
  unfold lowN; split <;> omega

theorem lowS_bt (s : ByteArray) (j : Nat) (h : j < s.size) : bt (lowS s) j = lowN (bt s j) := by
  have hb := lowN_bd (bt_bd s j)
  rw [bt_eq _ _ (by rw [lowS_size]; exact h)]
  have e : (lowS s)[j]'(by rw [lowS_size]; exact h) = UInt8.ofNat (lowN (bt s j)).toNat := by
    show ((List.range s.size).map fun j => UInt8.ofNat (lowN (bt s j)).toNat).toArray[j]'(by simpa using h) = _
    simp
  rw [e, UInt8.toNat_ofNat']
  omega

/-- Does s hold an upper-case letter? -/
def upB (s : ByteArray) : Bool := decide (∃ j, j < s.size ∧ 65 ≤ bt s j ∧ bt s j ≤ 90)
theorem upB_true {s : ByteArray} (h : ∃ j, j < s.size ∧ 65 ≤ bt s j ∧ bt s j ≤ 90) : upB s = true := decide_eq_true h
theorem upB_false {s : ByteArray} (h : ¬ ∃ j, j < s.size ∧ 65 ≤ bt s j ∧ bt s j ≤ 90) : upB s = false := decide_eq_false h

theorem no_snoc {s : ByteArray} {k : Nat} (h : ∀ j, j < k → ¬ (65 ≤ bt s j ∧ bt s j ≤ 90)) (hk : ¬ (65 ≤ bt s k ∧ bt s k ≤ 90)) : ∀ j, j < k + 1 → ¬ (65 ≤ bt s j ∧ bt s j ≤ 90) := by
  intro j hj
  by_cases e : j = k
  · subst e; exact hk
  · exact h j (by omega)

end Go.Proofs.Qxb6627510a.Plain
