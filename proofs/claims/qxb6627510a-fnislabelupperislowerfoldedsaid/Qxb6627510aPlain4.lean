/-
  More plain mathematics: the lower-cased text's label is the text's label with upper-case let.
-/
import Derived.Test.Qxb6627510aPlain3
namespace Go.Proofs.Qxb6627510a.Plain

theorem low_dash {n : Int} : lowN n = 45 ↔ n = 45 := by unfold lowN; split <;> omega

theorem low_alnum {n : Int} : alnumB (lowN n) false = alnumB n true := by
  unfold lowN alnumB
  split <;> (rw [decide_eq_decide]; simp; omega)

theorem ok_low (s : ByteArray) (j : Nat) (h : j < s.size) : okB (lowS s) false j = okB s true j := by
  unfold okB
  rw [lowS_bt s j h, low_alnum, decide_eq_decide.2 low_dash]

theorem label_low (s : ByteArray) : labelB (lowS s) false = labelB s true := by
  unfold labelB
  rw [decide_eq_decide, lowS_size]
  constructor
  · rintro ⟨h0, h1, h2, h3, h4⟩
    rw [lowS_bt s 0 h0, Ne, low_dash] at h2
    rw [lowS_bt s _ (by omega), Ne, low_dash] at h3
    exact ⟨h0, h1, h2, h3, fun j hj => by rw [← ok_low s j hj]; exact h4 j hj⟩
  · rintro ⟨h0, h1, h2, h3, h4⟩
    exact ⟨h0, h1, by rw [lowS_bt s 0 h0, Ne, low_dash]; exact h2, by rw [lowS_bt s _ (by omega), Ne, low_dash]; exact h3, fun j hj => by rw [ok_low s j hj]; exact h4 j hj⟩

theorem ok_false (s : ByteArray) (j : Nat) : okB s false j = true ↔ okB s true j = true ∧ ¬ (65 ≤ bt s j ∧ bt s j ≤ 90) := by
  unfold okB alnumB
  simp
  omega

theorem label_false (s : ByteArray) : labelB s false = (labelB s true && !upB s) := by
  rw [Bool.eq_iff_iff]
  unfold labelB upB
  simp only [decide_eq_true_eq, Bool.and_eq_true, Bool.not_eq_true', decide_eq_false_iff_not]
  constructor
  · rintro ⟨h0, h1, h2, h3, h4⟩
    exact ⟨⟨h0, h1, h2, h3, fun j hj => ((ok_false s j).1 (h4 j hj)).1⟩, fun ⟨j, hj, h⟩ => ((ok_false s j).1 (h4 j hj)).2 h⟩
  · rintro ⟨⟨h0, h1, h2, h3, h4⟩, h5⟩
    exact ⟨h0, h1, h2, h3, fun j hj => (ok_false s j).2 ⟨h4 j hj, fun h => h5 ⟨j, hj, h⟩⟩⟩

/-- THE PLAIN LAW. -/
theorem label_fold (s : ByteArray) (u : Bool) : labelB s u = (labelB (lowS s) false && (u || !upB s)) := by
  rw [label_low]
  cases u
  · simpa using label_false s
  · simp

end Go.Proofs.Qxb6627510a.Plain
