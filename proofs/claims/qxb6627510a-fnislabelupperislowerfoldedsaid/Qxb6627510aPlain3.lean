/-
  More plain mathematics: the pieces between the dashes.
-/
import Derived.Test.Qxb6627510aPlain2
namespace Go.Proofs.Qxb6627510a.Plain

/-- What stands at the head of the outer round k: the pieces ahead of st are read; no dash from st to k. -/
def PInv (t : ByteArray) (k st : Nat) (fb : Bool) : Prop :=
  (k ≤ t.size ∧ st ≤ k ∧ (fb = true ↔ st = 0) ∧ (0 < st → bt t 0 ≠ 45 ∧ bt t (st - 1) = 45) ∧ (∀ j, j < st → okB t false j = true) ∧ (∀ j, st ≤ j → j < k → bt t j ≠ 45)) ∨
    (k = t.size + 1 ∧ labelB t false = true)

/-- What stands at the head of the inner round: the piece's bytes from st to j are letters and digits. -/
def JInv (t : ByteArray) (st j : Nat) : Prop := ∀ i, st ≤ i → i < j → alnumB (bt t i) false = true

theorem JInv.start (t : ByteArray) (st : Nat) : JInv t st st := fun i h1 h2 => absurd h1 (by omega)
theorem JInv.next {t : ByteArray} {st j : Nat} (h : JInv t st j) (hj : alnumB (bt t j) false = true) : JInv t st (j + 1) := by
  intro i h1 h2
  by_cases e : i = j
  · subst e; exact hj
  · exact h i h1 (by omega)

theorem PInv.start (t : ByteArray) : PInv t 0 0 true :=
  Or.inl ⟨Nat.zero_le _, Nat.le_refl _, by simp, fun h => absurd h (by omega), fun j h => absurd h (by omega), fun j _ h => absurd h (by omega)⟩

theorem PInv.le {t : ByteArray} {k st : Nat} {fb : Bool} (h : PInv t k st fb) (hk : k ≤ t.size) : st ≤ k := by
  rcases h with h | h
  · exact h.2.1
  · omega

/-- A byte that is no dash. -/
theorem PInv.plain {t : ByteArray} {k st : Nat} {fb : Bool} (h : PInv t k st fb) (hk : k < t.size) (hd : bt t k ≠ 45) : PInv t (k + 1) st fb := by
  rcases h with ⟨h1, h2, h3, h4, h5, h6⟩ | h
  · refine Or.inl ⟨by omega, by omega, h3, h4, h5, fun j a b => ?_⟩
    by_cases e : j = k
    · subst e; exact hd
    · exact h6 j a (by omega)
  · omega

theorem PInv.okAll {t : ByteArray} {k st : Nat} {fb : Bool} (h : PInv t k st fb) (hk : k ≤ t.size) (hj : JInv t st k) : ∀ j, j < k → okB t false j = true := by
  rcases h with ⟨h1, h2, h3, h4, h5, h6⟩ | h
  · intro j hlt
    by_cases e : j < st
    · exact h5 j e
    · unfold okB; rw [hj j (by omega) hlt]; rfl
  · omega

/-- A dash: the piece is shut. -/
theorem PInv.dash {t : ByteArray} {k st : Nat} {fb : Bool} (h : PInv t k st fb) (hk : k < t.size) (hd : bt t k = 45) (hne : ¬ (fb = true ∧ k = st)) (hj : JInv t st k) : PInv t (k + 1) (k + 1) false := by
  have ok := h.okAll (by omega) hj
  rcases h with ⟨h1, h2, h3, h4, h5, h6⟩ | h
  · refine Or.inl ⟨by omega, Nat.le_refl _, by simp, fun _ => ⟨?_, hd⟩, ok_snoc ok (by unfold okB; simp [hd]), fun j a b => absurd a (by omega)⟩
    by_cases e : st = 0
    · refine h6 0 (by omega) ?_
      have := h3.2 e
      have : k ≠ st := fun hks => hne ⟨this, hks⟩
      omega
    · exact (h4 (by omega)).1
  · omega

/-- The end: the last piece is shut. -/
theorem PInv.last {t : ByteArray} {st : Nat} {fb : Bool} (h : PInv t t.size st fb) (h0 : 0 < t.size) (h63 : t.size ≤ 63) (hne : st < t.size) (hj : JInv t st t.size) : PInv t (t.size + 1) (t.size + 1) false := by
  have ok := h.okAll (Nat.le_refl _) hj
  rcases h with ⟨h1, h2, h3, h4, h5, h6⟩ | h
  · refine Or.inr ⟨rfl, labelB_true ⟨h0, h63, ?_, h6 _ (by omega) (by omega), ok⟩⟩
    by_cases e : st = 0
    · exact h6 0 (by omega) h0
    · exact (h4 (by omega)).1
  · omega

theorem PInv.done {t : ByteArray} {k st : Nat} {fb : Bool} (h : PInv t k st fb) (hk : ¬ k ≤ t.size) : labelB t false = true := by
  rcases h with ⟨h1, _⟩ | h
  · omega
  · exact h.2

/-- Ways that answer false. -/
theorem PInv.no_first {t : ByteArray} {k : Nat} (h : PInv t k k true) (hk : k < t.size) (hd : bt t k = 45) : labelB t false = false := by
  rcases h with ⟨h1, h2, h3, h4, h5, h6⟩ | h
  · have : k = 0 := h3.1 rfl
    subst this
    exact label_no_first hd
  · omega

theorem PInv.end_fb {t : ByteArray} (h0 : 0 < t.size) (h : PInv t t.size t.size true) : False := by
  rcases h with ⟨h1, h2, h3, h4, h5, h6⟩ | h
  · have := h3.1 rfl
    omega
  · omega

theorem PInv.no_last {t : ByteArray} {fb : Bool} (h0 : 0 < t.size) (h : PInv t t.size t.size fb) : labelB t false = false := by
  rcases h with ⟨h1, h2, h3, h4, h5, h6⟩ | h
  · exact labelB_false fun l => l.2.2.2.1 (h4 h0).2
  · omega

theorem PInv.no_char {t : ByteArray} {k st j : Nat} {fb : Bool} (h : PInv t k st fb) (hk : k ≤ t.size) (h1 : st ≤ j) (h2 : j < k) (hj : alnumB (bt t j) false = false) : labelB t false = false := by
  rcases h with ⟨_, _, _, _, _, h6⟩ | h
  · exact label_no_ok (k := j) (by omega) (by unfold okB; rw [hj]; simpa using h6 j h1 h2)
  · omega

theorem alnumF_false {n : Int} (h : ¬ ((48 ≤ n ∧ n ≤ 57) ∨ (97 ≤ n ∧ n ≤ 122))) : alnumB n false = false :=
  alnumB_false (by simp; omega)

end Go.Proofs.Qxb6627510a.Plain
