/-
  Plain mathematics of the label laws: no Go in sight.
-/
namespace Go.Proofs.Qxb6627510a.Plain

/-- An ASCII digit or lower-case letter, or an upper-case one where u. -/
def alnumB (n : Int) (u : Bool) : Bool :=
  decide ((48 ≤ n ∧ n ≤ 57) ∨ (97 ≤ n ∧ n ≤ 122) ∨ (u = true ∧ 65 ≤ n ∧ n ≤ 90))

theorem alnumB_true {n : Int} {u : Bool} (h : (48 ≤ n ∧ n ≤ 57) ∨ (97 ≤ n ∧ n ≤ 122) ∨ (u = true ∧ 65 ≤ n ∧ n ≤ 90)) : alnumB n u = true := decide_eq_true h
theorem alnumB_false {n : Int} {u : Bool} (h : ¬ ((48 ≤ n ∧ n ≤ 57) ∨ (97 ≤ n ∧ n ≤ 122) ∨ (u = true ∧ 65 ≤ n ∧ n ≤ 90))) : alnumB n u = false := decide_eq_false h

theorem alnumB_of {n : Int} {u b : Bool} (h : (b = true) ↔ ((48 ≤ n ∧ n ≤ 57) ∨ (97 ≤ n ∧ n ≤ 122) ∨ (u = true ∧ 65 ≤ n ∧ n ≤ 90))) : b = alnumB n u := by
  rw [Bool.eq_iff_iff, h]; simp [alnumB]

/-- The kind of a byte: 2 the dash, 1 a letter or digit, 0 else. -/
def kindI (n : Int) (u : Bool) : Int := if n = 45 then 2 else if alnumB n u = true then 1 else 0

/-- Byte j of s; 0 behind its end. -/
def bt (s : ByteArray) (j : Nat) : Int := if h : j < s.size then ((s[j]'h).toNat : Int) else 0

theorem bt_eq (s : ByteArray) (j : Nat) (h : j < s.size) : bt s j = ((s[j]'h).toNat : Int) := dif_pos h

/-- May byte j of s stand in a label? -/
def okB (s : ByteArray) (u : Bool) (j : Nat) : Bool := alnumB (bt s j) u || decide (bt s j = 45)

/-- s is a label. -/
def labelB (s : ByteArray) (u : Bool) : Bool :=
  decide (0 < s.size ∧ s.size ≤ 63 ∧ bt s 0 ≠ 45 ∧ bt s (s.size - 1) ≠ 45 ∧ ∀ j, j < s.size → okB s u j = true)

theorem labelB_false {s : ByteArray} {u : Bool} (h : ¬ (0 < s.size ∧ s.size ≤ 63 ∧ bt s 0 ≠ 45 ∧ bt s (s.size - 1) ≠ 45 ∧ ∀ j, j < s.size → okB s u j = true)) : labelB s u = false := decide_eq_false h
theorem labelB_true {s : ByteArray} {u : Bool} (h : 0 < s.size ∧ s.size ≤ 63 ∧ bt s 0 ≠ 45 ∧ bt s (s.size - 1) ≠ 45 ∧ ∀ j, j < s.size → okB s u j = true) : labelB s u = true := decide_eq_true h

theorem ok_snoc {s : ByteArray} {u : Bool} {k : Nat} (h : ∀ j, j < k → okB s u j = true) (hk : okB s u k = true) : ∀ j, j < k + 1 → okB s u j = true := by
  intro j hj
  by_cases e : j = k
  · subst e; exact hk
  · exact h j (by omega)

theorem kind_cases (s : ByteArray) (u : Bool) (k : Nat) (h : k < s.size) :
    (kindI ((s[k]'h).toNat : Int) u = 2 ∧ bt s k = 45 ∧ okB s u k = true) ∨
    (kindI ((s[k]'h).toNat : Int) u = 1 ∧ bt s k ≠ 45 ∧ okB s u k = true) ∨
    (kindI ((s[k]'h).toNat : Int) u = 0 ∧ bt s k ≠ 45 ∧ okB s u k = false) := by
  unfold okB kindI
  rw [bt_eq _ _ h]
  by_cases e : ((s[k]'h).toNat : Int) = 45
  · left; simp [e]
  · right
    cases a : alnumB ((s[k]'h).toNat : Int) u
    · right; simp [e]
    · left; simp [e]

/-- What the automaton's state st says behind the first k bytes. -/
def AutInv (s : ByteArray) (u : Bool) (k : Nat) (st : Int) : Prop :=
  (k = 0 ∧ st = 0) ∨ (0 < k ∧ st = 1 ∧ bt s 0 ≠ 45 ∧ (∀ j, j < k → okB s u j = true) ∧ bt s (k - 1) ≠ 45) ∨
    (0 < k ∧ st = 2 ∧ bt s 0 ≠ 45 ∧ (∀ j, j < k → okB s u j = true) ∧ bt s (k - 1) = 45)

theorem AutInv.one {s : ByteArray} {u : Bool} {k : Nat} {st : Int} (h : AutInv s u k st) (a : bt s k ≠ 45) (b : okB s u k = true) : AutInv s u (k + 1) 1 := by
  rcases h with ⟨rfl, _⟩ | ⟨_, _, h0, h1, _⟩ | ⟨_, _, h0, h1, _⟩
  · exact Or.inr (Or.inl ⟨by omega, rfl, a, ok_snoc (fun j hj => absurd hj (by omega)) b, a⟩)
  · exact Or.inr (Or.inl ⟨by omega, rfl, h0, ok_snoc h1 b, a⟩)
  · exact Or.inr (Or.inl ⟨by omega, rfl, h0, ok_snoc h1 b, a⟩)

theorem AutInv.two {s : ByteArray} {u : Bool} {k : Nat} {st : Int} (h : AutInv s u k st) (hst : st ≠ 0) (a : bt s k = 45) (b : okB s u k = true) : AutInv s u (k + 1) 2 := by
  rcases h with ⟨_, h⟩ | ⟨_, _, h0, h1, _⟩ | ⟨_, _, h0, h1, _⟩
  · exact absurd h hst
  · exact Or.inr (Or.inr ⟨by omega, rfl, h0, ok_snoc h1 b, a⟩)
  · exact Or.inr (Or.inr ⟨by omega, rfl, h0, ok_snoc h1 b, a⟩)

theorem label_no_ok {s : ByteArray} {u : Bool} {k : Nat} (hk : k < s.size) (b : okB s u k = false) : labelB s u = false :=
  labelB_false fun h => by have := h.2.2.2.2 k hk; rw [b] at this; exact absurd this (by decide)

theorem label_no_first {s : ByteArray} {u : Bool} (b : bt s 0 = 45) : labelB s u = false := labelB_false fun h => h.2.2.1 b

end Go.Proofs.Qxb6627510a.Plain
