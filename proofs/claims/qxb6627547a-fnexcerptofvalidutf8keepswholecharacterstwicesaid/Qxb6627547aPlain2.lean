/-
  More plain mathematics: texts that are chains of whole characters.
-/
import Derived.Test.Qxb6627547aPlain
namespace Go.Proofs.Qxb6627547a.Plain

/-- The width of the character that the byte n opens. -/
def wid (n : Int) : Nat := if n < 128 then 1 else if n < 224 then 2 else if n < 240 then 3 else 4

theorem wid_bd (n : Int) : 1 ≤ wid n ∧ wid n ≤ 4 := by
  unfold wid; split <;> (try split) <;> (try split) <;> omega

theorem wid1 {n : Int} (h : n < 128) : wid n = 1 := if_pos h
theorem wid2 {n : Int} (h : 128 ≤ n) (h' : n < 224) : wid n = 2 := by unfold wid; rw [if_neg (by omega), if_pos h']
theorem wid3 {n : Int} (h : 224 ≤ n) (h' : n < 240) : wid n = 3 := by unfold wid; rw [if_neg (by omega), if_neg (by omega), if_pos h']
theorem wid4 {n : Int} (h : 240 ≤ n) : wid n = 4 := by unfold wid; rw [if_neg (by omega), if_neg (by omega), if_neg (by omega)]

/-- A whole character stands at i. -/
def goodAt (x : ByteArray) (i : Nat) : Prop :=
  i + wid (bt x i) ≤ x.size ∧ contB (bt x i) = false ∧ ∀ j, i < j → j < i + wid (bt x i) → contB (bt x j) = true

/-- Where character k begins. -/
def pos (x : ByteArray) : Nat → Nat
  | 0 => 0
  | k + 1 => pos x k + wid (bt x (pos x k))

theorem pos_succ (x : ByteArray) (k : Nat) : pos x (k + 1) = pos x k + wid (bt x (pos x k)) := rfl

theorem pos_lt (x : ByteArray) (k : Nat) : pos x k < pos x (k + 1) := by
  rw [pos_succ]; have := wid_bd (bt x (pos x k)); omega

theorem pos_mono (x : ByteArray) {a b : Nat} (h : a ≤ b) : pos x a ≤ pos x b := by
  induction b with
  | zero => have : a = 0 := by omega
            subst this; exact Nat.le_refl _
  | succ b ih =>
    by_cases e : a = b + 1
    · subst e; exact Nat.le_refl _
    · have := ih (by omega)
      have := pos_lt x b
      omega

/-- The text is a chain of whole characters. -/
def WF (x : ByteArray) : Prop := ∀ k, pos x k < x.size → goodAt x (pos x k)

theorem WF_of {x : ByteArray} {k : Nat} (hk : x.size ≤ pos x k) (h : ∀ m, m < k → goodAt x (pos x m)) : WF x := by
  intro m hm
  apply h
  by_cases e : m < k
  · exact e
  · have := pos_mono x (show k ≤ m by omega)
    omega

theorem good_snoc {x : ByteArray} {k p : Nat} (hp : p = pos x k) (h : ∀ m, m < k → goodAt x (pos x m)) (g : goodAt x p) : ∀ m, m < k + 1 → goodAt x (pos x m) := by
  intro m hm
  by_cases e : m = k
  · subst e; rw [← hp]; exact g
  · exact h m (by omega)

/-- Where the forward walk stops, there the cut falls. -/
theorem cutN_pos {x : ByteArray} (hx : 60 < x.size) (wf : WF x) {k : Nat} (h1 : pos x k ≤ 60) (h2 : 60 < pos x (k + 1)) : cutN x = pos x k := by
  obtain ⟨g1, g2, g3⟩ := wf k (by omega)
  have hw := wid_bd (bt x (pos x k))
  rw [pos_succ] at h2
  exact cutN_of (by omega) h1 (fun j a b => g3 j a (by omega)) (fun _ => g2)

/-- There is a character at which the forward walk stops. -/
theorem stop_ex (x : ByteArray) : ∃ k, pos x k ≤ 60 ∧ 60 < pos x (k + 1) := by
  have far : ∀ k, k ≤ pos x k := by
    intro k
    induction k with
    | zero => exact Nat.zero_le _
    | succ k ih => have := pos_lt x k; omega
  have step : ∀ n, (∃ k, k < n ∧ pos x k ≤ 60 ∧ 60 < pos x (k + 1)) ∨ pos x n ≤ 60 := by
    intro n
    induction n with
    | zero => right; show 0 ≤ 60; omega
    | succ n ih =>
      rcases ih with ⟨k, a, b⟩ | h
      · exact Or.inl ⟨k, by omega, b⟩
      · by_cases e : pos x (n + 1) ≤ 60
        · exact Or.inr e
        · exact Or.inl ⟨n, by omega, h, by omega⟩
  rcases step 61 with ⟨k, _, b⟩ | h
  · exact ⟨k, b⟩
  · have := far 61; omega

/-- The excerpt of such a text is such a text. -/
theorem WF_ex {x : ByteArray} (hx : 60 < x.size) (wf : WF x) : WF (exS x) := by
  obtain ⟨K, k1, k2⟩ := stop_ex x
  have hn := cutN_pos hx wf k1 k2
  have hz := exL_size hx
  have hb := cutN_bd x
  -- the positions up to the cut are the same
  have same : ∀ m, m ≤ K → pos (exS x) m = pos x m := by
    intro m
    induction m with
    | zero => intro _; rfl
    | succ m ih =>
      intro h
      have e := ih (by omega)
      have l : pos x m < pos x K := by
        have := pos_lt x m
        have := pos_mono x (show m + 1 ≤ K by omega)
        omega
      rw [pos_succ, pos_succ, e, exL_bt hx _ (by omega)]
  have dot : ∀ j, cutN x ≤ j → j < cutN x + 3 → wid (bt (exS x) j) = 1 := by
    intro j a b
    rw [exL_dots hx j a b]; rfl
  -- behind it, one a dot
  have tail : ∀ d, d ≤ 3 → pos (exS x) (K + d) = cutN x + d := by
    intro d
    induction d with
    | zero => intro _; rw [Nat.add_zero, same K (Nat.le_refl _), hn]; rfl
    | succ d ih =>
      intro h
      have e := ih (by omega)
      rw [show K + (d + 1) = (K + d) + 1 from rfl, pos_succ, e, dot _ (by omega) (by omega)]
      omega
  refine WF_of (k := K + 3) (by rw [tail 3 (Nat.le_refl _), hz]; exact Nat.le_refl _) ?_
  intro m hm
  by_cases e : m < K
  · rw [same m (by omega)]
    have l1 := pos_mono x (show m + 1 ≤ K by omega)
    have l2 := pos_lt x m
    obtain ⟨g1, g2, g3⟩ := wf m (by omega)
    have eb := exL_bt hx (pos x m) (by omega)
    rw [pos_succ] at l1
    refine ⟨by rw [eb, hz]; omega, by rw [eb]; exact g2, fun j a b => ?_⟩
    rw [eb] at b
    rw [exL_bt hx j (by omega)]
    exact g3 j a b
  · obtain ⟨d, rfl⟩ : ∃ d, m = K + d := ⟨m - K, by omega⟩
    rw [tail d (by omega)]
    have ed := exL_dots hx (cutN x + d) (by omega) (by omega)
    have ew := dot (cutN x + d) (by omega) (by omega)
    refine ⟨by rw [ew, hz]; omega, by rw [ed]; rfl, fun j a b => ?_⟩
    rw [ew] at b
    omega

/-! A whole character, width by width -/
theorem good1 {x : ByteArray} {p : Nat} (hp : p < x.size) (h : bt x p < 128) : goodAt x p := by
  have w := wid1 h
  have hb := bt_bd x p
  refine ⟨by rw [w]; omega, contB_false.2 (by omega), fun j a b => ?_⟩
  rw [w] at b; omega

theorem goodW {x : ByteArray} {p W : Nat} (hw : wid (bt x p) = W) (hp : p + W ≤ x.size) (h0 : 192 ≤ bt x p) (h1 : 128 ≤ bt x (p + 1) ∧ bt x (p + 1) ≤ 191) (h2 : ∀ j, 2 ≤ j → j < W → contB (bt x (p + j)) = true) : goodAt x p := by
  refine ⟨by rw [hw]; exact hp, contB_false.2 (by omega), fun j a b => ?_⟩
  rw [hw] at b
  obtain ⟨d, rfl⟩ : ∃ d, j = p + d := ⟨j - p, by omega⟩
  by_cases e : d = 1
  · subst e; exact contB_true.2 h1
  · exact h2 d (by omega) (by omega)

end Go.Proofs.Qxb6627547a.Plain
