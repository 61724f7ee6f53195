/-
  Plain mathematics of the excerpt laws: no Go in sight.
-/
namespace Go.Proofs.Qxb6627547a.Plain

/-- Byte j of s; 0 behind its end. -/
def bt (s : ByteArray) (j : Nat) : Int := if h : j < s.size then ((s[j]'h).toNat : Int) else 0

theorem bt_eq (s : ByteArray) (j : Nat) (h : j < s.size) : bt s j = ((s[j]'h).toNat : Int) := dif_pos h

theorem bt_bd (s : ByteArray) (j : Nat) : 0 ≤ bt s j ∧ bt s j ≤ 255 := by
  unfold bt
  split
  · rename_i h
    have := (s[j]'h).toNat_lt
    omega
  · omega

/-- A continuation byte. -/
def contB (n : Int) : Bool := decide (128 ≤ n ∧ n ≤ 191)

theorem contB_true {n : Int} : contB n = true ↔ 128 ≤ n ∧ n ≤ 191 := by simp [contB]
theorem contB_false {n : Int} : contB n = false ↔ ¬ (128 ≤ n ∧ n ≤ 191) := by simp [contB]

/-- How many bytes a long text's excerpt keeps. -/
def cutN (s : ByteArray) : Nat := if contB (bt s 60) = false then 60 else if contB (bt s 59) = false then 59 else if contB (bt s 58) = false then 58 else 57

theorem cutN_bd (s : ByteArray) : 57 ≤ cutN s ∧ cutN s ≤ 60 := by
  unfold cutN
  split
  · omega
  · split
    · omega
    · split <;> omega

theorem cutN_of {s : ByteArray} {n : Nat} (h1 : 57 ≤ n) (h2 : n ≤ 60) (hc : ∀ j, n < j → j ≤ 60 → contB (bt s j) = true) (hn : 57 < n → contB (bt s n) = false) : cutN s = n := by
  unfold cutN
  have h : n = 60 ∨ n = 59 ∨ n = 58 ∨ n = 57 := by omega
  rcases h with rfl | rfl | rfl | rfl
  · rw [if_pos (hn (by omega))]
  · rw [if_neg (by rw [hc 60 (by omega) (by omega)]; decide), if_pos (hn (by omega))]
  · rw [if_neg (by rw [hc 60 (by omega) (by omega)]; decide), if_neg (by rw [hc 59 (by omega) (by omega)]; decide), if_pos (hn (by omega))]
  · rw [if_neg (by rw [hc 60 (by omega) (by omega)]; decide), if_neg (by rw [hc 59 (by omega) (by omega)]; decide), if_neg (by rw [hc 58 (by omega) (by omega)]; decide)]

theorem cutN_cont (s : ByteArray) : ∀ j, cutN s < j → j ≤ 60 → contB (bt s j) = true := by
  intro j h1 h2
  unfold cutN at h1
  split at h1
  · omega
  · rename_i a
    split at h1
    · have : j = 60 := by omega
      subst this; simpa using a
    · rename_i b
      split at h1
      · have : j = 60 ∨ j = 59 := by omega
        rcases this with rfl | rfl
        · simpa using a
        · simpa using b
      · rename_i c
        have : j = 60 ∨ j = 59 ∨ j = 58 := by omega
        rcases this with rfl | rfl | rfl
        · simpa using a
        · simpa using b
        · simpa using c

theorem cutN_start (s : ByteArray) (h : 57 < cutN s) : contB (bt s (cutN s)) = false := by
  unfold cutN at h ⊢
  split
  · assumption
  · split
    · assumption
    · split
      · assumption
      · rename_i a b c
        rw [if_neg a, if_neg b, if_neg c] at h
        omega

/-- The excerpt. -/
def exS (s : ByteArray) : ByteArray := if s.size ≤ 60 then s else s.extract 0 (cutN s) ++ ⟨#[46, 46, 46]⟩

theorem exS_short {s : ByteArray} (h : s.size ≤ 60) : exS s = s := if_pos h
theorem exS_long {s : ByteArray} (h : ¬ s.size ≤ 60) : exS s = s.extract 0 (cutN s) ++ ⟨#[46, 46, 46]⟩ := if_neg h

/-! Bytes of a join and of a head -/

theorem dots_size : (⟨#[46, 46, 46]⟩ : ByteArray).size = 3 := rfl

theorem bt_app_left (s t : ByteArray) (j : Nat) (h : j < s.size) : bt (s ++ t) j = bt s j := by
  rw [bt_eq s j h, bt_eq (s ++ t) j (by rw [ByteArray.size_append]; omega), ByteArray.getElem_append_left h]

theorem bt_app_right (s t : ByteArray) (j : Nat) (h : s.size ≤ j) : bt (s ++ t) j = bt t (j - s.size) := by
  by_cases e : j < s.size + t.size
  · rw [bt_eq (s ++ t) j (by rw [ByteArray.size_append]; omega), bt_eq t (j - s.size) (by omega), ByteArray.getElem_append_right h]
  · unfold bt
    rw [dif_neg (by rw [ByteArray.size_append]; omega), dif_neg (by omega)]

theorem size_head (s : ByteArray) (n : Nat) (h : n ≤ s.size) : (s.extract 0 n).size = n := by
  rw [ByteArray.size_extract]; omega

theorem bt_head (s : ByteArray) (n j : Nat) (h : n ≤ s.size) (hj : j < n) : bt (s.extract 0 n) j = bt s j := by
  rw [bt_eq _ j (by rw [size_head s n h]; exact hj), bt_eq s j (by omega), ByteArray.getElem_extract]
  simp

theorem bt_dots (j : Nat) (h : j < 3) : bt ⟨#[46, 46, 46]⟩ j = 46 := by
  have : j = 0 ∨ j = 1 ∨ j = 2 := by omega
  rcases this with rfl | rfl | rfl <;> rfl

/-- Two texts of one size and the same bytes are one. -/
theorem ext_bt {s t : ByteArray} (hs : s.size = t.size) (h : ∀ j, j < s.size → bt s j = bt t j) : s = t := by
  apply ByteArray.ext_getElem hs
  intro j h1 h2
  have := h j h1
  rw [bt_eq s j h1, bt_eq t j h2] at this
  exact UInt8.toNat_inj.1 (by omega)

theorem head_app (s t : ByteArray) (n : Nat) (h : n ≤ s.size) : (s ++ t).extract 0 n = s.extract 0 n := by
  have e : n ≤ (s ++ t).size := by rw [ByteArray.size_append]; omega
  apply ext_bt
  · rw [size_head _ _ e, size_head _ _ h]
  · intro j hj
    rw [size_head _ _ e] at hj
    rw [bt_head _ _ _ e hj, bt_head _ _ _ h hj, bt_app_left _ _ _ (by omega)]

theorem cutN_app (s t : ByteArray) (h : 60 < s.size) : cutN (s ++ t) = cutN s := by
  unfold cutN
  rw [bt_app_left _ _ 60 h, bt_app_left _ _ 59 (by omega), bt_app_left _ _ 58 (by omega)]

/-- What is put behind a long text does not change its excerpt. -/
theorem exS_app (s t : ByteArray) (h : 60 < s.size) : exS (s ++ t) = exS s := by
  rw [exS_long (by rw [ByteArray.size_append]; omega), exS_long (by omega), cutN_app s t h, head_app _ _ _ (by have := cutN_bd s; omega)]

/-! The excerpt of a long text, byte for byte -/
theorem exL_size {s : ByteArray} (h : 60 < s.size) : (exS s).size = cutN s + 3 := by
  have := cutN_bd s
  rw [exS_long (by omega), ByteArray.size_append, size_head _ _ (by omega), dots_size]

theorem exL_head {s : ByteArray} (h : 60 < s.size) : (exS s).extract 0 (cutN s) = s.extract 0 (cutN s) := by
  have := cutN_bd s
  have e := size_head s (cutN s) (by omega)
  rw [exS_long (by omega), head_app _ _ _ (by omega)]
  apply ext_bt
  · rw [size_head _ _ (by omega)]; exact e.symm
  · intro j hj
    rw [size_head _ _ (by omega)] at hj
    rw [bt_head _ _ _ (by omega) hj]

theorem exL_dots {s : ByteArray} (h : 60 < s.size) (j : Nat) (h1 : cutN s ≤ j) (h2 : j < cutN s + 3) : bt (exS s) j = 46 := by
  have := cutN_bd s
  have e := size_head s (cutN s) (by omega)
  rw [exS_long (by omega), bt_app_right _ _ _ (by omega), e]
  exact bt_dots _ (by omega)

theorem exL_bt {s : ByteArray} (h : 60 < s.size) (j : Nat) (h1 : j < cutN s) : bt (exS s) j = bt s j := by
  have := cutN_bd s
  have e := size_head s (cutN s) (by omega)
  rw [exS_long (by omega), bt_app_left _ _ _ (by omega), bt_head _ _ _ (by omega) h1]

end Go.Proofs.Qxb6627547a.Plain
