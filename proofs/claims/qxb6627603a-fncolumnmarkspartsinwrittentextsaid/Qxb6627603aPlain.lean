/-
  Plain mathematics of the column laws: what stands where in a text that is put together. No Go in sight.
-/
namespace Go.Proofs.Qxb6627603a.Plain

/-- Byte j of s; 0 behind its end. -/
def bt (s : ByteArray) (j : Nat) : Int := if h : j < s.size then ((s[j]'h).toNat : Int) else 0

theorem bt_eq (s : ByteArray) (j : Nat) (h : j < s.size) : bt s j = ((s[j]'h).toNat : Int) := dif_pos h

theorem bt_app_left (s t : ByteArray) (j : Nat) (h : j < s.size) : bt (s ++ t) j = bt s j := by
  rw [bt_eq s j h, bt_eq (s ++ t) j (by rw [ByteArray.size_append]; omega), ByteArray.getElem_append_left h]

theorem bt_app_right (s t : ByteArray) (j : Nat) (h : s.size ≤ j) : bt (s ++ t) j = bt t (j - s.size) := by
  by_cases e : j < s.size + t.size
  · rw [bt_eq (s ++ t) j (by rw [ByteArray.size_append]; omega), bt_eq t (j - s.size) (by omega), ByteArray.getElem_append_right h]
  · unfold bt
    rw [dif_neg (by rw [ByteArray.size_append]; omega), dif_neg (by omega)]

theorem size_mid (s : ByteArray) (m n : Nat) (h : n ≤ s.size) : (s.extract m n).size = n - m := by
  rw [ByteArray.size_extract]; omega

theorem bt_mid (s : ByteArray) (m n j : Nat) (h : n ≤ s.size) (hj : j < n - m) : bt (s.extract m n) j = bt s (m + j) := by
  rw [bt_eq _ j (by rw [size_mid s m n h]; exact hj), bt_eq s (m + j) (by omega), ByteArray.getElem_extract]

/-- Two texts of one size and the same bytes are one. -/
theorem ext_bt {s t : ByteArray} (hs : s.size = t.size) (h : ∀ j, j < s.size → bt s j = bt t j) : s = t := by
  apply ByteArray.ext_getElem hs
  intro j h1 h2
  have := h j h1
  rw [bt_eq s j h1, bt_eq t j h2] at this
  exact UInt8.toNat_inj.1 (by omega)

theorem size3 (a b : ByteArray) : (a ++ (⟨#[58]⟩ : ByteArray) ++ b).size = a.size + 1 + b.size := by
  rw [ByteArray.size_append, ByteArray.size_append]; rfl

theorem size6 (h c : ByteArray) : (h ++ (⟨#[35]⟩ : ByteArray) ++ c ++ (⟨#[64]⟩ : ByteArray)).size = h.size + 1 + c.size + 1 := by
  rw [ByteArray.size_append, ByteArray.size_append, ByteArray.size_append]; rfl

theorem size5 (h c : ByteArray) : (h ++ (⟨#[35]⟩ : ByteArray) ++ c).size = h.size + 1 + c.size := by
  rw [ByteArray.size_append, ByteArray.size_append]; rfl

theorem size4 (h : ByteArray) : (h ++ (⟨#[35]⟩ : ByteArray)).size = h.size + 1 := by
  rw [ByteArray.size_append]; rfl

/-- The written text begins with the object. -/
theorem head6 (h c : ByteArray) : (h ++ (⟨#[35]⟩ : ByteArray) ++ c ++ (⟨#[64]⟩ : ByteArray)).extract 0 h.size = h := by
  have z := size6 h c
  have z5 := size5 h c
  have z4 := size4 h
  apply ext_bt
  · rw [size_mid _ _ _ (by omega)]; omega
  · intro j hj
    rw [size_mid _ _ _ (by omega)] at hj
    rw [bt_mid _ _ _ _ (by omega) hj, Nat.zero_add, bt_app_left _ _ _ (by omega), bt_app_left _ _ _ (by omega), bt_app_left _ _ _ (by omega)]

/-- Behind it the sharp. -/
theorem sharp6 (h c : ByteArray) : bt (h ++ (⟨#[35]⟩ : ByteArray) ++ c ++ (⟨#[64]⟩ : ByteArray)) h.size = 35 := by
  have z5 := size5 h c
  have z4 := size4 h
  rw [bt_app_left _ _ _ (by omega), bt_app_left _ _ _ (by omega), bt_app_right _ _ _ (Nat.le_refl _), Nat.sub_self]
  rfl

/-- Then the relation. -/
theorem mid6 (h c : ByteArray) : (h ++ (⟨#[35]⟩ : ByteArray) ++ c ++ (⟨#[64]⟩ : ByteArray)).extract (h.size + 1) (h.size + 1 + c.size) = c := by
  have z := size6 h c
  have z5 := size5 h c
  have z4 := size4 h
  apply ext_bt
  · rw [size_mid _ _ _ (by omega)]; omega
  · intro j hj
    rw [size_mid _ _ _ (by omega)] at hj
    rw [bt_mid _ _ _ _ (by omega) hj, bt_app_left _ _ _ (by omega), bt_app_right _ _ _ (by omega), z4]
    congr 1
    omega

/-- Then the at. -/
theorem at6 (h c : ByteArray) : bt (h ++ (⟨#[35]⟩ : ByteArray) ++ c ++ (⟨#[64]⟩ : ByteArray)) (h.size + 1 + c.size) = 64 := by
  have z5 := size5 h c
  rw [bt_app_right _ _ _ (by omega), z5, Nat.sub_self]
  rfl

end Go.Proofs.Qxb6627603a.Plain
