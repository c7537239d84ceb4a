/-
  PLAIN MATHEMATICS ON NUMERALS: no Go in sight.
-/
namespace Go.Proofs.Qxb6000725a.Num

/-- A byte that is a decimal digit. -/
def isD (c : UInt8) : Bool := decide (48 ≤ c.toNat) && decide (c.toNat ≤ 57)
/-- How many digits a text has. -/
def dig (l : List UInt8) : Nat := (l.filter isD).length
/-- The bytes of s from a up to b are digits. -/
def AllD (s : ByteArray) (a b : Nat) : Prop := ∀ j, a ≤ j → j < b → isD (s.data.toList.getD j 0) = true
/-- st is where the digits begin: behind a minus sign, if there is one. -/
def Sg (s : ByteArray) (st : Nat) : Prop := (st = 0 ∧ s.data.toList.getD 0 0 ≠ 45) ∨ (st = 1 ∧ s.data.toList.getD 0 0 = 45)
/-- A well-formed numeral with a digits behind its point. -/
def Wf (s : ByteArray) (a : Int) : Prop := ∃ st k : Nat, Sg s st ∧ st < k ∧ AllD s st k ∧ ((k = s.size ∧ a = 0) ∨
  (k + 1 < s.size ∧ s.data.toList.getD k 0 = 46 ∧ AllD s (k + 1) s.size ∧ a = (s.size - (k + 1) : Nat)))

theorem getD_get (s : ByteArray) (k : Nat) (h : k < s.size) : s.data.toList.getD k 0 = s[k] := by
  have h' : k < s.data.toList.length := by simpa using h
  rw [List.getD_eq_getElem?_getD, List.getElem?_eq_getElem h']
  rfl

theorem AllD_refl (s : ByteArray) (a : Nat) : AllD s a a := by intro j h1 h2; omega

theorem AllD_snoc {s : ByteArray} {a k : Nat} (h : AllD s a k) (hk : k < s.size) (h1 : (48 : Int) ≤ (s[k].toNat : Int)) (h2 : (s[k].toNat : Int) ≤ 57) : AllD s a (k + 1) := by
  intro j ja jb
  by_cases e : j = k
  · subst e
    rw [getD_get s j hk]
    simp [isD]; omega
  · exact h j ja (by omega)

theorem Sg0 {s : ByteArray} (h0 : 0 < s.size) (h : (s[0].toNat : Int) ≠ 45) : Sg s 0 := by
  refine .inl ⟨rfl, ?_⟩
  rw [getD_get s 0 h0]
  intro e; apply h; rw [e]; rfl

theorem Sg1 {s : ByteArray} (h0 : 0 < s.size) (h : (s[0].toNat : Int) = 45) : Sg s 1 := by
  refine .inr ⟨rfl, ?_⟩
  rw [getD_get s 0 h0]
  apply UInt8.toNat_inj.1
  have : (45 : UInt8).toNat = 45 := rfl
  omega

theorem SgE {s : ByteArray} (h0 : ¬ 0 < s.size) : Sg s 0 := by
  refine .inl ⟨rfl, ?_⟩
  have : s.data.toList = [] := by
    apply List.eq_nil_of_length_eq_zero; simpa using (by omega : s.size = 0)
  rw [this]; decide

theorem isD_45 : isD 45 = false := by decide
theorem isD_46 : isD 46 = false := by decide

theorem dig_cons (c : UInt8) (l : List UInt8) : dig (c :: l) = dig l + if isD c then 1 else 0 := by
  unfold dig
  cases h : isD c <;> simp [h]

/-- Digits only from a on: as many as there are bytes. -/
theorem dig_all (l : List UInt8) (h : ∀ j, j < l.length → isD (l.getD j 0) = true) : dig l = l.length := by
  induction l with
  | nil => rfl
  | cons c l ih =>
    rw [dig_cons, ih (fun j hj => by simpa using h (j + 1) (by simpa using hj))]
    have := h 0 (by simp)
    simp at this
    simp [this]

theorem dig_append (a b : List UInt8) : dig (a ++ b) = dig a + dig b := by simp [dig]

theorem dig_drop (l : List UInt8) (st k : Nat) (hk : k ≤ l.length) (h : ∀ j, st ≤ j → j < k → isD (l.getD j 0) = true) (hst : st ≤ k) : dig (l.drop st) = (k - st) + dig (l.drop k) := by
  have e : l.drop st = (l.drop st).take (k - st) ++ l.drop k := by
    have := (List.take_append_drop (k - st) (l.drop st)).symm
    rw [List.drop_drop, show st + (k - st) = k by omega] at this
    exact this
  rw [e, dig_append, dig_all, List.length_take, List.length_drop]
  · omega
  · intro j hj
    rw [List.length_take, List.length_drop] at hj
    have := h (st + j) (by omega) (by omega)
    simpa [List.getD_eq_getElem?_getD, List.getElem?_take, List.getElem?_drop, show j < k - st by omega] using this

theorem drop_one (l : List UInt8) (k : Nat) (hk : k < l.length) : l.drop k = l.getD k 0 :: l.drop (k + 1) := by
  rw [List.drop_eq_getElem_cons hk, List.getD_eq_getElem?_getD, List.getElem?_eq_getElem hk]; rfl

/-- THE LAW: a well-formed numeral has as many digits as it has bytes, less a sign, less a point. -/
theorem dig_of (s : ByteArray) (a : Int) (h : Wf s a) :
    0 < s.size ∧ 0 ≤ a ∧ (dig s.data.toList : Int) = (s.size : Int) - (if s.data.toList.getD 0 0 = 45 then 1 else 0) - (if 0 < a then 1 else 0) ∧
    a + 1 + (if s.data.toList.getD 0 0 = 45 then 1 else 0) + (if 0 < a then 1 else 0) ≤ (s.size : Int) := by
  obtain ⟨st, k, hsg, hk, hall, hend⟩ := h
  have hlen : s.data.toList.length = s.size := by simp
  have hks : k ≤ s.size := by rcases hend with ⟨e, _⟩ | ⟨e, _⟩ <;> omega
  have h1 : dig (s.data.toList.drop st) = (k - st) + dig (s.data.toList.drop k) := dig_drop _ st k (by omega) hall (by omega)
  have h0 : dig s.data.toList = dig (s.data.toList.drop st) := by
    rcases hsg with ⟨rfl, _⟩ | ⟨rfl, e⟩
    · simp
    · have := drop_one s.data.toList 0 (by omega)
      rw [List.drop_zero] at this
      rw [this, e, dig_cons, isD_45]
      simp
  have hst : (if s.data.toList.getD 0 0 = 45 then (1 : Int) else 0) = st := by
    rcases hsg with ⟨rfl, e⟩ | ⟨rfl, e⟩
    · rw [if_neg e]; rfl
    · rw [if_pos e]; rfl
  rw [hst]
  rcases hend with ⟨rfl, rfl⟩ | ⟨hk1, hpt, hall2, rfl⟩
  · have : s.data.toList.drop s.size = [] := List.drop_of_length_le (by omega)
    rw [this] at h1
    have : dig ([] : List UInt8) = 0 := rfl
    simp
    omega
  · have h2 := drop_one s.data.toList k (by omega)
    rw [hpt] at h2
    rw [h2, dig_cons, isD_46] at h1
    have h3 : dig (s.data.toList.drop (k + 1)) = (s.size - (k + 1)) + dig (s.data.toList.drop s.size) := dig_drop _ (k + 1) s.size (by omega) hall2 (by omega)
    have : s.data.toList.drop s.size = [] := List.drop_of_length_le (by omega)
    rw [this] at h3
    have : dig ([] : List UInt8) = 0 := rfl
    rw [if_pos (by omega)]
    simp at h1
    omega

end Go.Proofs.Qxb6000725a.Num
