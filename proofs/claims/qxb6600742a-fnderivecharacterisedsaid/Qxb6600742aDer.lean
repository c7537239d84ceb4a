/-
  PLAIN MATHEMATICS OF Derive: no Go in sight. f: the ids, g: the levels.
-/
namespace Go.Proofs.Qxb6600742a.Der

/-- The highest level of the first k offers, at least -1. -/
def mx (g : Nat → Int) : Nat → Int
  | 0 => -1
  | k + 1 => if mx g k < g k then g k else mx g k

theorem mx_ge (g : Nat → Int) (k : Nat) : -1 ≤ mx g k := by
  induction k with
  | zero => simp [mx]
  | succ k ih => simp only [mx]; split <;> omega
theorem mx_le (g : Nat → Int) (k : Nat) : ∀ i, i < k → g i ≤ mx g k := by
  induction k with
  | zero => intro i hi; omega
  | succ k ih =>
    intro i hi
    simp only [mx]
    by_cases e : i = k
    · subst e; split <;> omega
    · have := ih i (by omega); split <;> omega
theorem mx_hit (g : Nat → Int) (k : Nat) : mx g k = -1 ∨ ∃ i, i < k ∧ g i = mx g k := by
  induction k with
  | zero => left; rfl
  | succ k ih =>
    simp only [mx]
    split
    · right; exact ⟨k, by omega, rfl⟩
    · rcases ih with h | ⟨i, hi, h⟩
      · left; exact h
      · right; exact ⟨i, by omega, h⟩
theorem mx_bd (g : Nat → Int) (k : Nat) (h : ∀ i, i < k → g i ≤ 127) : mx g k ≤ 127 := by
  rcases mx_hit g k with e | ⟨i, hi, e⟩
  · omega
  · have := h i hi; omega

/-- The ids of the offers of level h among the first k. -/
def keys (f g : Nat → Int) (h : Int) : Nat → List Int
  | 0 => []
  | k + 1 => keys f g h k ++ (if g k = h then [f k] else [])

theorem mem_keys (f g : Nat → Int) (h : Int) (x : Int) : ∀ k, x ∈ keys f g h k ↔ ∃ i, i < k ∧ g i = h ∧ f i = x := by
  intro k
  induction k with
  | zero => simp [keys]
  | succ k ih =>
    simp only [keys, List.mem_append, ih]
    constructor
    · rintro (⟨i, hi, h1, h2⟩ | hm)
      · exact ⟨i, by omega, h1, h2⟩
      · by_cases e : g k = h
        · rw [if_pos e] at hm; simp at hm; exact ⟨k, by omega, e, hm.symm⟩
        · rw [if_neg e] at hm; simp at hm
    · rintro ⟨i, hi, h1, h2⟩
      by_cases e : i = k
      · subst e; right; rw [if_pos h1]; simp [h2]
      · left; exact ⟨i, by omega, h1, h2⟩
theorem keys_length (f g : Nat → Int) (h : Int) (k : Nat) : (keys f g h k).length ≤ k := by
  induction k with
  | zero => simp [keys]
  | succ k ih => simp only [keys, List.length_append]; split <;> simp <;> omega

/-- The law's own test, behind j rounds. -/
def topTo (g : Nat → Int) (i : Nat) : Nat → Bool
  | 0 => decide (-1 ≤ g i)
  | j + 1 => if g i < g j then false else topTo g i j
theorem topTo_iff (g : Nat → Int) (i : Nat) : ∀ n, topTo g i n = true ↔ (-1 ≤ g i ∧ ∀ j, j < n → g j ≤ g i) := by
  intro n
  induction n with
  | zero => simp [topTo]
  | succ n ih =>
    simp only [topTo]
    by_cases e : g i < g n
    · rw [if_pos e]
      constructor
      · intro h; cases h
      · rintro ⟨_, h⟩; have := h n (by omega); omega
    · rw [if_neg e, ih]
      constructor
      · rintro ⟨h1, h2⟩
        refine ⟨h1, fun j hj => ?_⟩
        by_cases e2 : j = n
        · subst e2; omega
        · exact h2 j (by omega)
      · rintro ⟨h1, h2⟩; exact ⟨h1, fun j hj => h2 j (by omega)⟩
theorem top_iff (g : Nat → Int) (n i : Nat) (hi : i < n) : topTo g i n = true ↔ g i = mx g n := by
  rw [topTo_iff]
  constructor
  · rintro ⟨h1, h2⟩
    have h3 := mx_le g n i hi
    rcases mx_hit g n with e | ⟨j, hj, e⟩
    · omega
    · have := h2 j hj; omega
  · intro e
    refine ⟨by rw [e]; exact mx_ge g n, fun j hj => by rw [e]; exact mx_le g n j hj⟩

/-- 'want' and 'first', behind k rounds. -/
def wantTo (f : Nat → Int) (tp : Nat → Bool) (i : Nat) : Nat → Bool
  | 0 => false
  | k + 1 => if f k = f i ∧ tp k = true then true else wantTo f tp i k
def firstTo (f : Nat → Int) (tp : Nat → Bool) (i : Nat) : Nat → Bool
  | 0 => true
  | k + 1 => if (f k = f i ∧ tp k = true) ∧ k < i then false else firstTo f tp i k

theorem wantTo_iff (f : Nat → Int) (tp : Nat → Bool) (i : Nat) : ∀ k, wantTo f tp i k = true ↔ ∃ j, j < k ∧ f j = f i ∧ tp j = true := by
  intro k
  induction k with
  | zero => simp [wantTo]
  | succ k ih =>
    simp only [wantTo]
    by_cases e : f k = f i ∧ tp k = true
    · rw [if_pos e]; exact ⟨fun _ => ⟨k, by omega, e.1, e.2⟩, fun _ => rfl⟩
    · rw [if_neg e, ih]
      constructor
      · rintro ⟨j, hj, h1, h2⟩; exact ⟨j, by omega, h1, h2⟩
      · rintro ⟨j, hj, h1, h2⟩
        by_cases e2 : j = k
        · subst e2; exact absurd ⟨h1, h2⟩ e
        · exact ⟨j, by omega, h1, h2⟩
theorem firstTo_iff (f : Nat → Int) (tp : Nat → Bool) (i : Nat) : ∀ k, firstTo f tp i k = false ↔ ∃ j, j < k ∧ j < i ∧ f j = f i ∧ tp j = true := by
  intro k
  induction k with
  | zero => simp [firstTo]
  | succ k ih =>
    simp only [firstTo]
    by_cases e : (f k = f i ∧ tp k = true) ∧ k < i
    · rw [if_pos e]; exact ⟨fun _ => ⟨k, by omega, e.2, e.1.1, e.1.2⟩, fun _ => rfl⟩
    · rw [if_neg e, ih]
      constructor
      · rintro ⟨j, hj, h0, h1, h2⟩; exact ⟨j, by omega, h0, h1, h2⟩
      · rintro ⟨j, hj, h0, h1, h2⟩
        by_cases e2 : j = k
        · subst e2; exact absurd ⟨⟨h1, h2⟩, h0⟩ e
        · exact ⟨j, by omega, h0, h1, h2⟩

/-- What the law asks of the map at the i-th id. -/
theorem want_keys (f g : Nat → Int) (n i : Nat) : wantTo f (fun k => topTo g k n) i n = (keys f g (mx g n) n).contains (f i) := by
  rw [Bool.eq_iff_iff, wantTo_iff, List.contains_iff_mem, mem_keys]
  constructor
  · rintro ⟨j, hj, h1, h2⟩; exact ⟨j, hj, (top_iff g n j hj).1 h2, h1⟩
  · rintro ⟨j, hj, h1, h2⟩; exact ⟨j, hj, h2, (top_iff g n j hj).2 h1⟩
theorem first_keys (f g : Nat → Int) (n i : Nat) (hi : i < n) : firstTo f (fun k => topTo g k n) i n = !(keys f g (mx g n) i).contains (f i) := by
  have h : firstTo f (fun k => topTo g k n) i n = false ↔ (keys f g (mx g n) i).contains (f i) = true := by
    rw [firstTo_iff, List.contains_iff_mem, mem_keys]
    constructor
    · rintro ⟨j, hj, h0, h1, h2⟩; exact ⟨j, h0, (top_iff g n j hj).1 h2, h1⟩
    · rintro ⟨j, hj, h1, h2⟩; exact ⟨j, by omega, hj, h2, (top_iff g n j (by omega)).2 h1⟩
  cases h1 : firstTo f (fun k => topTo g k n) i n <;> cases h2 : (keys f g (mx g n) i).contains (f i) <;> simp_all

/-- The law's own count, behind i rounds. -/
def cntTo (f g : Nat → Int) (n : Nat) : Nat → Nat
  | 0 => 0
  | i + 1 => cntTo f g n i + if topTo g i n = true ∧ firstTo f (fun k => topTo g k n) i n = true then 1 else 0
theorem cntTo_le (f g : Nat → Int) (n i : Nat) : cntTo f g n i ≤ i := by
  induction i with
  | zero => simp [cntTo]
  | succ i ih => simp only [cntTo]; split <;> omega

/-- A count that grows by one at each new one is the law's count. -/
theorem cnt_of (f g : Nat → Int) (n : Nat) (sz : List Int → Nat) (h0 : sz [] = 0) (hs : ∀ l x, sz (l ++ [x]) = if l.contains x then sz l else sz l + 1) : ∀ i, i ≤ n → cntTo f g n i = sz (keys f g (mx g n) i) := by
  intro i
  induction i with
  | zero => intro _; simp [cntTo, keys, h0]
  | succ i ih =>
    intro hi
    have e := ih (by omega)
    simp only [cntTo, keys]
    by_cases ht : g i = mx g n
    · have ht' := (top_iff g n i (by omega)).2 ht
      rw [if_pos ht, hs, first_keys f g n i (by omega), ht']
      cases hc : (keys f g (mx g n) i).contains (f i) <;> simp [e]
    · have ht' : topTo g i n ≠ true := fun h => ht ((top_iff g n i (by omega)).1 h)
      rw [if_neg ht, List.append_nil, if_neg (fun h => ht' h.1)]
      exact e
end Go.Proofs.Qxb6600742a.Der
