/-
  PLAIN MATHEMATICS ON STABLE SORTING: no Go in sight.
-/
namespace Go.Proofs.Qxb6000725a.Srt

/-- s is l, stably sorted by key. -/
def Stab (key : Int → Nat) (l s : List Int) : Prop :=
  s.Pairwise (fun a b => key a ≤ key b) ∧ ∀ v, s.filter (fun x => key x == v) = l.filter (fun x => key x == v)

theorem same_of_sorted (key : Int → Nat) : ∀ (s t : List Int), s.Pairwise (fun a b => key a ≤ key b) → t.Pairwise (fun a b => key a ≤ key b) →
    (∀ v, s.filter (fun x => key x == v) = t.filter (fun x => key x == v)) → s = t := by
  intro s
  induction s with
  | nil =>
    intro t _ _ h
    cases t with
    | nil => rfl
    | cons b t => have := h (key b); simp at this
  | cons a s ih =>
    intro t hs ht h
    cases t with
    | nil => have := h (key a); simp at this
    | cons b t =>
      have mem1 : a ∈ (b :: t).filter (fun x => key x == key a) := by rw [← h]; simp
      have mem2 : b ∈ (a :: s).filter (fun x => key x == key b) := by rw [h]; simp
      have m1 : a ∈ b :: t := (List.mem_filter.1 mem1).1
      have m2 : b ∈ a :: s := (List.mem_filter.1 mem2).1
      have l1 : key b ≤ key a := by
        rcases List.mem_cons.1 m1 with e | e
        · rw [e]; exact Nat.le_refl _
        · exact (List.pairwise_cons.1 ht).1 a e
      have l2 : key a ≤ key b := by
        rcases List.mem_cons.1 m2 with e | e
        · rw [e]; exact Nat.le_refl _
        · exact (List.pairwise_cons.1 hs).1 b e
      have ke : key a = key b := by omega
      have hk := h (key a)
      simp [ke] at hk
      obtain ⟨hab, _⟩ := hk
      subst hab
      congr 1
      refine ih t (List.pairwise_cons.1 hs).2 (List.pairwise_cons.1 ht).2 fun v => ?_
      have hv := h v
      simp only [List.filter_cons] at hv
      split at hv
      · exact (List.cons.inj hv).2
      · exact hv

theorem Stab_unique {key : Int → Nat} {l s t : List Int} (h1 : Stab key l s) (h2 : Stab key l t) : s = t :=
  same_of_sorted key s t h1.1 h2.1 fun v => (h1.2 v).trans (h2.2 v).symm

theorem Stab_perm {key : Int → Nat} {l s : List Int} (h : Stab key l s) : s.Perm l := by
  rw [List.perm_iff_count]
  intro a
  have e1 : ∀ m : List Int, List.count a (m.filter (fun x => key x == key a)) = List.count a m := fun m => List.count_filter (by simp)
  rw [← e1 s, ← e1 l, h.2]

theorem Stab_length {key : Int → Nat} {l s : List Int} (h : Stab key l s) : s.length = l.length := (Stab_perm h).length_eq

theorem Stab_refl_const {key : Int → Nat} {l : List Int} (h : ∀ x, key x = 0) : Stab key l l :=
  ⟨List.Pairwise.imp_of_mem (fun {a b} _ _ _ => by rw [h a, h b]; exact Nat.le_refl _) (List.pairwise_of_forall (fun _ _ => trivial) : l.Pairwise fun _ _ => True), fun _ => rfl⟩

/-- One element put in its place, from the right. -/
theorem Stab_ins {key : Int → Nat} {l S : List Int} (h : Stab key l S) (x : Int) (j : Nat)
    (h1 : ∀ y ∈ S.take j, key y ≤ key x) (h2 : ∀ y ∈ S.drop j, key x < key y) : Stab key (l ++ [x]) (S.take j ++ x :: S.drop j) := by
  have hp : (S.take j ++ S.drop j).Pairwise (fun a b => key a ≤ key b) := by rw [List.take_append_drop]; exact h.1
  rw [List.pairwise_append] at hp
  refine ⟨?_, ?_⟩
  · rw [List.pairwise_append]
    refine ⟨hp.1, List.pairwise_cons.2 ⟨fun y hy => Nat.le_of_lt (h2 y hy), hp.2.1⟩, ?_⟩
    intro a ha b hb
    rcases List.mem_cons.1 hb with e | e
    · rw [e]; exact h1 a ha
    · exact hp.2.2 a ha b e
  · intro v
    have e0 : S.filter (fun x => key x == v) = (S.take j).filter (fun x => key x == v) ++ (S.drop j).filter (fun x => key x == v) := by
      rw [← List.filter_append, List.take_append_drop]
    rw [List.filter_append, List.filter_append, ← h.2 v, e0, List.filter_cons]
    by_cases hx : key x = v
    · have : (S.drop j).filter (fun x => key x == v) = [] := by
        rw [List.filter_eq_nil_iff]
        intro y hy
        have := h2 y hy
        simp; omega
      simp [hx, this]
    · simp [hx]

/-- The words whose digit is below m, by digit; within one digit in the list's order. -/
def flat (dg : Int → Nat) (l : List Int) : Nat → List Int
  | 0 => []
  | m + 1 => flat dg l m ++ l.filter (fun x => dg x == m)
/-- How many words have digit v. -/
def cnt (dg : Int → Nat) (l : List Int) (v : Nat) : Nat := (l.filter (fun x => dg x == v)).length
/-- How many words have a digit below m. -/
def pre (dg : Int → Nat) (l : List Int) : Nat → Nat
  | 0 => 0
  | m + 1 => pre dg l m + cnt dg l m

theorem flat_length (dg : Int → Nat) (l : List Int) (m : Nat) : (flat dg l m).length = pre dg l m := by
  induction m with
  | zero => rfl
  | succ m ih => simp [flat, pre, cnt, ih]

theorem pre_mono (dg : Int → Nat) (l : List Int) {a b : Nat} (h : a ≤ b) : pre dg l a ≤ pre dg l b := by
  induction b with
  | zero => have : a = 0 := by omega
            subst this; exact Nat.le_refl _
  | succ b ih =>
    by_cases e : a = b + 1
    · subst e; exact Nat.le_refl _
    · have := ih (by omega); simp only [pre]; omega

theorem pre_apart (dg : Int → Nat) (l : List Int) {a b : Nat} (h : a < b) : pre dg l a + cnt dg l a ≤ pre dg l b := by
  have := pre_mono dg l (show a + 1 ≤ b by omega)
  simpa [pre] using this

theorem flat_get (dg : Int → Nat) (l : List Int) (v t : Nat) (ht : t < cnt dg l v) : ∀ m, v < m → (flat dg l m).getD (pre dg l v + t) 0 = (l.filter (fun x => dg x == v)).getD t 0 := by
  intro m
  induction m with
  | zero => intro h; omega
  | succ m ih =>
    intro h
    simp only [flat, List.getD_eq_getElem?_getD]
    by_cases e : v = m
    · subst e
      rw [List.getElem?_append_right (by rw [flat_length]; omega), flat_length]
      congr 2; omega
    · have := pre_apart dg l (show v < m by omega)
      rw [List.getElem?_append_left (by rw [flat_length]; omega)]
      have := ih (by omega)
      simpa [List.getD_eq_getElem?_getD] using this

theorem flat_index (dg : Int → Nat) (l : List Int) (i : Nat) : ∀ m, i < pre dg l m → ∃ v t, v < m ∧ t < cnt dg l v ∧ i = pre dg l v + t := by
  intro m
  induction m with
  | zero => intro h; simp [pre] at h
  | succ m ih =>
    intro h
    by_cases e : i < pre dg l m
    · obtain ⟨v, t, h1, h2, h3⟩ := ih e
      exact ⟨v, t, by omega, h2, h3⟩
    · refine ⟨m, i - pre dg l m, by omega, ?_, by omega⟩
      simp only [pre] at h; omega

theorem mem_flat {dg : Int → Nat} {l : List Int} {x : Int} : ∀ {m}, x ∈ flat dg l m → x ∈ l ∧ dg x < m := by
  intro m
  induction m with
  | zero => intro h; simp [flat] at h
  | succ m ih =>
    intro h
    simp only [flat, List.mem_append, List.mem_filter] at h
    rcases h with h | ⟨h, e⟩
    · exact ⟨(ih h).1, by have := (ih h).2; omega⟩
    · exact ⟨h, by have := eq_of_beq e; omega⟩

theorem filter_none {α : Type} {p : α → Bool} {l : List α} (h : ∀ x ∈ l, p x = false) : l.filter p = [] := by
  rw [List.filter_eq_nil_iff]; intro x hx; rw [h x hx]; simp

theorem flat_filter (dg k : Int → Nat) (M : Nat) (hk : ∀ x, k x < M) (l : List Int) (c : Nat) : ∀ m, (flat dg l m).filter (fun x => dg x * M + k x == c) = l.filter (fun x => decide (dg x < m) && (dg x * M + k x == c)) := by
  have hM : ∀ x, (dg x * M + k x) / M = dg x := fun x => by
    have := hk x
    rw [Nat.mul_comm, Nat.mul_add_div (by omega), Nat.div_eq_of_lt this]; rfl
  intro m
  induction m with
  | zero => simp [flat]
  | succ m ih =>
    simp only [flat, List.filter_append, List.filter_filter]
    rw [ih]
    by_cases e : c / M = m
    · have e1 : l.filter (fun x => decide (dg x < m) && (dg x * M + k x == c)) = [] := by
        refine filter_none fun x _ => ?_
        by_cases h : dg x * M + k x = c
        · have := hM x; rw [h, e] at this; simp; omega
        · simp [h]
      rw [e1, List.nil_append]
      refine List.filter_congr fun x _ => ?_
      by_cases h : dg x * M + k x = c
      · have := hM x; rw [h, e] at this; simp [← this]
      · have h' : (dg x * M + k x == c) = false := beq_eq_false_iff_ne.2 h
        simp only [h', Bool.false_and, Bool.and_false]
    · have e1 : l.filter (fun x => (dg x * M + k x == c) && (dg x == m)) = [] := by
        refine filter_none fun x _ => ?_
        by_cases h : dg x * M + k x = c
        · have := hM x; rw [h] at this; simp; omega
        · simp [h]
      rw [e1, List.append_nil]
      refine List.filter_congr fun x _ => ?_
      by_cases h : dg x * M + k x = c
      · have := hM x; rw [h] at this
        have : dg x ≠ m := by omega
        simp [h]; omega
      · have h' : (dg x * M + k x == c) = false := beq_eq_false_iff_ne.2 h
        simp only [h', Bool.and_false]

theorem flat_sorted (dg k : Int → Nat) (M : Nat) (hk : ∀ x, k x < M) (l : List Int) (h : l.Pairwise (fun a b => k a ≤ k b)) : ∀ m, (flat dg l m).Pairwise (fun a b => dg a * M + k a ≤ dg b * M + k b) := by
  intro m
  induction m with
  | zero => simp [flat]
  | succ m ih =>
    simp only [flat]
    rw [List.pairwise_append]
    refine ⟨ih, ?_, ?_⟩
    · refine List.Pairwise.imp_of_mem ?_ (h.sublist List.filter_sublist)
      intro a b ha hb hab
      have h1 := eq_of_beq (List.mem_filter.1 ha).2
      have h2 := eq_of_beq (List.mem_filter.1 hb).2
      rw [h1, h2]; omega
    · intro a ha b hb
      have h1 := (mem_flat ha).2
      have h2 := eq_of_beq (List.mem_filter.1 hb).2
      have h3 := hk a
      have h4 : dg a * M + M ≤ dg b * M := by
        rw [h2, ← Nat.succ_mul]; exact Nat.mul_le_mul_right _ h1
      omega

/-- ONE PASS. -/
theorem Stab_pass {k dg : Int → Nat} {M m : Nat} {words l : List Int} (h : Stab k words l) (hk : ∀ x, k x < M) (hd : ∀ x, dg x < m) :
    Stab (fun x => dg x * M + k x) words (flat dg l m) := by
  refine ⟨flat_sorted dg k M hk l h.1 m, fun c => ?_⟩
  rw [flat_filter dg k M hk l c m]
  have e1 : ∀ L : List Int, L.filter (fun x => dg x * M + k x == c) = (L.filter (fun x => k x == c % M)).filter (fun x => dg x == c / M) := by
    intro L
    rw [List.filter_filter]
    refine List.filter_congr fun x _ => ?_
    have hx := hk x
    by_cases e : dg x * M + k x = c
    · have a1 : c / M = dg x := by rw [← e, Nat.mul_comm, Nat.mul_add_div (by omega), Nat.div_eq_of_lt hx]; rfl
      have a2 : c % M = k x := by rw [← e, Nat.mul_comm, Nat.mul_add_mod, Nat.mod_eq_of_lt hx]
      simp [e, a1, a2]
    · have : ¬ (dg x = c / M ∧ k x = c % M) := by
        rintro ⟨a1, a2⟩
        apply e
        rw [a1, a2, Nat.mul_comm]; exact Nat.div_add_mod c M
      by_cases a1 : dg x = c / M
      · have a2 : k x ≠ c % M := fun a2 => this ⟨a1, a2⟩
        have h1 : (dg x * M + k x == c) = false := beq_eq_false_iff_ne.2 e
        have h2 : (k x == c % M) = false := beq_eq_false_iff_ne.2 a2
        simp only [h1, h2, Bool.and_false]
      · have h1 : (dg x * M + k x == c) = false := beq_eq_false_iff_ne.2 e
        have h2 : (dg x == c / M) = false := beq_eq_false_iff_ne.2 a1
        simp only [h1, h2, Bool.false_and]
  rw [e1 words, ← h.2, ← e1]
  refine List.filter_congr fun x _ => ?_
  simp [hd x]

/-! ### The key's digits -/
/-- A Go int as the uint it converts to. -/
def un (x : Int) : Nat := (x % 18446744073709551616).toNat
def key (lo : Nat) (x : Int) : Nat := un x >>> lo
def dig (lo d : Nat) (x : Int) : Nat := (un x >>> (lo + d * 8)) % 256
def part (lo d : Nat) (x : Int) : Nat := key lo x % 256 ^ d

theorem part_lt (lo d : Nat) (x : Int) : part lo d x < 256 ^ d := Nat.mod_lt _ (Nat.pow_pos (by decide))
theorem dig_lt (lo d : Nat) (x : Int) : dig lo d x < 256 := Nat.mod_lt _ (by decide)
theorem part_succ (lo d : Nat) (x : Int) : part lo (d + 1) x = dig lo d x * 256 ^ d + part lo d x := by
  unfold part dig key
  rw [Nat.mod_pow_succ]
  have : un x >>> lo / 256 ^ d = un x >>> (lo + d * 8) := by
    rw [Nat.shiftRight_add, Nat.shiftRight_eq_div_pow (un x >>> lo) (d * 8), Nat.mul_comm d 8, Nat.pow_mul]
  rw [this, Nat.mul_comm]; omega

theorem Stab_zero (lo : Nat) (words : List Int) : Stab (part lo 0) words words :=
  Stab_refl_const fun x => by simp [part, Nat.mod_one]

theorem Stab_step {lo d : Nat} {words l : List Int} (h : Stab (part lo d) words l) : Stab (part lo (d + 1)) words (flat (dig lo d) l 256) := by
  have e : part lo (d + 1) = fun x => dig lo d x * 256 ^ d + part lo d x := funext fun x => part_succ lo d x
  rw [e]
  exact Stab_pass h (part_lt lo d) (dig_lt lo d)

theorem Stab_congr {k k' : Int → Nat} {words l : List Int} (h : Stab k words l) (e : ∀ x ∈ words, k x = k' x) : Stab k' words l := by
  have el : ∀ x ∈ l, k x = k' x := fun x hx => e x ((Stab_perm h).mem_iff.1 hx)
  refine ⟨List.Pairwise.imp_of_mem (fun {a b} ha hb hab => by rw [← el a ha, ← el b hb]; exact hab) h.1, fun v => ?_⟩
  have e1 : l.filter (fun x => k' x == v) = l.filter (fun x => k x == v) := List.filter_congr fun x hx => by rw [el x hx]
  have e2 : words.filter (fun x => k' x == v) = words.filter (fun x => k x == v) := List.filter_congr fun x hx => by rw [e x hx]
  rw [e1, e2, h.2]

end Go.Proofs.Qxb6000725a.Srt
