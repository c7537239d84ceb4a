/-
  PLAIN MATHEMATICS OF ONE RADIX PASS: the histogram, the places, what is placed. No Go in sight.
-/
import Derived.Test.Qxb6000725aSrt
namespace Go.Proofs.Qxb6000725a.Srt

theorem cnt_snoc (dg : Int → Nat) (l : List Int) (x : Int) (v : Nat) : cnt dg (l ++ [x]) v = cnt dg l v + if dg x = v then 1 else 0 := by
  unfold cnt
  rw [List.filter_append, List.length_append]
  by_cases h : dg x = v <;> simp [h]

theorem cnt_perm {dg : Int → Nat} {l s : List Int} (h : s.Perm l) (v : Nat) : cnt dg s v = cnt dg l v := (h.filter _).length_eq

theorem take_snoc (S : List Int) (i : Nat) (h : i < S.length) : S.take (i + 1) = S.take i ++ [S.getD i 0] := by
  rw [List.take_succ_eq_append_getElem h, List.getD_eq_getElem?_getD, List.getElem?_eq_getElem h]; rfl

theorem cnt_take_le (dg : Int → Nat) (S : List Int) (i v : Nat) : cnt dg (S.take i) v ≤ cnt dg S v := by
  unfold cnt
  exact (List.Sublist.filter _ (List.take_sublist i S)).length_le

theorem cnt_take_lt (dg : Int → Nat) (S : List Int) (i : Nat) (h : i < S.length) : cnt dg (S.take i) (dg (S.getD i 0)) < cnt dg S (dg (S.getD i 0)) := by
  have h1 := cnt_take_le dg S (i + 1) (dg (S.getD i 0))
  rw [take_snoc S i h, cnt_snoc, if_pos rfl] at h1
  omega

theorem pre_le (dg : Int → Nat) (S : List Int) (m : Nat) : pre dg S m ≤ S.length := by
  have h : pre dg S m = (S.filter (fun x => decide (dg x < m))).length := by
    induction m with
    | zero =>
      have : S.filter (fun x => decide (dg x < 0)) = [] := filter_none fun x _ => by simp
      rw [this]; rfl
    | succ m ih =>
      simp only [pre, ih, cnt]
      have : ∀ L : List Int, (L.filter (fun x => decide (dg x < m))).length + (L.filter (fun x => dg x == m)).length = (L.filter (fun x => decide (dg x < m + 1))).length := by
        intro L
        induction L with
        | nil => rfl
        | cons a L ihL =>
          by_cases h1 : dg a < m
          · have h2 : ¬ dg a = m := by omega
            simp [h1, h2, show dg a < m + 1 by omega]; omega
          · by_cases h2 : dg a = m
            · simp [h2]; omega
            · simp [h1, h2, show ¬ dg a < m + 1 by omega]; omega
      exact this S
  rw [h]
  exact List.length_filter_le _ _

theorem pre_all (dg : Int → Nat) (S : List Int) (m : Nat) (hd : ∀ x, dg x < m) : pre dg S m = S.length := by
  have e : ∀ L : List Int, pre dg L m = L.length := by
    intro L
    have hp : (flat dg L m).Perm L := by
      have hst : Stab (fun _ => 0) L L := Stab_refl_const fun _ => rfl
      exact Stab_perm (Stab_pass (M := 1) hst (fun _ => by omega) hd)
    rw [← flat_length]; exact hp.length_eq
  exact e S

/-- What has been placed behind i words. -/
def Placed (dg : Int → Nat) (S : List Int) (i : Nat) (g : Nat → Int) : Prop :=
  ∀ v t, t < cnt dg (S.take i) v → g (pre dg S v + t) = ((S.take i).filter (fun x => dg x == v)).getD t 0

theorem Placed_zero (dg : Int → Nat) (S : List Int) (g : Nat → Int) : Placed dg S 0 g := by
  intro v t h; simp [cnt] at h

theorem place_lt (dg : Int → Nat) (S : List Int) (i : Nat) (h : i < S.length) : pre dg S (dg (S.getD i 0)) + cnt dg (S.take i) (dg (S.getD i 0)) < S.length := by
  have h1 := cnt_take_lt dg S i h
  have h2 := pre_le dg S (dg (S.getD i 0) + 1)
  simp only [pre] at h2
  omega

theorem Placed_step {dg : Int → Nat} {S : List Int} {i : Nat} {g : Nat → Int} (h : Placed dg S i g) (hi : i < S.length) (g' : Nat → Int)
    (hg : ∀ p, g' p = if p = pre dg S (dg (S.getD i 0)) + cnt dg (S.take i) (dg (S.getD i 0)) then S.getD i 0 else g p) : Placed dg S (i + 1) g' := by
  intro v t ht
  rw [take_snoc S i hi] at ht ⊢
  rw [cnt_snoc] at ht
  rw [List.filter_append]
  have hlt := cnt_take_lt dg S i hi
  generalize hx : S.getD i 0 = x at *
  by_cases e : dg x = v
  · subst e
    rw [if_pos rfl] at ht
    have ef : List.filter (fun y => dg y == dg x) [x] = [x] := by simp
    rw [ef]
    have el : ((S.take i).filter (fun y => dg y == dg x)).length = cnt dg (S.take i) (dg x) := rfl
    by_cases e2 : t = cnt dg (S.take i) (dg x)
    · rw [hg, if_pos (by omega), e2, List.getD_eq_getElem?_getD, List.getElem?_append_right (by omega), el]
      simp
    · rw [hg, if_neg (by omega), h (dg x) t (by omega), List.getD_eq_getElem?_getD, List.getD_eq_getElem?_getD, List.getElem?_append_left (by omega)]
  · rw [if_neg e] at ht
    have ef : List.filter (fun y => dg y == v) [x] = [] := by simp [e]
    rw [ef, List.append_nil, hg, if_neg, h v t (by omega)]
    have h3 := cnt_take_le dg S i v
    rcases Nat.lt_or_gt_of_ne e with h4 | h4
    · have := pre_apart dg S h4; omega
    · have := pre_apart dg S h4; omega

theorem Placed_end {dg : Int → Nat} {S : List Int} {g : Nat → Int} {m : Nat} (h : Placed dg S S.length g) (hd : ∀ x, dg x < m) :
    ∀ p, p < S.length → g p = (flat dg S m).getD p 0 := by
  intro p hp
  rw [← pre_all dg S m hd] at hp
  obtain ⟨v, t, hv, ht, rfl⟩ := flat_index dg S p m hp
  rw [flat_get dg S v t ht m hv]
  have := h v t (by rw [List.take_length]; exact ht)
  rw [List.take_length] at this
  exact this

end Go.Proofs.Qxb6000725a.Srt
