/-
  zzStableSort (17).
-/
import Derived.Test.Qxb6000725aIns
namespace Go.Proofs.Qxb6000725a.Small
open Go.ChangeShapes Go.WideShapes Go.ChangeAt Go.RowKit
open Go.Proofs.Qxb6000725a.Mem

/-- The key that zzKey gives. -/
def keyF (lo hi : Int) (x : Int) : Nat := if hi ≤ lo then 0 else Srt.key lo.toNat x

theorem keyF_any (x lo hi : Int) (w : World) (h0 : 0 ≤ lo) (h1 : lo ≤ 256) :
    Calls Try.prog 21 #[.int .i64 x, .int .i64 lo, .int .i64 hi] w fun e w' => e = .returned (.int .u64 (keyF lo hi x)) ∧ w' = w := by
  unfold keyF
  by_cases h : hi ≤ lo
  · simp only [if_pos h]; exact key_low x lo hi w h
  · simp only [if_neg h]; exact key_any x lo hi w h0 h1 (by omega)

/-- The first n values of f. -/
def lst (n : Nat) (f : Nat → Int) : List Int := (List.range n).map f
theorem lst_length (n : Nat) (f : Nat → Int) : (lst n f).length = n := by simp [lst]
theorem lst_succ (n : Nat) (f : Nat → Int) : lst (n + 1) f = lst n f ++ [f n] := by simp [lst, List.range_succ]
theorem lst_get (n : Nat) (f : Nat → Int) (i : Nat) (h : i < n) : (lst n f).getD i 0 = f i := by
  simp [lst, List.getD_eq_getElem?_getD, h]

/-- What the outer loop holds at i. -/
def Outer (K : Int → Nat) (w : World) (n : Nat) (f : Nat → Int) (i : Nat) (S : List Int) (wr : World) : Prop :=
  S.length = i ∧ Srt.Stab K (lst i f) S ∧ Tab wr w.heap.size n (fun t => if t < i then S.getD t 0 else f t) ∧ Below w.heap.size w wr ∧ wr.heap.size = w.heap.size + 1

/-- The row in the inner loop at j. -/
def mid (S : List Int) (i j : Nat) (q : Int) (f : Nat → Int) (t : Nat) : Int :=
  if t < j then S.getD t 0 else if t = j then q else if t ≤ i then S.getD (t - 1) 0 else f t

def Inner (K : Int → Nat) (w : World) (n : Nat) (f : Nat → Int) (i : Nat) (S : List Int) (j : Nat) (wr : World) : Prop :=
  (∃ q, Tab wr w.heap.size n (mid S i j q f)) ∧ (∀ t, j ≤ t → t < i → K (f i) < K (S.getD t 0)) ∧ Below w.heap.size w wr ∧ wr.heap.size = w.heap.size + 1

theorem inner_start {K : Int → Nat} {w wr : World} {n : Nat} {f : Nat → Int} {i : Nat} {S : List Int} (h : Outer K w n f i S wr) : Inner K w n f i S i wr := by
  obtain ⟨h1, h2, h3, h4, h5⟩ := h
  refine ⟨⟨f i, h3.congr fun t _ => ?_⟩, fun t ht1 ht2 => by omega, h4, h5⟩
  unfold mid
  by_cases e : t < i
  · simp [e]
  · by_cases e2 : t = i
    · subst e2; simp
    · simp [e, e2, show ¬ t ≤ i by omega]

theorem inner_cell {K : Int → Nat} {w wr : World} {n : Nat} {f : Nat → Int} {i : Nat} {S : List Int} {j : Nat} (h : Inner K w n f i S (j + 1) wr) (hj : j < n) :
    wr.cell? ⟨w.heap.size, j, none⟩ = some (.int .i64 (S.getD j 0)) := by
  obtain ⟨⟨q, h1⟩, _⟩ := h
  rw [h1.cell hj]
  simp [mid]

theorem inner_slot {K : Int → Nat} {w wr : World} {n : Nat} {f : Nat → Int} {i : Nat} {S : List Int} {j : Nat} (h : Inner K w n f i S j wr) (hj : j < n) :
    (∃ q, wr.cell? ⟨w.heap.size, j, none⟩ = some (.int .i64 q)) ∧ wr.frozen? ⟨w.heap.size, j, none⟩ = false := by
  obtain ⟨⟨q, h1⟩, _⟩ := h
  exact ⟨⟨_, h1.cell hj⟩, h1.free hj⟩

theorem inner_step {K : Int → Nat} {w wr : World} {n : Nat} {f : Nat → Int} {i : Nat} {S : List Int} {j : Nat} (h : Inner K w n f i S (j + 1) wr) (hji : j < i) (hk : K (f i) < K (S.getD j 0)) :
    Inner K w n f i S j (wr.setCell ⟨w.heap.size, j + 1, none⟩ (.int .i64 (S.getD j 0))) := by
  obtain ⟨⟨q, h1⟩, h2, h3, h4⟩ := h
  refine ⟨⟨S.getD j 0, (h1.set (j + 1) (S.getD j 0)).congr fun t _ => ?_⟩, ?_, h3.setCell (Nat.le_refl _) _, by rw [size_setCell']; exact h4⟩
  · unfold upd mid
    by_cases e : t = j + 1
    · subst e; simp [show j + 1 ≤ i by omega, show ¬ (j + 1 < j) by omega]
    · by_cases e1 : t < j
      · simp [e, e1, show t < j + 1 by omega]
      · by_cases e2 : t = j
        · subst e2; simp
        · simp [e, e1, e2, show ¬ t < j + 1 by omega]
  · intro t t1 t2
    by_cases e : t = j
    · subst e; exact hk
    · exact h2 t (by omega) t2

theorem inner_end {K : Int → Nat} {w wr : World} {n : Nat} {f : Nat → Int} {i : Nat} {S : List Int} {j : Nat} (hS : S.length = i) (hSt : Srt.Stab K (lst i f) S) (h : Inner K w n f i S j wr) (hji : j ≤ i)
    (hk : ∀ t, j = t + 1 → K (S.getD t 0) ≤ K (f i)) :
    Outer K w n f (i + 1) (S.take j ++ f i :: S.drop j) (wr.setCell ⟨w.heap.size, j, none⟩ (.int .i64 (f i))) := by
  obtain ⟨⟨q, h1⟩, h2, h3, h4⟩ := h
  refine ⟨by simp; omega, ?_, (h1.set j (f i)).congr fun t _ => ?_, h3.setCell (Nat.le_refl _) _, by rw [size_setCell']; exact h4⟩
  · rw [lst_succ]
    refine Srt.Stab_ins hSt (f i) j ?_ ?_
    · intro y hy
      rw [List.mem_take_iff_getElem] at hy
      obtain ⟨a, ha, rfl⟩ := hy
      have haj : a < j := by omega
      have haS : a < S.length := by omega
      obtain ⟨t, rfl⟩ : ∃ t, j = t + 1 := ⟨j - 1, by omega⟩
      have hlast := hk t rfl
      have htS : t < S.length := by omega
      have e : S.getD t 0 = S[t] := by rw [List.getD_eq_getElem?_getD, List.getElem?_eq_getElem htS]; rfl
      rw [e] at hlast
      by_cases eat : a = t
      · subst eat; exact hlast
      · have := List.pairwise_iff_getElem.1 hSt.1 a t haS htS (by omega)
        omega
    · intro y hy
      rw [List.mem_drop_iff_getElem] at hy
      obtain ⟨a, ha, rfl⟩ := hy
      have := h2 (j + a) (by omega) (by omega)
      rw [List.getD_eq_getElem?_getD, List.getElem?_eq_getElem (by omega)] at this
      exact this
  · unfold upd mid
    by_cases e : t = j
    · subst e
      rw [if_pos rfl, if_pos (by omega), List.getD_eq_getElem?_getD, List.getElem?_append_right (by simp; omega)]
      simp [show min t S.length = t by omega]
    · rw [if_neg e]
      by_cases e1 : t < j
      · rw [if_pos e1, if_pos (by omega), List.getD_eq_getElem?_getD, List.getD_eq_getElem?_getD, List.getElem?_append_left (by simp; omega), List.getElem?_take]
        simp [e1]
      · rw [if_neg e1, if_neg e]
        by_cases e2 : t ≤ i
        · rw [if_pos e2, if_pos (by omega), List.getD_eq_getElem?_getD, List.getD_eq_getElem?_getD, List.getElem?_append_right (by simp; omega)]
          have : t - (S.take j).length = (t - j - 1) + 1 := by simp; omega
          rw [this, List.getElem?_cons_succ, List.getElem?_drop]
          congr 2; omega
        · rw [if_neg e2, if_neg (by omega)]

theorem outer_start (K : Int → Nat) (w wr : World) (n : Nat) (f : Nat → Int) (h1 : Tab wr w.heap.size n f) (h2 : Below w.heap.size w wr) (h3 : wr.heap.size = w.heap.size + 1) : Outer K w n f 1 [f 0] wr := by
  refine ⟨rfl, ⟨by simp, fun v => by simp [lst]⟩, h1.congr fun t _ => ?_, h2, h3⟩
  by_cases e : t < 1
  · have : t = 0 := by omega
    subst this; simp
  · simp [e]
end Go.Proofs.Qxb6000725a.Small
