/-
  THE CONTRACTS OF THE LAW ON SORTING, AT EVERY SLICE, nil and empty ones too.
-/
import Derived.Test.Qxb6000725aRad4
import Derived.Test.Qxb6000725aIns3
namespace Go.Proofs.Qxb6000725a.Rad
open Go.ChangeShapes Go.WideShapes Go.ChangeAt Go.RowKit
open Go.Proofs.Qxb6000725a.Mem Go.Proofs.Qxb6000725a.Small

/-- A slice that came in: nil, or its elements are the ints f 0, f 1, .. -/
def Came (w : World) (a : Option Addr) (n c : Nat) (f : Nat → Int) : Prop :=
  (a = none ∧ n = 0 ∧ c = 0) ∨ ∃ x, a = some x ∧ ∀ i, i < n → w.cell? (x.add i) = some (.int .i64 (f i))

/-- A slice of the call's own: where it has elements, it lies at the head of block b. -/
def Own (w : World) (a : Option Addr) (n c b : Nat) (f : Nat → Int) : Prop :=
  (0 < n → a = some ⟨b, 0, none⟩) ∧ (a = none → c = 0) ∧ Tab w b n f

def CloneAll (w : World) (n : Nat) (f : Nat → Int) (e : Ending) (w' : World) : Prop :=
  ∃ a c, e = .returned (.slice a n c) ∧ Own w' a n c w.heap.size f ∧ Below w.heap.size w w' ∧ (0 < n → w.heap.size < w'.heap.size)

theorem clone_all (a : Option Addr) (n c : Nat) (f : Nat → Int) (w : World) (hn : n ≤ 4096) (h : Came w a n c f) : Calls Try.prog 16 #[.slice a n c] w (CloneAll w n f) := by
  rcases h with ⟨rfl, rfl, rfl⟩ | ⟨x, rfl, hsrc⟩
  · refine (clone_nil w).mono ?_
    rintro e w1 ⟨rfl, rfl⟩
    exact ⟨none, 0, rfl, ⟨fun h => by omega, fun _ => rfl, fun i hi => by omega⟩, Below.refl _ _, fun h => by omega⟩
  · refine (clone_some x n c f w hn hsrc).mono ?_
    rintro e w1 ⟨rfl, h1, h2, h3⟩
    exact ⟨_, _, rfl, ⟨fun _ => rfl, fun h => by simp at h, h1⟩, h2, fun _ => by omega⟩

def SortAll (w : World) (K : Int → Nat) (n : Nat) (f : Nat → Int) (e : Ending) (w' : World) : Prop :=
  ∃ a c S, e = .returned (.slice a n c) ∧ (0 < n → a = some ⟨w.heap.size, 0, none⟩) ∧ Tab w' w.heap.size n (fun t => S.getD t 0) ∧ Srt.Stab K (lst n f) S ∧ Below w.heap.size w w' ∧ (0 < n → w.heap.size < w'.heap.size)

theorem sort_all (a : Option Addr) (n c b : Nat) (f : Nat → Int) (lo hi : Int) (w : World) (hn : n ≤ 4096) (hlo : 0 ≤ lo) (hlo2 : lo ≤ 256) (h : Own w a n c b f) :
    Calls Try.prog 17 #[.slice a n c, .int .i64 lo, .int .i64 hi] w (SortAll w (keyF lo hi) n f) := by
  obtain ⟨h1, h2, h3⟩ := h
  by_cases hn0 : 1 ≤ n
  · obtain rfl := h1 (by omega)
    refine (sort_some b n c f lo hi w hn0 hn hlo hlo2 h3).mono ?_
    rintro e w1 ⟨rfl, S, hS, ht, hb, hz⟩
    exact ⟨_, _, S, rfl, fun _ => rfl, ht, hS, hb, fun _ => by omega⟩
  · obtain rfl : n = 0 := by omega
    refine (sort_zero a c lo hi w h2).mono ?_
    rintro e w1 ⟨a', c', rfl, hb⟩
    exact ⟨_, _, [], rfl, fun h => by omega, fun i hi => by omega, ⟨by simp, by simp [lst]⟩, hb, fun h => by omega⟩

def SameAll (w : World) (e : Ending) (w' : World) : Prop := e = .returned (.bool true) ∧ ∃ k, w' = w.drewN k

theorem same_all (a a' : Option Addr) (n c c' b b' : Nat) (f : Nat → Int) (w : World) (hn : n ≤ 4096) (h1 : 0 < n → a = some ⟨b, 0, none⟩) (h2 : 0 < n → a' = some ⟨b', 0, none⟩) (t1 : Tab w b n f) (t2 : Tab w b' n f) :
    Calls Try.prog 19 #[.slice a n c, .slice a' n c'] w (SameAll w) := by
  by_cases hn0 : 1 ≤ n
  · obtain rfl := h1 (by omega)
    obtain rfl := h2 (by omega)
    exact same_any b b' n c c' f w hn t1 t2
  · obtain rfl : n = 0 := by omega
    refine (same_zero a a' c c' w).mono ?_
    rintro e w1 ⟨rfl, rfl⟩
    exact ⟨rfl, 0, rfl⟩

/-- Every word's bits from hi on are nought. -/
def Low (n : Nat) (f : Nat → Int) (lo hi : Int) : Prop := lo < hi → ∀ i, i < n → Srt.un (f i) < 2 ^ hi.toNat

def ClearAll (n : Nat) (f : Nat → Int) (lo hi : Int) (w : World) (e : Ending) (w' : World) : Prop :=
  (e = .returned (.bool false) ∨ (e = .returned (.bool true) ∧ Low n f lo hi)) ∧ w' = w

theorem lt_of_shift {x k : Nat} (h : x >>> k = 0) : x < 2 ^ k := by
  rw [Nat.shiftRight_eq_div_pow] at h
  rcases Nat.lt_or_ge x (2 ^ k) with h' | h'
  · exact h'
  · have := Nat.div_pos h' (Nat.pow_pos (by decide)); omega

theorem clear_all (a : Option Addr) (n c : Nat) (f : Nat → Int) (lo hi : Int) (w : World) (hn : n ≤ 4096) (hlo : 0 ≤ lo) (h : Came w a n c f) :
    Calls Try.prog 15 #[.slice a n c, .int .i64 lo, .int .i64 hi] w (ClearAll n f lo hi w) := by
  by_cases h1 : hi ≤ lo ∨ 64 ≤ hi
  · refine (clear_skip (.slice a n c) lo hi w h1).mono ?_
    rintro e w1 ⟨rfl, rfl⟩
    refine ⟨.inr ⟨rfl, fun hl i _ => ?_⟩, rfl⟩
    have h2 : Srt.un (f i) < 2 ^ 64 := un_lt (f i)
    exact Nat.lt_of_lt_of_le h2 (Nat.pow_le_pow_right (by decide) (by omega))
  · rcases h with ⟨rfl, rfl, rfl⟩ | ⟨x, rfl, hsrc⟩
    · refine (clear_nil lo hi w (by omega) (by omega)).mono ?_
      rintro e w1 ⟨rfl, rfl⟩
      exact ⟨.inr ⟨rfl, fun _ i hi => by omega⟩, rfl⟩
    · refine (clear_any x n c f lo hi w hn (by omega) hlo (by omega) hsrc).mono ?_
      rintro e w1 ⟨h2, rfl⟩
      rcases h2 with rfl | ⟨rfl, hc⟩
      · exact ⟨.inl rfl, rfl⟩
      · exact ⟨.inr ⟨rfl, fun _ i hi => lt_of_shift (hc.2 i hi)⟩, rfl⟩

/-- The digits that are sorted by make the whole key. -/
theorem part_key {n : Nat} {f : Nat → Int} {lo hi : Int} (hlo : 0 ≤ lo) (h : Low n f lo hi) : ∀ x ∈ lst n f, Srt.part lo.toNat (passes lo hi) x = keyF lo hi x := by
  intro x hx
  simp only [lst, List.mem_map, List.mem_range] at hx
  obtain ⟨i, hi1, rfl⟩ := hx
  unfold keyF passes
  by_cases hh : hi ≤ lo
  · rw [if_pos hh]
    have : (if 0 ≤ hi - lo + 8 - 1 then ((hi - lo + 8 - 1) / 8).toNat else 0) = 0 := by split <;> omega
    rw [this]
    simp [Srt.part, Nat.mod_one]
  · rw [if_neg hh, if_pos (by omega)]
    have h1 := h (by omega) i hi1
    unfold Srt.part Srt.key
    apply Nat.mod_eq_of_lt
    rw [Nat.shiftRight_eq_div_pow]
    have e : hi.toNat = (hi.toNat - lo.toNat) + lo.toNat := by omega
    rw [e, Nat.pow_add] at h1
    have h2 : Srt.un (f i) / 2 ^ lo.toNat < 2 ^ (hi.toNat - lo.toNat) := Nat.div_lt_of_lt_mul (by rw [Nat.mul_comm]; exact h1)
    refine Nat.lt_of_lt_of_le h2 ?_
    rw [show (256 : Nat) = 2 ^ 8 from rfl, ← Nat.pow_mul]
    exact Nat.pow_le_pow_right (by decide) (by omega)
end Go.Proofs.Qxb6000725a.Rad
