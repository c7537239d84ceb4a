/-
  puArea (14), puBase (15).
-/
import Derived.Test.Qxb6000989aPriv
namespace Go.Proofs.Qxb6000989a.Area
open Go.ChangeShapes Go.WideShapes Go.ChangeAt Go.RowKit
set_option linter.unusedVariables false

/-- Which of the three areas a code lies in. -/
def ar (x y : Int) : Int :=
  if 170 ≤ x ∧ x ≤ 175 ∧ 161 ≤ y ∧ y ≤ 254 then 1 else if 248 ≤ x ∧ x ≤ 254 ∧ 161 ≤ y ∧ y ≤ 254 then 2 else if 161 ≤ x ∧ x ≤ 167 ∧ 64 ≤ y ∧ y ≤ 160 ∧ y ≠ 127 then 3 else 0

theorem area_a (x y : Int) (w : World) (hA : x < 161) :
    Calls Try.prog 14 #[.int .u8 x, .int .u8 y] w fun e w' => e = .returned (.int .i64 0) ∧ w' = w := by
  have f1 : decide (170 ≤ x) = false := decide_eq_false (by omega)
  have f5 : decide (248 ≤ x) = false := decide_eq_false (by omega)
  have f7 : decide (161 ≤ x) = false := decide_eq_false (by omega)
  go_enter Try.func14, Try.ntmps14
  go_wp2
  go_ret
  exact ⟨rfl, rfl⟩

theorem area_b1 (x y : Int) (w : World) (hA : 161 ≤ x) (hB : x ≤ 167) (hC : y < 64) :
    Calls Try.prog 14 #[.int .u8 x, .int .u8 y] w fun e w' => e = .returned (.int .i64 0) ∧ w' = w := by
  have f1 : decide (170 ≤ x) = false := decide_eq_false (by omega)
  have f5 : decide (248 ≤ x) = false := decide_eq_false (by omega)
  have f7 : 161 ≤ x := by omega
  have f8 : x ≤ 167 := by omega
  have f9 : decide (64 ≤ y) = false := decide_eq_false (by omega)
  go_enter Try.func14, Try.ntmps14
  go_wp2
  go_ret
  exact ⟨rfl, rfl⟩

theorem area_b2 (x y : Int) (w : World) (hA : 161 ≤ x) (hB : x ≤ 167) (hC : 64 ≤ y) (hD : y ≤ 160) (hE : y ≤ 127) (hF : 127 ≤ y) :
    Calls Try.prog 14 #[.int .u8 x, .int .u8 y] w fun e w' => e = .returned (.int .i64 0) ∧ w' = w := by
  have f1 : decide (170 ≤ x) = false := decide_eq_false (by omega)
  have f5 : decide (248 ≤ x) = false := decide_eq_false (by omega)
  have f7 : 161 ≤ x := by omega
  have f8 : x ≤ 167 := by omega
  have f9 : 64 ≤ y := by omega
  have f10 : y ≤ 160 := by omega
  have f11 : (y != 127) = false := by simp; omega
  go_enter Try.func14, Try.ntmps14
  go_wp2
  go_ret
  exact ⟨rfl, rfl⟩

theorem area_b3 (x y : Int) (w : World) (hA : 161 ≤ x) (hB : x ≤ 167) (hC : 64 ≤ y) (hD : y ≤ 160) (hE : y < 127 ∨ 127 < y) :
    Calls Try.prog 14 #[.int .u8 x, .int .u8 y] w fun e w' => e = .returned (.int .i64 3) ∧ w' = w := by
  have f1 : decide (170 ≤ x) = false := decide_eq_false (by omega)
  have f5 : decide (248 ≤ x) = false := decide_eq_false (by omega)
  have f7 : 161 ≤ x := by omega
  have f8 : x ≤ 167 := by omega
  have f9 : 64 ≤ y := by omega
  have f10 : y ≤ 160 := by omega
  have f11 : (y != 127) = true := by rw [bne_iff_ne]; omega
  go_enter Try.func14, Try.ntmps14
  go_wp2
  go_ret
  exact ⟨rfl, rfl⟩

theorem area_b4 (x y : Int) (w : World) (hA : 161 ≤ x) (hB : x ≤ 167) (hC : 160 < y) :
    Calls Try.prog 14 #[.int .u8 x, .int .u8 y] w fun e w' => e = .returned (.int .i64 0) ∧ w' = w := by
  have f1 : decide (170 ≤ x) = false := decide_eq_false (by omega)
  have f5 : decide (248 ≤ x) = false := decide_eq_false (by omega)
  have f7 : 161 ≤ x := by omega
  have f8 : x ≤ 167 := by omega
  have f9 : 64 ≤ y := by omega
  have f10 : decide (y ≤ 160) = false := decide_eq_false (by omega)
  go_enter Try.func14, Try.ntmps14
  go_wp2
  go_ret
  exact ⟨rfl, rfl⟩

theorem area_c (x y : Int) (w : World) (hA : 168 ≤ x) (hB : x ≤ 169) :
    Calls Try.prog 14 #[.int .u8 x, .int .u8 y] w fun e w' => e = .returned (.int .i64 0) ∧ w' = w := by
  have f1 : decide (170 ≤ x) = false := decide_eq_false (by omega)
  have f5 : decide (248 ≤ x) = false := decide_eq_false (by omega)
  have f7 : 161 ≤ x := by omega
  have f8 : decide (x ≤ 167) = false := decide_eq_false (by omega)
  go_enter Try.func14, Try.ntmps14
  go_wp2
  go_ret
  exact ⟨rfl, rfl⟩

theorem area_d1 (x y : Int) (w : World) (hA : 170 ≤ x) (hB : x ≤ 175) (hC : y < 161) :
    Calls Try.prog 14 #[.int .u8 x, .int .u8 y] w fun e w' => e = .returned (.int .i64 0) ∧ w' = w := by
  have f1 : 170 ≤ x := by omega
  have f2 : x ≤ 175 := by omega
  have f3 : decide (161 ≤ y) = false := decide_eq_false (by omega)
  have f5 : decide (248 ≤ x) = false := decide_eq_false (by omega)
  have f7 : 161 ≤ x := by omega
  have f8 : decide (x ≤ 167) = false := decide_eq_false (by omega)
  go_enter Try.func14, Try.ntmps14
  go_wp2
  go_ret
  exact ⟨rfl, rfl⟩

theorem area_d2 (x y : Int) (w : World) (hA : 170 ≤ x) (hB : x ≤ 175) (hC : 161 ≤ y) (hD : y ≤ 254) :
    Calls Try.prog 14 #[.int .u8 x, .int .u8 y] w fun e w' => e = .returned (.int .i64 1) ∧ w' = w := by
  have f1 : 170 ≤ x := by omega
  have f2 : x ≤ 175 := by omega
  have f3 : 161 ≤ y := by omega
  have f4 : y ≤ 254 := by omega
  go_enter Try.func14, Try.ntmps14
  go_wp2
  go_ret
  exact ⟨rfl, rfl⟩

theorem area_d3 (x y : Int) (w : World) (hA : 170 ≤ x) (hB : x ≤ 175) (hC : 254 < y) :
    Calls Try.prog 14 #[.int .u8 x, .int .u8 y] w fun e w' => e = .returned (.int .i64 0) ∧ w' = w := by
  have f1 : 170 ≤ x := by omega
  have f2 : x ≤ 175 := by omega
  have f3 : 161 ≤ y := by omega
  have f4 : decide (y ≤ 254) = false := decide_eq_false (by omega)
  have f5 : decide (248 ≤ x) = false := decide_eq_false (by omega)
  have f7 : 161 ≤ x := by omega
  have f8 : decide (x ≤ 167) = false := decide_eq_false (by omega)
  go_enter Try.func14, Try.ntmps14
  go_wp2
  go_ret
  exact ⟨rfl, rfl⟩

theorem area_e (x y : Int) (w : World) (hA : 176 ≤ x) (hB : x ≤ 247) :
    Calls Try.prog 14 #[.int .u8 x, .int .u8 y] w fun e w' => e = .returned (.int .i64 0) ∧ w' = w := by
  have f1 : 170 ≤ x := by omega
  have f2 : decide (x ≤ 175) = false := decide_eq_false (by omega)
  have f5 : decide (248 ≤ x) = false := decide_eq_false (by omega)
  have f7 : 161 ≤ x := by omega
  have f8 : decide (x ≤ 167) = false := decide_eq_false (by omega)
  go_enter Try.func14, Try.ntmps14
  go_wp2
  go_ret
  exact ⟨rfl, rfl⟩

theorem area_f1 (x y : Int) (w : World) (hA : 248 ≤ x) (hB : x ≤ 254) (hC : y < 161) :
    Calls Try.prog 14 #[.int .u8 x, .int .u8 y] w fun e w' => e = .returned (.int .i64 0) ∧ w' = w := by
  have f1 : 170 ≤ x := by omega
  have f2 : decide (x ≤ 175) = false := decide_eq_false (by omega)
  have f5 : 248 ≤ x := by omega
  have f6 : x ≤ 254 := by omega
  have f3 : decide (161 ≤ y) = false := decide_eq_false (by omega)
  have f7 : 161 ≤ x := by omega
  have f8 : decide (x ≤ 167) = false := decide_eq_false (by omega)
  go_enter Try.func14, Try.ntmps14
  go_wp2
  go_ret
  exact ⟨rfl, rfl⟩

theorem area_f2 (x y : Int) (w : World) (hA : 248 ≤ x) (hB : x ≤ 254) (hC : 161 ≤ y) (hD : y ≤ 254) :
    Calls Try.prog 14 #[.int .u8 x, .int .u8 y] w fun e w' => e = .returned (.int .i64 2) ∧ w' = w := by
  have f1 : 170 ≤ x := by omega
  have f2 : decide (x ≤ 175) = false := decide_eq_false (by omega)
  have f5 : 248 ≤ x := by omega
  have f6 : x ≤ 254 := by omega
  have f3 : 161 ≤ y := by omega
  have f4 : y ≤ 254 := by omega
  go_enter Try.func14, Try.ntmps14
  go_wp2
  go_ret
  exact ⟨rfl, rfl⟩

theorem area_f3 (x y : Int) (w : World) (hA : 248 ≤ x) (hB : x ≤ 254) (hC : 254 < y) :
    Calls Try.prog 14 #[.int .u8 x, .int .u8 y] w fun e w' => e = .returned (.int .i64 0) ∧ w' = w := by
  have f1 : 170 ≤ x := by omega
  have f2 : decide (x ≤ 175) = false := decide_eq_false (by omega)
  have f5 : 248 ≤ x := by omega
  have f6 : x ≤ 254 := by omega
  have f3 : 161 ≤ y := by omega
  have f4 : decide (y ≤ 254) = false := decide_eq_false (by omega)
  have f7 : 161 ≤ x := by omega
  have f8 : decide (x ≤ 167) = false := decide_eq_false (by omega)
  go_enter Try.func14, Try.ntmps14
  go_wp2
  go_ret
  exact ⟨rfl, rfl⟩

theorem area_g (x y : Int) (w : World) (hA : 255 ≤ x) :
    Calls Try.prog 14 #[.int .u8 x, .int .u8 y] w fun e w' => e = .returned (.int .i64 0) ∧ w' = w := by
  have f1 : 170 ≤ x := by omega
  have f2 : decide (x ≤ 175) = false := decide_eq_false (by omega)
  have f5 : 248 ≤ x := by omega
  have f6 : decide (x ≤ 254) = false := decide_eq_false (by omega)
  have f7 : 161 ≤ x := by omega
  have f8 : decide (x ≤ 167) = false := decide_eq_false (by omega)
  go_enter Try.func14, Try.ntmps14
  go_wp2
  go_ret
  exact ⟨rfl, rfl⟩

theorem area_any (x y : Int) (w : World) :
    Calls Try.prog 14 #[.int .u8 x, .int .u8 y] w fun e w' => e = .returned (.int .i64 (ar x y)) ∧ w' = w := by
  have key : ∀ K : Int, ar x y = K → (Calls Try.prog 14 #[.int .u8 x, .int .u8 y] w fun e w' => e = .returned (.int .i64 K) ∧ w' = w) → (Calls Try.prog 14 #[.int .u8 x, .int .u8 y] w fun e w' => e = .returned (.int .i64 (ar x y)) ∧ w' = w) := by
    rintro K rfl h; exact h
  by_cases x1 : x < 161
  · exact key _ (by unfold ar; rw [if_neg (by omega), if_neg (by omega), if_neg (by omega)]) (area_a x y w (by omega))
  by_cases x2 : x ≤ 167
  · by_cases y1 : y < 64
    · exact key _ (by unfold ar; rw [if_neg (by omega), if_neg (by omega), if_neg (by omega)]) (area_b1 x y w (by omega) (by omega) (by omega))
    by_cases y2 : y ≤ 160
    · by_cases y3 : y = 127
      · exact key _ (by unfold ar; rw [if_neg (by omega), if_neg (by omega), if_neg (by omega)]) (area_b2 x y w (by omega) (by omega) (by omega) (by omega) (by omega) (by omega))
      · exact key _ (by unfold ar; rw [if_neg (by omega), if_neg (by omega), if_pos (by omega)]) (area_b3 x y w (by omega) (by omega) (by omega) (by omega) (by omega))
    · exact key _ (by unfold ar; rw [if_neg (by omega), if_neg (by omega), if_neg (by omega)]) (area_b4 x y w (by omega) (by omega) (by omega))
  by_cases x3 : x ≤ 169
  · exact key _ (by unfold ar; rw [if_neg (by omega), if_neg (by omega), if_neg (by omega)]) (area_c x y w (by omega) (by omega))
  by_cases x4 : x ≤ 175
  · by_cases y1 : y < 161
    · exact key _ (by unfold ar; rw [if_neg (by omega), if_neg (by omega), if_neg (by omega)]) (area_d1 x y w (by omega) (by omega) (by omega))
    by_cases y2 : y ≤ 254
    · exact key _ (by unfold ar; rw [if_pos (by omega)]) (area_d2 x y w (by omega) (by omega) (by omega) (by omega))
    · exact key _ (by unfold ar; rw [if_neg (by omega), if_neg (by omega), if_neg (by omega)]) (area_d3 x y w (by omega) (by omega) (by omega))
  by_cases x5 : x ≤ 247
  · exact key _ (by unfold ar; rw [if_neg (by omega), if_neg (by omega), if_neg (by omega)]) (area_e x y w (by omega) (by omega))
  by_cases x6 : x ≤ 254
  · by_cases y1 : y < 161
    · exact key _ (by unfold ar; rw [if_neg (by omega), if_neg (by omega), if_neg (by omega)]) (area_f1 x y w (by omega) (by omega) (by omega))
    by_cases y2 : y ≤ 254
    · exact key _ (by unfold ar; rw [if_neg (by omega), if_pos (by omega)]) (area_f2 x y w (by omega) (by omega) (by omega) (by omega))
    · exact key _ (by unfold ar; rw [if_neg (by omega), if_neg (by omega), if_neg (by omega)]) (area_f3 x y w (by omega) (by omega) (by omega))
  · exact key _ (by unfold ar; rw [if_neg (by omega), if_neg (by omega), if_neg (by omega)]) (area_g x y w (by omega))

theorem base1 (w : World) : Calls Try.prog 15 #[.int .i64 1] w fun e w' => e = .returned (.int .i32 57344) ∧ w' = w := by
  go_enter Try.func15, Try.ntmps15
  go_wp2
  go_ret
  exact ⟨rfl, rfl⟩
theorem base2 (w : World) : Calls Try.prog 15 #[.int .i64 2] w fun e w' => e = .returned (.int .i32 57908) ∧ w' = w := by
  go_enter Try.func15, Try.ntmps15
  go_wp2
  go_ret
  exact ⟨rfl, rfl⟩
theorem base3 (w : World) : Calls Try.prog 15 #[.int .i64 3] w fun e w' => e = .returned (.int .i32 58566) ∧ w' = w := by
  go_enter Try.func15, Try.ntmps15
  go_wp2
  go_ret
  exact ⟨rfl, rfl⟩

/-! ### counting, in plain numbers -/
def row (k c : Int) : Nat → Nat
  | 0 => 0
  | j + 1 => row k c j + if ar c (64 + (j : Int)) = k then 1 else 0
def rows (k : Int) : Nat → Nat
  | 0 => 0
  | m + 1 => rows k m + row k (129 + (m : Int)) 191

theorem row_le (k c : Int) (j : Nat) : row k c j ≤ j := by
  induction j with
  | zero => simp [row]
  | succ j ih => simp only [row]; split <;> omega
theorem rows_le (k : Int) (m : Nat) : rows k m ≤ 191 * m := by
  induction m with
  | zero => simp [rows]
  | succ m ih => have := row_le k (129 + (m : Int)) 191; simp only [rows]; omega

theorem ar_one (c d : Int) : ar c d = 1 ↔ (170 ≤ c ∧ c ≤ 175 ∧ 161 ≤ d ∧ d ≤ 254) := by unfold ar; split <;> (try split) <;> (try split) <;> omega
theorem ar_two (c d : Int) : ar c d = 2 ↔ (248 ≤ c ∧ c ≤ 254 ∧ 161 ≤ d ∧ d ≤ 254) := by unfold ar; split <;> (try split) <;> (try split) <;> omega
theorem ar_three (c d : Int) : ar c d = 3 ↔ (161 ≤ c ∧ c ≤ 167 ∧ 64 ≤ d ∧ d ≤ 160 ∧ d ≠ 127) := by unfold ar; split <;> (try split) <;> (try split) <;> omega

theorem row1 (c : Int) (j : Nat) (hj : j ≤ 191) : row 1 c j = if 170 ≤ c ∧ c ≤ 175 then j - 97 else 0 := by
  induction j with
  | zero => simp [row]
  | succ j ih =>
    simp only [row, ar_one, ih (by omega)]
    by_cases h : 170 ≤ c ∧ c ≤ 175
    · rw [if_pos h, if_pos h]
      by_cases h2 : 97 ≤ j
      · rw [if_pos (by omega)]; omega
      · rw [if_neg (by omega)]; omega
    · rw [if_neg h, if_neg h, if_neg (by omega)]
theorem row2 (c : Int) (j : Nat) (hj : j ≤ 191) : row 2 c j = if 248 ≤ c ∧ c ≤ 254 then j - 97 else 0 := by
  induction j with
  | zero => simp [row]
  | succ j ih =>
    simp only [row, ar_two, ih (by omega)]
    by_cases h : 248 ≤ c ∧ c ≤ 254
    · rw [if_pos h, if_pos h]
      by_cases h2 : 97 ≤ j
      · rw [if_pos (by omega)]; omega
      · rw [if_neg (by omega)]; omega
    · rw [if_neg h, if_neg h, if_neg (by omega)]
theorem row3 (c : Int) (j : Nat) (hj : j ≤ 191) : row 3 c j = if 161 ≤ c ∧ c ≤ 167 then (if j ≤ 63 then j else if j ≤ 97 then j - 1 else 96) else 0 := by
  induction j with
  | zero => simp [row]
  | succ j ih =>
    simp only [row, ar_three, ih (by omega)]
    by_cases h : 161 ≤ c ∧ c ≤ 167
    · simp only [if_pos h]
      (repeat' split) <;> omega
    · simp only [if_neg h]
      rw [if_neg (by omega)]
theorem row3_all (c : Int) : row 3 c 191 = if 161 ≤ c ∧ c ≤ 167 then 96 else 0 := by
  rw [row3 c 191 (Nat.le_refl _)]; rfl

theorem rows1 (m : Nat) (hm : m ≤ 46) : rows 1 m = 94 * (m - 41) := by
  induction m with
  | zero => simp [rows]
  | succ m ih =>
    simp only [rows, ih (by omega), row1 _ 191 (Nat.le_refl _)]
    split <;> omega
theorem rows2 (m : Nat) (hm : m ≤ 125) : rows 2 m = 94 * (m - 119) := by
  induction m with
  | zero => simp [rows]
  | succ m ih =>
    simp only [rows, ih (by omega), row2 _ 191 (Nat.le_refl _)]
    split <;> omega
theorem rows3 (m : Nat) (hm : m ≤ 38) : rows 3 m = 96 * (m - 32) := by
  induction m with
  | zero => simp [rows]
  | succ m ih =>
    simp only [rows, ih (by omega), row3_all]
    split <;> omega
end Go.Proofs.Qxb6000989a.Area
