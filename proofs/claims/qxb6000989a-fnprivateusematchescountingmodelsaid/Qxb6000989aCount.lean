/-
  countBefore (16).
-/
import Derived.Test.Qxb6000989aArea
namespace Go.Proofs.Qxb6000989a.Area
open Go.ChangeShapes Go.WideShapes Go.ChangeAt Go.RowKit

theorem ret_int {k : IntKind} {a b : Int} (h : a = b) : Ending.returned (.int k a) = .returned (.int k b) := by rw [h]

/-- The count when the outer loop stands at 129 + i. -/
def tot (k : Int) (A J : Nat) (i : Nat) : Int := if i ≤ A then (rows k i : Nat) else (rows k A + row k (129 + (A : Int)) J : Nat)
/-- How far the inner loop goes. -/
def lim (A J i : Nat) : Nat := if i = A then J else 191
theorem tot_succ (k : Int) (A J i : Nat) (h : i ≤ A) : tot k A J (i + 1) = (rows k i + row k (129 + (i : Int)) (lim A J i) : Nat) := by
  unfold tot lim
  by_cases e : i = A
  · subst e; rw [if_neg (by omega), if_pos rfl]
  · rw [if_pos (by omega), if_neg e]; rfl

def OutRel (k : Int) (A J : Nat) (nv cv : Value) : Prop := ∃ i : Nat, i ≤ A + 1 ∧ cv = .int .i64 (129 + (i : Int)) ∧ nv = .int .i64 (tot k A J i)
def InRel (k : Int) (A J i : Nat) (nv dv : Value) : Prop := ∃ j : Nat, j ≤ lim A J i ∧ dv = .int .i64 (64 + (j : Int)) ∧ nv = .int .i64 (rows k i + row k (129 + (i : Int)) j : Nat)

theorem out_start (k : Int) (A J : Nat) : OutRel k A J (.int .i64 0) (.int .i64 129) := ⟨0, by omega, rfl, by simp [tot, rows]⟩
theorem in_start (k : Int) (A J i : Nat) (h : i ≤ A) : InRel k A J i (.int .i64 (tot k A J i)) (.int .i64 64) :=
  ⟨0, Nat.zero_le _, rfl, by unfold tot; rw [if_pos h]; simp [row]⟩
theorem in_hit {k : Int} {A J i j R : Nat} (hR : R = rows k i + row k (129 + (i : Int)) j) (hj : j < lim A J i) (h : (ar (129 + (i : Int)) (64 + (j : Int)) == k) = true) :
    InRel k A J i (.int .i64 ((R : Int) + 1)) (.int .i64 (64 + (j : Int) + 1)) :=
  ⟨j + 1, hj, by go_num, by
    rw [row, if_pos (eq_of_beq h), hR]; go_num⟩
theorem in_miss {k : Int} {A J i j R : Nat} (hR : R = rows k i + row k (129 + (i : Int)) j) (hj : j < lim A J i) (h : (ar (129 + (i : Int)) (64 + (j : Int)) == k) = false) :
    InRel k A J i (.int .i64 (R : Int)) (.int .i64 (64 + (j : Int) + 1)) :=
  ⟨j + 1, hj, by go_num, by
    rw [row, if_neg (by simpa using h), hR]; go_num⟩
theorem out_next {k : Int} {A J i j R : Nat} (hi : i ≤ A) (hR : R = rows k i + row k (129 + (i : Int)) j) (hj : j = lim A J i) :
    OutRel k A J (.int .i64 (R : Int)) (.int .i64 (129 + (i : Int) + 1)) :=
  ⟨i + 1, by omega, by go_num, by rw [tot_succ k A J i hi, hR, hj]⟩

set_option maxHeartbeats 800000 in
theorem count_any (k a0 a1 : Int) (A J : Nat) (w : World) (hA : a0 = 129 + (A : Int)) (hJ : a1 = 64 + (J : Int)) (hA2 : A ≤ 125) (hJ2 : J ≤ 190) :
    Calls Try.prog 16 #[.int .i64 k, .int .u8 a0, .int .u8 a1] w fun e w' => e = .returned (.int .i64 (rows k A + row k (129 + (A : Int)) J : Nat)) ∧ w' = w := by
  subst hA hJ
  go_enter Try.func16, Try.ntmps16
  go_wp2
  go_loop [7, 8] (fun nv cv => OutRel k A J nv cv) (fun _ cv => 400 - (intOf cv).toNat)
  case atStart => exact out_start k A J
  case round =>
    obtain ⟨i, hi, rfl, rfl⟩ := hrel
    by_cases hlt : i ≤ A
    · have hst := in_start k A J i hlt
      go_wp2_with fail
      go_loop [7, 9] (fun nv dv => InRel k A J i nv dv) (fun _ dv => 400 - (intOf dv).toNat)
      case atStart => exact hst
      case round =>
        obtain ⟨j, hj, rfl, rfl⟩ := hrel
        clear hst
        have hr := row_le k (129 + (i : Int)) j
        have hsum := rows_le k i
        obtain ⟨R, hR⟩ : ∃ R, R = rows k i + row k (129 + (i : Int)) j := ⟨_, rfl⟩
        rw [← hR]
        have hRb : (R : Int) ≤ 100000 := by unfold lim at hj; split at hj <;> omega
        have HR : Hid (R = rows k i + row k (129 + (i : Int)) j) := hR
        have hj191 : j ≤ 191 := by unfold lim at hj; split at hj <;> omega
        clear hR hr hsum
        by_cases hjl : j < lim A J i
        · have hd : (64 : Int) + (j : Int) ≤ 254 := by unfold lim at hjl; split at hjl <;> omega
          have hbr : ((129 + (i : Int)) == (129 + (A : Int))) = false ∨ (((129 + (i : Int)) == (129 + (A : Int))) = true ∧ j < J) := by
            by_cases e : i = A
            · right
              unfold lim at hjl; rw [if_pos e] at hjl
              exact ⟨beq_iff_eq.2 (by omega), by omega⟩
            · left; exact beq_eq_false_iff_ne.2 (by omega)
          cases hk : (ar (129 + (i : Int)) (64 + (j : Int)) == k) with
          | true =>
            have hN := in_hit HR.out hjl hk
            rcases hbr with f1 | ⟨f1, f2⟩
            all_goals
              go_wp2_with (go_at_call 14; refine (area_any _ _ _).mono ?_; rintro e w' ⟨rfl, rfl⟩)
              go_round
              case rel => exact hN
              case measure => simp [intOf]; omega
          | false =>
            have hN := in_miss HR.out hjl hk
            rcases hbr with f1 | ⟨f1, f2⟩
            all_goals
              go_wp2_with (go_at_call 14; refine (area_any _ _ _).mono ?_; rintro e w' ⟨rfl, rfl⟩)
              go_round
              case rel => exact hN
              case measure => simp [intOf]; omega
        · have hN := out_next hlt HR.out (show j = lim A J i by omega)
          have hbr : (64 + (j : Int) = 255) ∨ (64 + (j : Int) ≤ 254 ∧ ((129 + (i : Int)) == (129 + (A : Int))) = true ∧ (64 : Int) + (J : Int) ≤ 64 + (j : Int)) := by
            by_cases e : i = A
            · right
              unfold lim at hjl hj; rw [if_pos e] at hjl hj
              exact ⟨by omega, beq_iff_eq.2 (by omega), by omega⟩
            · left
              unfold lim at hjl hj; rw [if_neg e] at hjl hj
              omega
          rcases hbr with f1 | ⟨f0, f1, f2⟩
          · have f3 : 254 < 64 + (j : Int) := by omega
            clear f1
            go_wp2
            go_round
            case rel => exact hN
            case measure => simp [intOf]; omega
          · go_wp2
            go_round
            case rel => exact hN
            case measure => simp [intOf]; omega
    · have HF : Hid (tot k A J i = (rows k A + row k (129 + (A : Int)) J : Nat)) := by
        show _ = _
        unfold tot
        rw [if_neg (by omega)]
      go_wp2
      go_ret
      exact ⟨ret_int HF.out, rfl⟩
end Go.Proofs.Qxb6000989a.Area
