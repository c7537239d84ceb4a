/-
  THE WALKS SHARED BY THE TWO LAWS ON DIGITS, second text: Rate.String (11), Rate.Digits (12), zzCountDigits (9).
-/
import Derived.Test.Qxb6000725aDig
import Derived.Handy
namespace Go.Proofs.Qxb6000725a.Dig
open Go.ChangeShapes Go.WideShapes Go.ChangeAt Go.RowKit
open Go.Proofs.Qxb6000725a.Num

theorem isEmpty_no {s : ByteArray} (h0 : 0 < s.size) : s.toList.isEmpty = false := by
  rw [ByteArray.toList_eq]
  rw [List.isEmpty_eq_false_iff]
  intro e
  have h1 := congrArg List.length e
  have h2 : s.data.toList.length = s.size := by simp
  rw [h2] at h1
  simp only [List.length_nil] at h1
  omega

theorem string_some (s : ByteArray) (u p : Int) (wd : Bool) (w : World) (h0 : 0 < s.size) :
    Calls Try.prog 11 #[.agg #[.string s, .int .i64 u, .int .i32 p, .bool wd]] w fun e w' => e = .returned (.string s) ∧ w' = w.alloc (.cells #[.string s, .int .i64 u, .int .i32 p, .bool wd] 27) := by
  have hs := isEmpty_no h0
  go_enter Try.func11, Try.ntmps11
  go_wp2
  go_ret
  exact ⟨rfl, rfl⟩

/-- How many digits Digits tells. -/
def digN (s : ByteArray) (p : Int) : Int := (s.size : Int) - (if s.data.toList.getD 0 0 = 45 then 1 else 0) - (if 0 < p then 1 else 0)

theorem ret_int {k : IntKind} {a b : Int} (h : a = b) : Ending.returned (.int k a) = .returned (.int k b) := by rw [h]

theorem digits_any (s : ByteArray) (u p : Int) (wd : Bool) (w : World) (h0 : 0 < s.size) (hm : s.size ≤ 2000000) :
    Calls Try.prog 12 #[.agg #[.string s, .int .i64 u, .int .i32 p, .bool wd]] w fun e w' => e = .returned (.int .i64 (digN s p)) ∧ w' = (w.alloc (.cells #[.string s, .int .i64 u, .int .i32 p, .bool wd] 27)).alloc (.cells #[.string s, .int .i64 u, .int .i32 p, .bool wd] 27) := by
  cases h45 : ((s[0].toNat : Int) == 45) with
  | true =>
    have e0 : s.data.toList.getD 0 0 = 45 := by
      rw [getD_get s 0 h0]; apply UInt8.toNat_inj.1; have : (45 : UInt8).toNat = 45 := rfl; have := eq_of_beq h45; omega
    have H : Hid (∀ z : Int, z = (s.size : Int) - 1 - (if 0 < p then 1 else 0) → z = digN s p) := by intro z hz; unfold digN; rw [if_pos e0]; exact hz
    clear e0
    by_cases hp : 0 < p
    all_goals
      go_enter Try.func12, Try.ntmps12
      go_wp2_with (go_at_call 11; refine (string_some s u p wd _ h0).mono ?_; rintro e w' ⟨rfl, rfl⟩)
      go_ret
      refine ⟨ret_int (H.out _ ?_), rfl⟩
      split <;> omega
  | false =>
    have e0 : s.data.toList.getD 0 0 ≠ 45 := by
      rw [getD_get s 0 h0]; intro e; rw [e] at h45; exact absurd h45 (by decide)
    have H : Hid (∀ z : Int, z = (s.size : Int) - (if 0 < p then 1 else 0) → z = digN s p) := by intro z hz; unfold digN; rw [if_neg e0]; omega
    clear e0
    by_cases hp : 0 < p
    all_goals
      go_enter Try.func12, Try.ntmps12
      go_wp2_with (go_at_call 11; refine (string_some s u p wd _ h0).mono ?_; rintro e w' ⟨rfl, rfl⟩)
      go_ret
      refine ⟨ret_int (H.out _ ?_), rfl⟩
      split <;> omega

/-- zzCountDigits counts the digits. -/
theorem dig_le (l : List UInt8) : dig l ≤ l.length := List.length_filter_le _ _
theorem take_snoc (s : ByteArray) (k : Nat) (h : k < s.size) : s.data.toList.take (k + 1) = s.data.toList.take k ++ [s[k]] := by
  rw [List.take_succ_eq_append_getElem (by simpa using h)]; rfl
theorem dig_snoc (s : ByteArray) (k : Nat) (h : k < s.size) : (dig (s.data.toList.take (k + 1)) : Int) = (dig (s.data.toList.take k) : Int) + if 48 ≤ (s[k].toNat : Int) ∧ (s[k].toNat : Int) ≤ 57 then 1 else 0 := by
  rw [take_snoc s k h, dig_append]
  have e : isD s[k] = decide (48 ≤ (s[k].toNat : Int) ∧ (s[k].toNat : Int) ≤ 57) := by
    rw [Bool.eq_iff_iff]; simp [isD]; omega
  have e2 : dig [s[k]] = if isD s[k] then 1 else 0 := by rw [dig_cons]; simp [dig]
  rw [e2, e]
  by_cases hh : 48 ≤ (s[k].toNat : Int) ∧ (s[k].toNat : Int) ≤ 57 <;> simp [hh]

set_option maxHeartbeats 400000 in
theorem count_any (s : ByteArray) (w : World) (hs : s.size ≤ 2000000) :
    Calls Try.prog 9 #[.string s] w fun e w' => e = .returned (.int .i64 (dig s.data.toList)) ∧ w' = w := by
  go_enter Try.func9, Try.ntmps9
  go_wp2
  go_loop [3, 4] (fun n i => ∃ k : Nat, k ≤ s.size ∧ i = .int .i64 k ∧ n = .int .i64 (dig (s.data.toList.take k))) (fun _ i => s.size - (intOf i).toNat)
  case atStart => exact ⟨0, Nat.zero_le _, rfl, rfl⟩
  case round =>
    obtain ⟨k, hk, rfl, rfl⟩ := hrel
    have hd := dig_le (s.data.toList.take k)
    have hl : (s.data.toList.take k).length ≤ k := List.length_take_le _ _
    by_cases hlt : k < s.size
    · have HS : Hid ((dig (s.data.toList.take (k + 1)) : Int) = (dig (s.data.toList.take k) : Int) + if 48 ≤ (s[k].toNat : Int) ∧ (s[k].toNat : Int) ≤ 57 then 1 else 0) := dig_snoc s k hlt
      go_wp2
      all_goals
        go_round
        case rel => exact ⟨k + 1, by omega, by go_num, by rw [HS.out]; first | rw [if_pos ⟨‹_›, ‹_›⟩] | (rw [if_neg (by omega)]; go_num)⟩
        case measure => simp [intOf]; omega
    · go_wp2
      go_ret
      exact ⟨ret_int (by rw [List.take_of_length_le (by simp; omega)]), rfl⟩
end Go.Proofs.Qxb6000725a.Dig
