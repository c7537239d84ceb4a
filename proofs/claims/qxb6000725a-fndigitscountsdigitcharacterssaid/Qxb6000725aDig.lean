/-
  THE WALKS SHARED BY THE TWO LAWS ON DIGITS: zzNumeral (8), zzCountDigits (9), ZZMakeRate (10), Rate.String (11), Rate.Digits (12).
-/
import Derived.Test.Qxb6000725aRows
import Derived.WalkKit
import Derived.ProofKit
import Derived.OpenShut
import Derived.ShutString
import Derived.Test.Qxb6000725aNum
namespace Go.Proofs.Qxb6000725a.Dig
open Go.ChangeShapes Go.WideShapes Go.ChangeAt Go.RowKit
open Go.Proofs.Qxb6000725a.Num

theorem Wf_int {s : ByteArray} {st k : Nat} (hsg : Sg s st) (h : st < k) (hall : AllD s st k) (hk : k = s.size) : Wf s 0 :=
  ⟨st, k, hsg, h, hall, .inl ⟨hk, rfl⟩⟩

theorem Wf_frac {s : ByteArray} {st k m : Nat} {a : Int} (hsg : Sg s st) (h : st < k) (hall : AllD s st k) (hk : k < s.size) (hp : (s[k].toNat : Int) = 46)
    (hm : k + 1 < m) (hall2 : AllD s (k + 1) m) (hms : m = s.size) (ha : a = (m : Int) - ((k : Int) + 1)) : Wf s a := by
  subst hms
  refine ⟨st, k, hsg, h, hall, .inr ⟨hm, ?_, hall2, by omega⟩⟩
  rw [getD_get s k hk]
  apply UInt8.toNat_inj.1
  have : (46 : UInt8).toNat = 46 := rfl
  omega

/-- WHAT zzNumeral ANSWERS. -/
def NumPost (s : ByteArray) (w : World) (e : Ending) (w' : World) : Prop :=
  ∃ (b : Bool) (a : Int), e = .returned (.tuple #[.bool b, .int .i64 a]) ∧ (b = true → Wf s a) ∧ w' = w

theorem post_no (s : ByteArray) (w : World) : NumPost s w (.returned (.tuple #[.bool false, .int .i64 0])) w := ⟨false, 0, rfl, by simp, rfl⟩
theorem post_int {s : ByteArray} {st k : Nat} (w : World) (hsg : Sg s st) (h : st < k) (hall : AllD s st k) (hk : k = s.size) : NumPost s w (.returned (.tuple #[.bool true, .int .i64 0])) w :=
  ⟨true, 0, rfl, fun _ => Wf_int hsg h hall hk, rfl⟩
theorem post_frac {s : ByteArray} {st k m : Nat} {a : Int} (w : World) (hsg : Sg s st) (h : st < k) (hall : AllD s st k) (hk : k < s.size) (hp : (s[k].toNat : Int) = 46)
    (hm : k + 1 < m) (hall2 : AllD s (k + 1) m) (hms : m = s.size) (ha : a = (m : Int) - ((k : Int) + 1)) : NumPost s w (.returned (.tuple #[.bool true, .int .i64 a])) w :=
  ⟨true, a, rfl, fun _ => Wf_frac hsg h hall hk hp hm hall2 hms ha, rfl⟩

set_option maxHeartbeats 800000 in
theorem numeral_neg (s : ByteArray) (w : World) (hs : s.size ≤ maxLen) (h0 : 0 < s.size) (hm : ((s[0].toNat : Int) == 45) = true) (hsg : Sg s 1) :
    Calls Try.prog 8 #[.string s] w (NumPost s w) := by
  unfold maxLen at hs
  go_enter Try.func8, Try.ntmps8
  go_wp2
  go_loop [4] (fun i => ∃ k : Nat, 1 ≤ k ∧ k ≤ s.size ∧ i = .int .i64 k ∧ AllD s 1 k) (fun i => s.size - (intOf i).toNat)
  case atStart => exact ⟨1, by omega, by omega, rfl, AllD_refl _ _⟩
  case round =>
    obtain ⟨k, hstk, hks, rfl, hall⟩ := hrel
    by_cases hlt : k < s.size
    · by_cases h1 : (48 : Int) ≤ (s[k].toNat : Int)
      · by_cases h2 : (s[k].toNat : Int) ≤ 57
        · go_wp2
          go_round
          case rel => exact ⟨k + 1, by omega, by omega, by go_num, AllD_snoc hall hlt h1 h2⟩
          case measure => simp [intOf]; omega
        · go_wp2
          all_goals (go_ret2; exact post_no s w)
      · by_cases hk : k ≤ 1
        · go_wp2
          all_goals (go_ret2; exact post_no s w)
        · by_cases hp : (s[k].toNat : Int) = 46
          · have hp1 : (s[k].toNat : Int) ≤ 46 := by omega
            have hp2 : 46 ≤ (s[k].toNat : Int) := by omega
            have HP : Hid ((s[k].toNat : Int) = 46) := hp
            clear hp
            go_wp2
            go_loop [4] (fun i => ∃ m : Nat, k + 1 ≤ m ∧ m ≤ s.size ∧ i = .int .i64 m ∧ AllD s (k + 1) m) (fun i => s.size - (intOf i).toNat)
            case atStart => exact ⟨k + 1, by omega, by omega, by go_num, AllD_refl _ _⟩
            case round =>
              obtain ⟨m, hm1, hm2, rfl, hall2⟩ := hrel
              by_cases hlt2 : m < s.size
              · by_cases g1 : (48 : Int) ≤ (s[m].toNat : Int)
                · by_cases g2 : (s[m].toNat : Int) ≤ 57
                  · go_wp2
                    go_round
                    case rel => exact ⟨m + 1, by omega, by omega, by go_num, AllD_snoc hall2 hlt2 g1 g2⟩
                    case measure => simp [intOf]; omega
                  · by_cases hmk : m ≤ k + 1
                    · have hb1 : ((m : Int) == (k : Int) + 1) = true := beq_iff_eq.2 (by omega)
                      go_wp2
                      go_ret2
                      exact post_no s w
                    · have hb1 : ((m : Int) == (k : Int) + 1) = false := beq_eq_false_iff_ne.2 (by omega)
                      have hb2 : ((m : Int) != (s.size : Int)) = true := by rw [bne_iff_ne]; omega
                      go_wp2
                      go_ret2
                      exact post_no s w
                · by_cases hmk : m ≤ k + 1
                  · have hb1 : ((m : Int) == (k : Int) + 1) = true := beq_iff_eq.2 (by omega)
                    go_wp2
                    go_ret2
                    exact post_no s w
                  · have hb1 : ((m : Int) == (k : Int) + 1) = false := beq_eq_false_iff_ne.2 (by omega)
                    have hb2 : ((m : Int) != (s.size : Int)) = true := by rw [bne_iff_ne]; omega
                    go_wp2
                    go_ret2
                    exact post_no s w
              · by_cases hmk : m ≤ k + 1
                · have hb1 : ((m : Int) == (k : Int) + 1) = true := beq_iff_eq.2 (by omega)
                  go_wp2
                  go_ret2
                  exact post_no s w
                · have hb1 : ((m : Int) == (k : Int) + 1) = false := beq_eq_false_iff_ne.2 (by omega)
                  have hb2 : ((m : Int) != (s.size : Int)) = false := by simp; omega
                  go_wp2
                  go_ret2
                  exact post_frac (a := (m : Int) - ((k : Int) + 1)) w hsg (by omega) hall hlt HP.out (by omega) hall2 (by omega) rfl
          · go_wp2
            all_goals (go_ret2; exact post_no s w)
    · by_cases hk : k ≤ 1
      · go_wp2
        all_goals (go_ret2; exact post_no s w)
      · go_wp2
        go_ret2
        exact post_int w hsg (by omega) hall (by omega)

set_option maxHeartbeats 800000 in
theorem numeral_pos (s : ByteArray) (w : World) (hs : s.size ≤ maxLen) (h0 : 0 < s.size) (hm : ((s[0].toNat : Int) == 45) = false) (hsg : Sg s 0) :
    Calls Try.prog 8 #[.string s] w (NumPost s w) := by
  unfold maxLen at hs
  go_enter Try.func8, Try.ntmps8
  go_wp2
  go_loop [4] (fun i => ∃ k : Nat, 0 ≤ k ∧ k ≤ s.size ∧ i = .int .i64 k ∧ AllD s 0 k) (fun i => s.size - (intOf i).toNat)
  case atStart => exact ⟨0, by omega, by omega, rfl, AllD_refl _ _⟩
  case round =>
    obtain ⟨k, hstk, hks, rfl, hall⟩ := hrel
    by_cases hlt : k < s.size
    · by_cases h1 : (48 : Int) ≤ (s[k].toNat : Int)
      · by_cases h2 : (s[k].toNat : Int) ≤ 57
        · go_wp2
          go_round
          case rel => exact ⟨k + 1, by omega, by omega, by go_num, AllD_snoc hall hlt h1 h2⟩
          case measure => simp [intOf]; omega
        · go_wp2
          all_goals (go_ret2; exact post_no s w)
      · by_cases hk : k ≤ 0
        · go_wp2
          all_goals (go_ret2; exact post_no s w)
        · by_cases hp : (s[k].toNat : Int) = 46
          · have hp1 : (s[k].toNat : Int) ≤ 46 := by omega
            have hp2 : 46 ≤ (s[k].toNat : Int) := by omega
            have HP : Hid ((s[k].toNat : Int) = 46) := hp
            clear hp
            go_wp2
            go_loop [4] (fun i => ∃ m : Nat, k + 1 ≤ m ∧ m ≤ s.size ∧ i = .int .i64 m ∧ AllD s (k + 1) m) (fun i => s.size - (intOf i).toNat)
            case atStart => exact ⟨k + 1, by omega, by omega, by go_num, AllD_refl _ _⟩
            case round =>
              obtain ⟨m, hm1, hm2, rfl, hall2⟩ := hrel
              by_cases hlt2 : m < s.size
              · by_cases g1 : (48 : Int) ≤ (s[m].toNat : Int)
                · by_cases g2 : (s[m].toNat : Int) ≤ 57
                  · go_wp2
                    go_round
                    case rel => exact ⟨m + 1, by omega, by omega, by go_num, AllD_snoc hall2 hlt2 g1 g2⟩
                    case measure => simp [intOf]; omega
                  · by_cases hmk : m ≤ k + 1
                    · have hb1 : ((m : Int) == (k : Int) + 1) = true := beq_iff_eq.2 (by omega)
                      go_wp2
                      go_ret2
                      exact post_no s w
                    · have hb1 : ((m : Int) == (k : Int) + 1) = false := beq_eq_false_iff_ne.2 (by omega)
                      have hb2 : ((m : Int) != (s.size : Int)) = true := by rw [bne_iff_ne]; omega
                      go_wp2
                      go_ret2
                      exact post_no s w
                · by_cases hmk : m ≤ k + 1
                  · have hb1 : ((m : Int) == (k : Int) + 1) = true := beq_iff_eq.2 (by omega)
                    go_wp2
                    go_ret2
                    exact post_no s w
                  · have hb1 : ((m : Int) == (k : Int) + 1) = false := beq_eq_false_iff_ne.2 (by omega)
                    have hb2 : ((m : Int) != (s.size : Int)) = true := by rw [bne_iff_ne]; omega
                    go_wp2
                    go_ret2
                    exact post_no s w
              · by_cases hmk : m ≤ k + 1
                · have hb1 : ((m : Int) == (k : Int) + 1) = true := beq_iff_eq.2 (by omega)
                  go_wp2
                  go_ret2
                  exact post_no s w
                · have hb1 : ((m : Int) == (k : Int) + 1) = false := beq_eq_false_iff_ne.2 (by omega)
                  have hb2 : ((m : Int) != (s.size : Int)) = false := by simp; omega
                  go_wp2
                  go_ret2
                  exact post_frac (a := (m : Int) - ((k : Int) + 1)) w hsg (by omega) hall hlt HP.out (by omega) hall2 (by omega) rfl
          · go_wp2
            all_goals (go_ret2; exact post_no s w)
    · by_cases hk : k ≤ 0
      · go_wp2
        all_goals (go_ret2; exact post_no s w)
      · go_wp2
        go_ret2
        exact post_int w hsg (by omega) hall (by omega)

set_option maxHeartbeats 800000 in
theorem numeral_nil (s : ByteArray) (w : World) (h0 : ¬ 0 < s.size) :
    Calls Try.prog 8 #[.string s] w (NumPost s w) := by
  have hd : decide ((0 : Int) < (s.size : Int)) = false := decide_eq_false (by omega)
  go_enter Try.func8, Try.ntmps8
  go_wp2
  go_loop [4] (fun i => i = .int .i64 0) (fun _ => 0)
  case atStart => rfl
  case round =>
    obtain rfl := hrel
    go_wp2
    go_ret2
    exact post_no s w

theorem numeral_any (s : ByteArray) (w : World) (hs : s.size ≤ maxLen) : Calls Try.prog 8 #[.string s] w (NumPost s w) := by
  by_cases h0 : 0 < s.size
  · cases hm : ((s[0].toNat : Int) == 45) with
    | true => exact numeral_neg s w hs h0 hm (Sg1 h0 (eq_of_beq hm))
    | false => exact numeral_pos s w hs h0 hm (Sg0 h0 (by simpa using hm))
  · exact numeral_nil s w h0
end Go.Proofs.Qxb6000725a.Dig
