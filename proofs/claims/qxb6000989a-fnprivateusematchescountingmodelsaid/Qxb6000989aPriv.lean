/-
  privateUse (19), ZZprivateUse (13), validTwo (12).
-/
import Derived.Test.Qxb6000989aCode
namespace Go.Proofs.Qxb6000989a.Priv
open Go.ChangeShapes Go.WideShapes Go.ChangeAt Go.RowKit
set_option linter.unusedVariables false

theorem priv_c1 (b c : Nat) (x y : Int) (w : World) (h0 : w.cell? ⟨b, 0, none⟩ = some (.int .u8 x)) (h1 : w.cell? ⟨b, 1, none⟩ = some (.int .u8 y)) (hx : 0 ≤ x) (hx2 : x ≤ 255) (hy : 0 ≤ y) (hy2 : y ≤ 255) (hA : x < 161) :
    Calls Try.prog 19 #[.slice (some ⟨b, 0, none⟩) 2 c] w fun e w' => e = .returned (.tuple #[.int .i32 (0), .bool false]) ∧ ∃ k, w' = w.drewN k := by
  have f1 : decide (170 ≤ x) = false := decide_eq_false (by omega)
  have f4 : decide (248 ≤ x) = false := decide_eq_false (by omega)
  have f6 : decide (161 ≤ x) = false := decide_eq_false (by omega)
  go_enter Try.func19, Try.ntmps19
  go_wp2
  go_quiet (fail)
  go_wp2
  go_ret2
  exact ⟨rfl, _, rfl⟩

theorem priv_c2a (b c : Nat) (x y : Int) (w : World) (h0 : w.cell? ⟨b, 0, none⟩ = some (.int .u8 x)) (h1 : w.cell? ⟨b, 1, none⟩ = some (.int .u8 y)) (hx : 0 ≤ x) (hx2 : x ≤ 255) (hy : 0 ≤ y) (hy2 : y ≤ 255) (hA : 161 ≤ x) (hB : x ≤ 167) (hC : y ≤ 160) (hD : 127 < y) :
    Calls Try.prog 19 #[.slice (some ⟨b, 0, none⟩) 2 c] w fun e w' => e = .returned (.tuple #[.int .i32 (58566 + (x - 161) * 96 + (y - 64 - 1)), .bool true]) ∧ ∃ k, w' = w.drewN k := by
  have f1 : decide (170 ≤ x) = false := decide_eq_false (by omega)
  have f4 : decide (248 ≤ x) = false := decide_eq_false (by omega)
  have f6 : 161 ≤ x := by omega
  have f7 : x ≤ 167 := by omega
  have f8 : y ≤ 160 := by omega
  go_enter Try.func19, Try.ntmps19
  go_wp2
  go_quiet (fail)
  go_wp2
  go_ret2
  exact ⟨rfl, _, rfl⟩

theorem priv_c2b (b c : Nat) (x y : Int) (w : World) (h0 : w.cell? ⟨b, 0, none⟩ = some (.int .u8 x)) (h1 : w.cell? ⟨b, 1, none⟩ = some (.int .u8 y)) (hx : 0 ≤ x) (hx2 : x ≤ 255) (hy : 0 ≤ y) (hy2 : y ≤ 255) (hA : 161 ≤ x) (hB : x ≤ 167) (hC : y ≤ 160) (hD : y ≤ 127) :
    Calls Try.prog 19 #[.slice (some ⟨b, 0, none⟩) 2 c] w fun e w' => e = .returned (.tuple #[.int .i32 (58566 + (x - 161) * 96 + (y - 64)), .bool true]) ∧ ∃ k, w' = w.drewN k := by
  have f1 : decide (170 ≤ x) = false := decide_eq_false (by omega)
  have f4 : decide (248 ≤ x) = false := decide_eq_false (by omega)
  have f6 : 161 ≤ x := by omega
  have f7 : x ≤ 167 := by omega
  have f8 : y ≤ 160 := by omega
  go_enter Try.func19, Try.ntmps19
  go_wp2
  go_quiet (fail)
  go_wp2
  go_ret2
  exact ⟨rfl, _, rfl⟩

theorem priv_c3 (b c : Nat) (x y : Int) (w : World) (h0 : w.cell? ⟨b, 0, none⟩ = some (.int .u8 x)) (h1 : w.cell? ⟨b, 1, none⟩ = some (.int .u8 y)) (hx : 0 ≤ x) (hx2 : x ≤ 255) (hy : 0 ≤ y) (hy2 : y ≤ 255) (hA : 161 ≤ x) (hB : x ≤ 167) (hC : 161 ≤ y) :
    Calls Try.prog 19 #[.slice (some ⟨b, 0, none⟩) 2 c] w fun e w' => e = .returned (.tuple #[.int .i32 (0), .bool false]) ∧ ∃ k, w' = w.drewN k := by
  have f1 : decide (170 ≤ x) = false := decide_eq_false (by omega)
  have f4 : decide (248 ≤ x) = false := decide_eq_false (by omega)
  have f6 : 161 ≤ x := by omega
  have f7 : x ≤ 167 := by omega
  have f8 : decide (y ≤ 160) = false := decide_eq_false (by omega)
  go_enter Try.func19, Try.ntmps19
  go_wp2
  go_quiet (fail)
  go_wp2
  go_ret2
  exact ⟨rfl, _, rfl⟩

theorem priv_c4 (b c : Nat) (x y : Int) (w : World) (h0 : w.cell? ⟨b, 0, none⟩ = some (.int .u8 x)) (h1 : w.cell? ⟨b, 1, none⟩ = some (.int .u8 y)) (hx : 0 ≤ x) (hx2 : x ≤ 255) (hy : 0 ≤ y) (hy2 : y ≤ 255) (hA : 168 ≤ x) (hB : x ≤ 169) :
    Calls Try.prog 19 #[.slice (some ⟨b, 0, none⟩) 2 c] w fun e w' => e = .returned (.tuple #[.int .i32 (0), .bool false]) ∧ ∃ k, w' = w.drewN k := by
  have f1 : decide (170 ≤ x) = false := decide_eq_false (by omega)
  have f4 : decide (248 ≤ x) = false := decide_eq_false (by omega)
  have f6 : 161 ≤ x := by omega
  have f7 : decide (x ≤ 167) = false := decide_eq_false (by omega)
  go_enter Try.func19, Try.ntmps19
  go_wp2
  go_quiet (fail)
  go_wp2
  go_ret2
  exact ⟨rfl, _, rfl⟩

theorem priv_c5 (b c : Nat) (x y : Int) (w : World) (h0 : w.cell? ⟨b, 0, none⟩ = some (.int .u8 x)) (h1 : w.cell? ⟨b, 1, none⟩ = some (.int .u8 y)) (hx : 0 ≤ x) (hx2 : x ≤ 255) (hy : 0 ≤ y) (hy2 : y ≤ 255) (hA : 170 ≤ x) (hB : x ≤ 175) (hC : 161 ≤ y) :
    Calls Try.prog 19 #[.slice (some ⟨b, 0, none⟩) 2 c] w fun e w' => e = .returned (.tuple #[.int .i32 (57344 + (x - 170) * 94 + y - 161), .bool true]) ∧ ∃ k, w' = w.drewN k := by
  have f1 : 170 ≤ x := by omega
  have f2 : x ≤ 175 := by omega
  have f3 : 161 ≤ y := by omega
  go_enter Try.func19, Try.ntmps19
  go_wp2
  go_quiet (fail)
  go_wp2
  go_ret2
  exact ⟨rfl, _, rfl⟩

theorem priv_c6 (b c : Nat) (x y : Int) (w : World) (h0 : w.cell? ⟨b, 0, none⟩ = some (.int .u8 x)) (h1 : w.cell? ⟨b, 1, none⟩ = some (.int .u8 y)) (hx : 0 ≤ x) (hx2 : x ≤ 255) (hy : 0 ≤ y) (hy2 : y ≤ 255) (hA : 170 ≤ x) (hB : x ≤ 175) (hC : y ≤ 160) :
    Calls Try.prog 19 #[.slice (some ⟨b, 0, none⟩) 2 c] w fun e w' => e = .returned (.tuple #[.int .i32 (0), .bool false]) ∧ ∃ k, w' = w.drewN k := by
  have f1 : 170 ≤ x := by omega
  have f2 : x ≤ 175 := by omega
  have f3 : decide (161 ≤ y) = false := decide_eq_false (by omega)
  have f4 : decide (248 ≤ x) = false := decide_eq_false (by omega)
  have f6 : 161 ≤ x := by omega
  have f7 : decide (x ≤ 167) = false := decide_eq_false (by omega)
  go_enter Try.func19, Try.ntmps19
  go_wp2
  go_quiet (fail)
  go_wp2
  go_ret2
  exact ⟨rfl, _, rfl⟩

theorem priv_c7 (b c : Nat) (x y : Int) (w : World) (h0 : w.cell? ⟨b, 0, none⟩ = some (.int .u8 x)) (h1 : w.cell? ⟨b, 1, none⟩ = some (.int .u8 y)) (hx : 0 ≤ x) (hx2 : x ≤ 255) (hy : 0 ≤ y) (hy2 : y ≤ 255) (hA : 176 ≤ x) (hB : x ≤ 247) :
    Calls Try.prog 19 #[.slice (some ⟨b, 0, none⟩) 2 c] w fun e w' => e = .returned (.tuple #[.int .i32 (0), .bool false]) ∧ ∃ k, w' = w.drewN k := by
  have f1 : 170 ≤ x := by omega
  have f2 : decide (x ≤ 175) = false := decide_eq_false (by omega)
  have f4 : decide (248 ≤ x) = false := decide_eq_false (by omega)
  have f6 : 161 ≤ x := by omega
  have f7 : decide (x ≤ 167) = false := decide_eq_false (by omega)
  go_enter Try.func19, Try.ntmps19
  go_wp2
  go_quiet (fail)
  go_wp2
  go_ret2
  exact ⟨rfl, _, rfl⟩

theorem priv_c8 (b c : Nat) (x y : Int) (w : World) (h0 : w.cell? ⟨b, 0, none⟩ = some (.int .u8 x)) (h1 : w.cell? ⟨b, 1, none⟩ = some (.int .u8 y)) (hx : 0 ≤ x) (hx2 : x ≤ 255) (hy : 0 ≤ y) (hy2 : y ≤ 255) (hA : 248 ≤ x) (hC : 161 ≤ y) :
    Calls Try.prog 19 #[.slice (some ⟨b, 0, none⟩) 2 c] w fun e w' => e = .returned (.tuple #[.int .i32 (57908 + (x - 248) * 94 + y - 161), .bool true]) ∧ ∃ k, w' = w.drewN k := by
  have f1 : 170 ≤ x := by omega
  have f2 : decide (x ≤ 175) = false := decide_eq_false (by omega)
  have f4 : 248 ≤ x := by omega
  have f3 : 161 ≤ y := by omega
  go_enter Try.func19, Try.ntmps19
  go_wp2
  go_quiet (fail)
  go_wp2
  go_ret2
  exact ⟨rfl, _, rfl⟩

theorem priv_c9 (b c : Nat) (x y : Int) (w : World) (h0 : w.cell? ⟨b, 0, none⟩ = some (.int .u8 x)) (h1 : w.cell? ⟨b, 1, none⟩ = some (.int .u8 y)) (hx : 0 ≤ x) (hx2 : x ≤ 255) (hy : 0 ≤ y) (hy2 : y ≤ 255) (hA : 248 ≤ x) (hC : y ≤ 160) :
    Calls Try.prog 19 #[.slice (some ⟨b, 0, none⟩) 2 c] w fun e w' => e = .returned (.tuple #[.int .i32 (0), .bool false]) ∧ ∃ k, w' = w.drewN k := by
  have f1 : 170 ≤ x := by omega
  have f2 : decide (x ≤ 175) = false := decide_eq_false (by omega)
  have f4 : 248 ≤ x := by omega
  have f3 : decide (161 ≤ y) = false := decide_eq_false (by omega)
  have f6 : 161 ≤ x := by omega
  have f7 : decide (x ≤ 167) = false := decide_eq_false (by omega)
  go_enter Try.func19, Try.ntmps19
  go_wp2
  go_quiet (fail)
  go_wp2
  go_ret2
  exact ⟨rfl, _, rfl⟩

/-- What privateUse answers: the code point .. -/
def pr (x y : Int) : Int :=
  if 170 ≤ x ∧ x ≤ 175 ∧ 161 ≤ y then 57344 + (x - 170) * 94 + y - 161 else if 248 ≤ x ∧ 161 ≤ y then 57908 + (x - 248) * 94 + y - 161
  else if 161 ≤ x ∧ x ≤ 167 ∧ y ≤ 160 then 58566 + (x - 161) * 96 + (if 127 < y then y - 64 - 1 else y - 64) else 0
/-- .. and whether there is one. -/
def po (x y : Int) : Bool := decide ((170 ≤ x ∧ x ≤ 175 ∧ 161 ≤ y) ∨ (248 ≤ x ∧ 161 ≤ y) ∨ (161 ≤ x ∧ x ≤ 167 ∧ y ≤ 160))

def PrivPost (x y : Int) (w : World) (e : Ending) (w' : World) : Prop := e = .returned (.tuple #[.int .i32 (pr x y), .bool (po x y)]) ∧ ∃ k, w' = w.drewN k

theorem priv_any (b c : Nat) (x y : Int) (w : World) (h0 : w.cell? ⟨b, 0, none⟩ = some (.int .u8 x)) (h1 : w.cell? ⟨b, 1, none⟩ = some (.int .u8 y)) (hx : 0 ≤ x) (hx2 : x ≤ 255) (hy : 0 ≤ y) (hy2 : y ≤ 255) :
    Calls Try.prog 19 #[.slice (some ⟨b, 0, none⟩) 2 c] w (PrivPost x y w) := by
  have key : ∀ (K : Int) (B : Bool), pr x y = K → po x y = B → (Calls Try.prog 19 #[.slice (some ⟨b, 0, none⟩) 2 c] w fun e w' => e = .returned (.tuple #[.int .i32 K, .bool B]) ∧ ∃ k, w' = w.drewN k) → Calls Try.prog 19 #[.slice (some ⟨b, 0, none⟩) 2 c] w (PrivPost x y w) := by
    rintro K B rfl rfl h; exact h
  by_cases a1 : x < 161
  · exact key _ _ (by unfold pr; rw [if_neg (by omega), if_neg (by omega), if_neg (by omega)]) (decide_eq_false (by omega)) (priv_c1 b c x y w h0 h1 hx hx2 hy hy2 a1)
  · by_cases a2 : x ≤ 167
    · by_cases b1 : y ≤ 160
      · by_cases b2 : 127 < y
        · exact key _ _ (by unfold pr; rw [if_neg (by omega), if_neg (by omega), if_pos (by omega), if_pos b2]) (decide_eq_true (by omega)) (priv_c2a b c x y w h0 h1 hx hx2 hy hy2 (by omega) a2 b1 b2)
        · exact key _ _ (by unfold pr; rw [if_neg (by omega), if_neg (by omega), if_pos (by omega), if_neg b2]) (decide_eq_true (by omega)) (priv_c2b b c x y w h0 h1 hx hx2 hy hy2 (by omega) a2 b1 (by omega))
      · exact key _ _ (by unfold pr; rw [if_neg (by omega), if_neg (by omega), if_neg (by omega)]) (decide_eq_false (by omega)) (priv_c3 b c x y w h0 h1 hx hx2 hy hy2 (by omega) a2 (by omega))
    · by_cases a3 : x ≤ 169
      · exact key _ _ (by unfold pr; rw [if_neg (by omega), if_neg (by omega), if_neg (by omega)]) (decide_eq_false (by omega)) (priv_c4 b c x y w h0 h1 hx hx2 hy hy2 (by omega) a3)
      · by_cases a4 : x ≤ 175
        · by_cases b1 : y ≤ 160
          · exact key _ _ (by unfold pr; rw [if_neg (by omega), if_neg (by omega), if_neg (by omega)]) (decide_eq_false (by omega)) (priv_c6 b c x y w h0 h1 hx hx2 hy hy2 (by omega) a4 b1)
          · exact key _ _ (by unfold pr; rw [if_pos (by omega)]) (decide_eq_true (by omega)) (priv_c5 b c x y w h0 h1 hx hx2 hy hy2 (by omega) a4 (by omega))
        · by_cases a5 : x ≤ 247
          · exact key _ _ (by unfold pr; rw [if_neg (by omega), if_neg (by omega), if_neg (by omega)]) (decide_eq_false (by omega)) (priv_c7 b c x y w h0 h1 hx hx2 hy hy2 (by omega) a5)
          · by_cases b1 : y ≤ 160
            · exact key _ _ (by unfold pr; rw [if_neg (by omega), if_neg (by omega), if_neg (by omega)]) (decide_eq_false (by omega)) (priv_c9 b c x y w h0 h1 hx hx2 hy hy2 (by omega) b1)
            · exact key _ _ (by unfold pr; rw [if_neg (by omega), if_pos (by omega)]) (decide_eq_true (by omega)) (priv_c8 b c x y w h0 h1 hx hx2 hy hy2 (by omega) (by omega))

theorem zzpriv_any (b c : Nat) (x y : Int) (w : World) (h0 : w.cell? ⟨b, 0, none⟩ = some (.int .u8 x)) (h1 : w.cell? ⟨b, 1, none⟩ = some (.int .u8 y)) (hx : 0 ≤ x) (hx2 : x ≤ 255) (hy : 0 ≤ y) (hy2 : y ≤ 255) :
    Calls Try.prog 13 #[.slice (some ⟨b, 0, none⟩) 2 c] w (PrivPost x y w) := by
  go_enter Try.func13, Try.ntmps13
  go_wp2_with fail
  refine (priv_any b c x y w h0 h1 hx hx2 hy hy2).mono ?_
  rintro e w' ⟨rfl, k, rfl⟩
  go_wp2
  go_ret2
  exact ⟨rfl, k, rfl⟩

/-! ### validTwo -/
theorem valid_yes (x y : Int) (w : World) (h1 : 129 ≤ x) (h2 : x ≤ 254) (h3 : 64 ≤ y) (h4 : y ≤ 254) (h5 : y < 127 ∨ 127 < y) :
    Calls Try.prog 12 #[.int .u8 x, .int .u8 y] w fun e w' => e = .returned (.bool true) ∧ w' = w := by
  have f : (y != 127) = true := by rw [bne_iff_ne]; omega
  go_enter Try.func12, Try.ntmps12
  go_wp2
  go_ret
  exact ⟨rfl, rfl⟩

theorem valid_no (x y : Int) (w : World) (h : ¬ (129 ≤ x ∧ x ≤ 254 ∧ 64 ≤ y ∧ y ≤ 254 ∧ y ≠ 127)) :
    Calls Try.prog 12 #[.int .u8 x, .int .u8 y] w fun e w' => e = .returned (.bool false) ∧ w' = w := by
  by_cases h1 : 129 ≤ x
  · by_cases h2 : x ≤ 254
    · by_cases h3 : 64 ≤ y
      · by_cases h4 : y ≤ 254
        · have f : (y != 127) = false := by simp; omega
          clear h
          go_enter Try.func12, Try.ntmps12
          go_wp2
          go_ret
          exact ⟨rfl, rfl⟩
        · have f : decide (y ≤ 254) = false := decide_eq_false h4
          clear h
          go_enter Try.func12, Try.ntmps12
          go_wp2
          go_ret
          exact ⟨rfl, rfl⟩
      · have f : decide (64 ≤ y) = false := decide_eq_false h3
        clear h
        go_enter Try.func12, Try.ntmps12
        go_wp2
        go_ret
        exact ⟨rfl, rfl⟩
    · have f : decide (x ≤ 254) = false := decide_eq_false h2
      clear h
      go_enter Try.func12, Try.ntmps12
      go_wp2
      go_ret
      exact ⟨rfl, rfl⟩
  · have f : decide (129 ≤ x) = false := decide_eq_false h1
    clear h
    go_enter Try.func12, Try.ntmps12
    go_wp2
    go_ret
    exact ⟨rfl, rfl⟩
end Go.Proofs.Qxb6000989a.Priv
