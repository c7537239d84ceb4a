/-
  codeLength (18), cloneBytes (9).
-/
import Derived.Test.Qxb6000989aRows
import Derived.WalkKit
import Derived.ProofKit
import Derived.OpenShut
import Derived.WalkSpells
import Derived.Handy
import Derived.Deep.QuietTactic
import Derived.BigQuiet
namespace Go.Proofs.Qxb6000989a.Code
open Go.ChangeShapes Go.WideShapes Go.ChangeAt Go.RowKit

/-- What codeLength answers of n bytes that begin with x, y. -/
def cl (n : Nat) (x y : Int) : Int :=
  if x < 128 then 1 else if x = 128 ∨ x = 255 ∨ n < 2 then 0 else if 64 ≤ y ∧ y ≤ 254 ∧ y ≠ 127 then 2 else if 4 ≤ n ∧ 48 ≤ y ∧ y ≤ 57 then 4 else 0

theorem ret_int {k : IntKind} {a b : Int} (h : a = b) : Ending.returned (.int k a) = .returned (.int k b) := by rw [h]

set_option linter.unusedVariables false

theorem code_lt (b n c : Nat) (x y : Int) (w : World) (hn0 : 1 ≤ n) (hn : n ≤ 1048576) (h0 : w.cell? ⟨b, 0, none⟩ = some (.int .u8 x)) (h1 : 2 ≤ n → w.cell? ⟨b, 1, none⟩ = some (.int .u8 y)) (hx : 0 ≤ x) (hx2 : x ≤ 255) (hA : x < 128) :
    Calls Try.prog 18 #[.slice (some ⟨b, 0, none⟩) n c] w fun e w' => e = .returned (.int .i64 1) ∧ w' = w := by
  have hl : (0 : Int) < (n : Int) := by omega
  go_enter Try.func18, Try.ntmps18
  go_wp2
  go_ret
  exact ⟨rfl, rfl⟩

theorem code_e128 (b n c : Nat) (x y : Int) (w : World) (hn0 : 1 ≤ n) (hn : n ≤ 1048576) (h0 : w.cell? ⟨b, 0, none⟩ = some (.int .u8 x)) (h1 : 2 ≤ n → w.cell? ⟨b, 1, none⟩ = some (.int .u8 y)) (hx : 0 ≤ x) (hx2 : x ≤ 255) (hA : x ≤ 128) (hB : 128 ≤ x) :
    Calls Try.prog 18 #[.slice (some ⟨b, 0, none⟩) n c] w fun e w' => e = .returned (.int .i64 0) ∧ w' = w := by
  have f1 : (x == 128) = true := beq_iff_eq.2 (by omega)
  have hl : (0 : Int) < (n : Int) := by omega
  go_enter Try.func18, Try.ntmps18
  go_wp2
  go_ret
  exact ⟨rfl, rfl⟩

theorem code_e255 (b n c : Nat) (x y : Int) (w : World) (hn0 : 1 ≤ n) (hn : n ≤ 1048576) (h0 : w.cell? ⟨b, 0, none⟩ = some (.int .u8 x)) (h1 : 2 ≤ n → w.cell? ⟨b, 1, none⟩ = some (.int .u8 y)) (hx : 0 ≤ x) (hx2 : x ≤ 255) (hA : 255 ≤ x) :
    Calls Try.prog 18 #[.slice (some ⟨b, 0, none⟩) n c] w fun e w' => e = .returned (.int .i64 0) ∧ w' = w := by
  have f1 : (x == 128) = false := beq_eq_false_iff_ne.2 (by omega)
  have f2 : (x == 255) = true := beq_iff_eq.2 (by omega)
  have hl : (0 : Int) < (n : Int) := by omega
  go_enter Try.func18, Try.ntmps18
  go_wp2
  go_ret
  exact ⟨rfl, rfl⟩

theorem code_short (b n c : Nat) (x y : Int) (w : World) (hn0 : 1 ≤ n) (hn : n ≤ 1048576) (h0 : w.cell? ⟨b, 0, none⟩ = some (.int .u8 x)) (h1 : 2 ≤ n → w.cell? ⟨b, 1, none⟩ = some (.int .u8 y)) (hx : 0 ≤ x) (hx2 : x ≤ 255) (hA : 129 ≤ x) (hB : x ≤ 254) (hC : n < 2) :
    Calls Try.prog 18 #[.slice (some ⟨b, 0, none⟩) n c] w fun e w' => e = .returned (.int .i64 0) ∧ w' = w := by
  have f1 : (x == 128) = false := beq_eq_false_iff_ne.2 (by omega)
  have f2 : (x == 255) = false := beq_eq_false_iff_ne.2 (by omega)
  have f3 : decide ((n : Int) < 2) = true := decide_eq_true (by omega)
  have hl : (0 : Int) < (n : Int) := by omega
  go_enter Try.func18, Try.ntmps18
  go_wp2
  go_ret
  exact ⟨rfl, rfl⟩

theorem code_two (b n c : Nat) (x y : Int) (w : World) (hn0 : 1 ≤ n) (hn : n ≤ 1048576) (h0 : w.cell? ⟨b, 0, none⟩ = some (.int .u8 x)) (h1 : 2 ≤ n → w.cell? ⟨b, 1, none⟩ = some (.int .u8 y)) (hx : 0 ≤ x) (hx2 : x ≤ 255) (hA : 129 ≤ x) (hB : x ≤ 254) (hC : 2 ≤ n) (hD : 64 ≤ y) (hE : y ≤ 254) (hF : y < 127 ∨ 127 < y) :
    Calls Try.prog 18 #[.slice (some ⟨b, 0, none⟩) n c] w fun e w' => e = .returned (.int .i64 2) ∧ w' = w := by
  have f1 : (x == 128) = false := beq_eq_false_iff_ne.2 (by omega)
  have f2 : (x == 255) = false := beq_eq_false_iff_ne.2 (by omega)
  have f3 : decide ((n : Int) < 2) = false := decide_eq_false (by omega)
  have h1' := h1 (by omega)
  clear h1
  have hl1 : (1 : Int) < (n : Int) := by omega
  have f4 : (64 : Int) ≤ y := by omega
  have f5 : y ≤ 254 := by omega
  have f6 : (y != 127) = true := by rw [bne_iff_ne]; omega
  have hl : (0 : Int) < (n : Int) := by omega
  go_enter Try.func18, Try.ntmps18
  go_wp2
  go_ret
  exact ⟨rfl, rfl⟩

theorem code_a4f (b n c : Nat) (x y : Int) (w : World) (hn0 : 1 ≤ n) (hn : n ≤ 1048576) (h0 : w.cell? ⟨b, 0, none⟩ = some (.int .u8 x)) (h1 : 2 ≤ n → w.cell? ⟨b, 1, none⟩ = some (.int .u8 y)) (hx : 0 ≤ x) (hx2 : x ≤ 255) (hA : 129 ≤ x) (hB : x ≤ 254) (hC : 2 ≤ n) (hD : y < 64) (hG : n < 4) :
    Calls Try.prog 18 #[.slice (some ⟨b, 0, none⟩) n c] w fun e w' => e = .returned (.int .i64 0) ∧ w' = w := by
  have f1 : (x == 128) = false := beq_eq_false_iff_ne.2 (by omega)
  have f2 : (x == 255) = false := beq_eq_false_iff_ne.2 (by omega)
  have f3 : decide ((n : Int) < 2) = false := decide_eq_false (by omega)
  have h1' := h1 (by omega)
  clear h1
  have hl1 : (1 : Int) < (n : Int) := by omega
  have f4 : decide ((64 : Int) ≤ y) = false := decide_eq_false (by omega)
  have f7 : decide ((4 : Int) ≤ (n : Int)) = false := decide_eq_false (by omega)
  have hl : (0 : Int) < (n : Int) := by omega
  go_enter Try.func18, Try.ntmps18
  go_wp2
  go_ret
  exact ⟨rfl, rfl⟩

theorem code_a48f (b n c : Nat) (x y : Int) (w : World) (hn0 : 1 ≤ n) (hn : n ≤ 1048576) (h0 : w.cell? ⟨b, 0, none⟩ = some (.int .u8 x)) (h1 : 2 ≤ n → w.cell? ⟨b, 1, none⟩ = some (.int .u8 y)) (hx : 0 ≤ x) (hx2 : x ≤ 255) (hA : 129 ≤ x) (hB : x ≤ 254) (hC : 2 ≤ n) (hD : y < 64) (hG : 4 ≤ n) (hH : y < 48) :
    Calls Try.prog 18 #[.slice (some ⟨b, 0, none⟩) n c] w fun e w' => e = .returned (.int .i64 0) ∧ w' = w := by
  have f1 : (x == 128) = false := beq_eq_false_iff_ne.2 (by omega)
  have f2 : (x == 255) = false := beq_eq_false_iff_ne.2 (by omega)
  have f3 : decide ((n : Int) < 2) = false := decide_eq_false (by omega)
  have h1' := h1 (by omega)
  clear h1
  have hl1 : (1 : Int) < (n : Int) := by omega
  have f4 : decide ((64 : Int) ≤ y) = false := decide_eq_false (by omega)
  have f7 : (4 : Int) ≤ (n : Int) := by omega
  have f8 : decide ((48 : Int) ≤ y) = false := decide_eq_false (by omega)
  have hl : (0 : Int) < (n : Int) := by omega
  go_enter Try.func18, Try.ntmps18
  go_wp2
  go_ret
  exact ⟨rfl, rfl⟩

theorem code_a57f (b n c : Nat) (x y : Int) (w : World) (hn0 : 1 ≤ n) (hn : n ≤ 1048576) (h0 : w.cell? ⟨b, 0, none⟩ = some (.int .u8 x)) (h1 : 2 ≤ n → w.cell? ⟨b, 1, none⟩ = some (.int .u8 y)) (hx : 0 ≤ x) (hx2 : x ≤ 255) (hA : 129 ≤ x) (hB : x ≤ 254) (hC : 2 ≤ n) (hD : y < 64) (hG : 4 ≤ n) (hH : 48 ≤ y) (hI : 57 < y) :
    Calls Try.prog 18 #[.slice (some ⟨b, 0, none⟩) n c] w fun e w' => e = .returned (.int .i64 0) ∧ w' = w := by
  have f1 : (x == 128) = false := beq_eq_false_iff_ne.2 (by omega)
  have f2 : (x == 255) = false := beq_eq_false_iff_ne.2 (by omega)
  have f3 : decide ((n : Int) < 2) = false := decide_eq_false (by omega)
  have h1' := h1 (by omega)
  clear h1
  have hl1 : (1 : Int) < (n : Int) := by omega
  have f4 : decide ((64 : Int) ≤ y) = false := decide_eq_false (by omega)
  have f7 : (4 : Int) ≤ (n : Int) := by omega
  have f8 : (48 : Int) ≤ y := by omega
  have f9 : decide (y ≤ 57) = false := decide_eq_false (by omega)
  have hl : (0 : Int) < (n : Int) := by omega
  go_enter Try.func18, Try.ntmps18
  go_wp2
  go_ret
  exact ⟨rfl, rfl⟩

theorem code_four (b n c : Nat) (x y : Int) (w : World) (hn0 : 1 ≤ n) (hn : n ≤ 1048576) (h0 : w.cell? ⟨b, 0, none⟩ = some (.int .u8 x)) (h1 : 2 ≤ n → w.cell? ⟨b, 1, none⟩ = some (.int .u8 y)) (hx : 0 ≤ x) (hx2 : x ≤ 255) (hA : 129 ≤ x) (hB : x ≤ 254) (hC : 2 ≤ n) (hD : y < 64) (hG : 4 ≤ n) (hH : 48 ≤ y) (hI : y ≤ 57) :
    Calls Try.prog 18 #[.slice (some ⟨b, 0, none⟩) n c] w fun e w' => e = .returned (.int .i64 4) ∧ w' = w := by
  have f1 : (x == 128) = false := beq_eq_false_iff_ne.2 (by omega)
  have f2 : (x == 255) = false := beq_eq_false_iff_ne.2 (by omega)
  have f3 : decide ((n : Int) < 2) = false := decide_eq_false (by omega)
  have h1' := h1 (by omega)
  clear h1
  have hl1 : (1 : Int) < (n : Int) := by omega
  have f4 : decide ((64 : Int) ≤ y) = false := decide_eq_false (by omega)
  have f7 : (4 : Int) ≤ (n : Int) := by omega
  have f8 : (48 : Int) ≤ y := by omega
  have f9 : y ≤ 57 := by omega
  have hl : (0 : Int) < (n : Int) := by omega
  go_enter Try.func18, Try.ntmps18
  go_wp2
  go_ret
  exact ⟨rfl, rfl⟩

theorem code_b4f (b n c : Nat) (x y : Int) (w : World) (hn0 : 1 ≤ n) (hn : n ≤ 1048576) (h0 : w.cell? ⟨b, 0, none⟩ = some (.int .u8 x)) (h1 : 2 ≤ n → w.cell? ⟨b, 1, none⟩ = some (.int .u8 y)) (hx : 0 ≤ x) (hx2 : x ≤ 255) (hA : 129 ≤ x) (hB : x ≤ 254) (hC : 2 ≤ n) (hD : 254 < y) (hG : n < 4) :
    Calls Try.prog 18 #[.slice (some ⟨b, 0, none⟩) n c] w fun e w' => e = .returned (.int .i64 0) ∧ w' = w := by
  have f1 : (x == 128) = false := beq_eq_false_iff_ne.2 (by omega)
  have f2 : (x == 255) = false := beq_eq_false_iff_ne.2 (by omega)
  have f3 : decide ((n : Int) < 2) = false := decide_eq_false (by omega)
  have h1' := h1 (by omega)
  clear h1
  have hl1 : (1 : Int) < (n : Int) := by omega
  have f4 : (64 : Int) ≤ y := by omega
  have f5 : decide (y ≤ 254) = false := decide_eq_false (by omega)
  have f7 : decide ((4 : Int) ≤ (n : Int)) = false := decide_eq_false (by omega)
  have hl : (0 : Int) < (n : Int) := by omega
  go_enter Try.func18, Try.ntmps18
  go_wp2
  go_ret
  exact ⟨rfl, rfl⟩

theorem code_b57f (b n c : Nat) (x y : Int) (w : World) (hn0 : 1 ≤ n) (hn : n ≤ 1048576) (h0 : w.cell? ⟨b, 0, none⟩ = some (.int .u8 x)) (h1 : 2 ≤ n → w.cell? ⟨b, 1, none⟩ = some (.int .u8 y)) (hx : 0 ≤ x) (hx2 : x ≤ 255) (hA : 129 ≤ x) (hB : x ≤ 254) (hC : 2 ≤ n) (hD : 254 < y) (hG : 4 ≤ n) :
    Calls Try.prog 18 #[.slice (some ⟨b, 0, none⟩) n c] w fun e w' => e = .returned (.int .i64 0) ∧ w' = w := by
  have f1 : (x == 128) = false := beq_eq_false_iff_ne.2 (by omega)
  have f2 : (x == 255) = false := beq_eq_false_iff_ne.2 (by omega)
  have f3 : decide ((n : Int) < 2) = false := decide_eq_false (by omega)
  have h1' := h1 (by omega)
  clear h1
  have hl1 : (1 : Int) < (n : Int) := by omega
  have f4 : (64 : Int) ≤ y := by omega
  have f5 : decide (y ≤ 254) = false := decide_eq_false (by omega)
  have f7 : (4 : Int) ≤ (n : Int) := by omega
  have f8 : (48 : Int) ≤ y := by omega
  have f9 : decide (y ≤ 57) = false := decide_eq_false (by omega)
  have hl : (0 : Int) < (n : Int) := by omega
  go_enter Try.func18, Try.ntmps18
  go_wp2
  go_ret
  exact ⟨rfl, rfl⟩

theorem code_c4f (b n c : Nat) (x y : Int) (w : World) (hn0 : 1 ≤ n) (hn : n ≤ 1048576) (h0 : w.cell? ⟨b, 0, none⟩ = some (.int .u8 x)) (h1 : 2 ≤ n → w.cell? ⟨b, 1, none⟩ = some (.int .u8 y)) (hx : 0 ≤ x) (hx2 : x ≤ 255) (hA : 129 ≤ x) (hB : x ≤ 254) (hC : 2 ≤ n) (hD : y ≤ 127) (hD2 : 127 ≤ y) (hG : n < 4) :
    Calls Try.prog 18 #[.slice (some ⟨b, 0, none⟩) n c] w fun e w' => e = .returned (.int .i64 0) ∧ w' = w := by
  have f1 : (x == 128) = false := beq_eq_false_iff_ne.2 (by omega)
  have f2 : (x == 255) = false := beq_eq_false_iff_ne.2 (by omega)
  have f3 : decide ((n : Int) < 2) = false := decide_eq_false (by omega)
  have h1' := h1 (by omega)
  clear h1
  have hl1 : (1 : Int) < (n : Int) := by omega
  have f4 : (64 : Int) ≤ y := by omega
  have f5 : y ≤ 254 := by omega
  have f6 : (y != 127) = false := by simp; omega
  have f7 : decide ((4 : Int) ≤ (n : Int)) = false := decide_eq_false (by omega)
  have hl : (0 : Int) < (n : Int) := by omega
  go_enter Try.func18, Try.ntmps18
  go_wp2
  go_ret
  exact ⟨rfl, rfl⟩

theorem code_c57f (b n c : Nat) (x y : Int) (w : World) (hn0 : 1 ≤ n) (hn : n ≤ 1048576) (h0 : w.cell? ⟨b, 0, none⟩ = some (.int .u8 x)) (h1 : 2 ≤ n → w.cell? ⟨b, 1, none⟩ = some (.int .u8 y)) (hx : 0 ≤ x) (hx2 : x ≤ 255) (hA : 129 ≤ x) (hB : x ≤ 254) (hC : 2 ≤ n) (hD : y ≤ 127) (hD2 : 127 ≤ y) (hG : 4 ≤ n) :
    Calls Try.prog 18 #[.slice (some ⟨b, 0, none⟩) n c] w fun e w' => e = .returned (.int .i64 0) ∧ w' = w := by
  have f1 : (x == 128) = false := beq_eq_false_iff_ne.2 (by omega)
  have f2 : (x == 255) = false := beq_eq_false_iff_ne.2 (by omega)
  have f3 : decide ((n : Int) < 2) = false := decide_eq_false (by omega)
  have h1' := h1 (by omega)
  clear h1
  have hl1 : (1 : Int) < (n : Int) := by omega
  have f4 : (64 : Int) ≤ y := by omega
  have f5 : y ≤ 254 := by omega
  have f6 : (y != 127) = false := by simp; omega
  have f7 : (4 : Int) ≤ (n : Int) := by omega
  have f8 : (48 : Int) ≤ y := by omega
  have f9 : decide (y ≤ 57) = false := decide_eq_false (by omega)
  have hl : (0 : Int) < (n : Int) := by omega
  go_enter Try.func18, Try.ntmps18
  go_wp2
  go_ret
  exact ⟨rfl, rfl⟩

theorem code_any (b n c : Nat) (x y : Int) (w : World) (hn0 : 1 ≤ n) (hn : n ≤ 1048576) (h0 : w.cell? ⟨b, 0, none⟩ = some (.int .u8 x)) (h1 : 2 ≤ n → w.cell? ⟨b, 1, none⟩ = some (.int .u8 y)) (hx : 0 ≤ x) (hx2 : x ≤ 255) :
    Calls Try.prog 18 #[.slice (some ⟨b, 0, none⟩) n c] w fun e w' => e = .returned (.int .i64 (cl n x y)) ∧ w' = w := by
  have key : ∀ K : Int, K = cl n x y → (Calls Try.prog 18 #[.slice (some ⟨b, 0, none⟩) n c] w fun e w' => e = .returned (.int .i64 K) ∧ w' = w) → (Calls Try.prog 18 #[.slice (some ⟨b, 0, none⟩) n c] w fun e w' => e = .returned (.int .i64 (cl n x y)) ∧ w' = w) := fun K hK h => by rw [← hK]; exact h
  by_cases c1 : x < 128
  · exact key 1 (by unfold cl; rw [if_pos c1]) (code_lt b n c x y w hn0 hn h0 h1 hx hx2 c1)
  · by_cases c2 : x = 128
    · exact key 0 (by unfold cl; rw [if_neg c1, if_pos (by omega)]) (code_e128 b n c x y w hn0 hn h0 h1 hx hx2 (by omega) (by omega))
    · by_cases c3 : x = 255
      · exact key 0 (by unfold cl; rw [if_neg c1, if_pos (by omega)]) (code_e255 b n c x y w hn0 hn h0 h1 hx hx2 (by omega))
      · by_cases c4 : n < 2
        · exact key 0 (by unfold cl; rw [if_neg c1, if_pos (by omega)]) (code_short b n c x y w hn0 hn h0 h1 hx hx2 (by omega) (by omega) c4)
        · by_cases d1 : y < 64
          · by_cases g1 : n < 4
            · exact key 0 (by unfold cl; rw [if_neg c1, if_neg (by omega), if_neg (by omega), if_neg (by omega)]) (code_a4f b n c x y w hn0 hn h0 h1 hx hx2 (by omega) (by omega) (by omega) d1 g1)
            · by_cases g2 : y < 48
              · exact key 0 (by unfold cl; rw [if_neg c1, if_neg (by omega), if_neg (by omega), if_neg (by omega)]) (code_a48f b n c x y w hn0 hn h0 h1 hx hx2 (by omega) (by omega) (by omega) d1 (by omega) g2)
              · by_cases g3 : 57 < y
                · exact key 0 (by unfold cl; rw [if_neg c1, if_neg (by omega), if_neg (by omega), if_neg (by omega)]) (code_a57f b n c x y w hn0 hn h0 h1 hx hx2 (by omega) (by omega) (by omega) d1 (by omega) (by omega) g3)
                · exact key 4 (by unfold cl; rw [if_neg c1, if_neg (by omega), if_neg (by omega), if_pos (by omega)]) (code_four b n c x y w hn0 hn h0 h1 hx hx2 (by omega) (by omega) (by omega) d1 (by omega) (by omega) (by omega))
          · by_cases d2 : 254 < y
            · by_cases g1 : n < 4
              · exact key 0 (by unfold cl; rw [if_neg c1, if_neg (by omega), if_neg (by omega), if_neg (by omega)]) (code_b4f b n c x y w hn0 hn h0 h1 hx hx2 (by omega) (by omega) (by omega) d2 g1)
              · exact key 0 (by unfold cl; rw [if_neg c1, if_neg (by omega), if_neg (by omega), if_neg (by omega)]) (code_b57f b n c x y w hn0 hn h0 h1 hx hx2 (by omega) (by omega) (by omega) d2 (by omega))
            · by_cases d3 : y = 127
              · by_cases g1 : n < 4
                · exact key 0 (by unfold cl; rw [if_neg c1, if_neg (by omega), if_neg (by omega), if_neg (by omega)]) (code_c4f b n c x y w hn0 hn h0 h1 hx hx2 (by omega) (by omega) (by omega) (by omega) (by omega) g1)
                · exact key 0 (by unfold cl; rw [if_neg c1, if_neg (by omega), if_neg (by omega), if_neg (by omega)]) (code_c57f b n c x y w hn0 hn h0 h1 hx hx2 (by omega) (by omega) (by omega) (by omega) (by omega) (by omega))
              · exact key 2 (by unfold cl; rw [if_neg c1, if_neg (by omega), if_pos (by omega)]) (code_two b n c x y w hn0 hn h0 h1 hx hx2 (by omega) (by omega) (by omega) (by omega) (by omega) (by omega))

theorem zzcode_any (b n c : Nat) (x y : Int) (w : World) (hn0 : 1 ≤ n) (hn : n ≤ 1048576) (h0 : w.cell? ⟨b, 0, none⟩ = some (.int .u8 x)) (h1 : 2 ≤ n → w.cell? ⟨b, 1, none⟩ = some (.int .u8 y)) (hx : 0 ≤ x) (hx2 : x ≤ 255) :
    Calls Try.prog 10 #[.slice (some ⟨b, 0, none⟩) n c] w fun e w' => e = .returned (.int .i64 (cl n x y)) ∧ w' = w := by
  go_enter Try.func10, Try.ntmps10
  go_wp2_with fail
  refine (code_any b n c x y w hn0 hn h0 h1 hx hx2).mono ?_
  rintro e w' ⟨rfl, rfl⟩
  go_wp2
  go_ret
  exact ⟨rfl, rfl⟩
end Go.Proofs.Qxb6000989a.Code
