/-
  'Rows.FnPrivateUseMatchesCountingModelSaid' PROVED: the seat's shell, its one hole filled.
-/
import Derived.Test.Qxb6000989aRows
import Derived.WalkKit
import Derived.ProofKit
import Derived.OpenShut
import Derived.ShutString
import Derived.Test.Qxb6000989aCount
namespace Go.Proofs.Qxb6000989a.fnPrivateUseMatchesCountingModel
open Go.ChangeShapes Go.WideShapes Go.ChangeAt Go.RowKit
open Go.Proofs.Qxb6000989a.Code Go.Proofs.Qxb6000989a.Priv Go.Proofs.Qxb6000989a.Area
open Go.ChangeMaps (open_string shut_string)
set_option linter.unusedVariables false      -- a walk need not use every 'w<i>' (that an integer argument fits its kind)

theorem own : ownKnob Try.prog.godebug = none := by kernel_rfl

/-! ### THE WALK -/
theorem Grown_drewN {W w' : World} (h : Grown W w') (k : Nat) : Grown W (w'.drewN k) := h

set_option maxHeartbeats 400000 in
theorem walk_zero (x y : Int) (w : World) (v1 : 129 ≤ x) (v2 : x ≤ 254) (v3 : 64 ≤ y) (v4 : y ≤ 254) (v5 : y < 127 ∨ 127 < y) (hz : ar x y = 0) :
    Calls Try.prog 5 #[.int .u8 x, .int .u8 y] w fun e w' => e = .returned (.bool true) ∧ Grown w w' := by
  have hpo : Hid (po x y = false) := by
    show po x y = false
    refine decide_eq_false ?_
    have n1 : ¬ (170 ≤ x ∧ x ≤ 175 ∧ 161 ≤ y ∧ y ≤ 254) := fun h => absurd ((ar_one x y).2 h) (by rw [hz]; decide)
    have n2 : ¬ (248 ≤ x ∧ x ≤ 254 ∧ 161 ≤ y ∧ y ≤ 254) := fun h => absurd ((ar_two x y).2 h) (by rw [hz]; decide)
    have n3 : ¬ (161 ≤ x ∧ x ≤ 167 ∧ 64 ≤ y ∧ y ≤ 160 ∧ y ≠ 127) := fun h => absurd ((ar_three x y).2 h) (by rw [hz]; decide)
    omega
  have HZ : Hid (ar x y = 0) := hz
  clear hz
  go_enter Try.func5, Try.ntmps5
  go_wp2_with fail
  refine (valid_yes x y _ v1 v2 v3 v4 v5).mono ?_
  rintro e w1 ⟨rfl, rfl⟩
  go_wp2_with fail
  refine (zzpriv_any w1.heap.size 2 x y _ (by simp) (by simp) (by omega) (by omega) (by omega) (by omega)).mono ?_
  rintro e w2 ⟨rfl, k, rfl⟩
  rw [hpo.out]
  go_wp2_with fail
  refine (area_any x y _).mono ?_
  rintro e w2 ⟨rfl, rfl⟩
  rw [HZ.out]
  go_wp2
  go_ret
  exact ⟨rfl, Grown_drewN ((Grown.refl w1).alloc _ _) k⟩

set_option maxHeartbeats 400000 in
theorem walk_1 (x y : Int) (w : World) (v1 : 129 ≤ x) (v2 : x ≤ 254) (v3 : 64 ≤ y) (v4 : y ≤ 254) (v5 : y < 127 ∨ 127 < y) (hz : ar x y = 1) :
    Calls Try.prog 5 #[.int .u8 x, .int .u8 y] w fun e w' => e = .returned (.bool true) ∧ Grown w w' := by
  have h := (ar_one x y).1 hz
  have hpo : Hid (po x y = true) := by
    show po x y = true
    exact decide_eq_true (by omega)
  obtain ⟨A, hA⟩ : ∃ A : Nat, x = 129 + (A : Int) := ⟨(x - 129).toNat, by omega⟩
  obtain ⟨J, hJ⟩ : ∃ J : Nat, y = 64 + (J : Int) := ⟨(y - 64).toNat, by omega⟩
  have hcount : (rows 1 A + row 1 (129 + (A : Int)) J : Nat) + 57344 = pr x y := by
    have hp : pr x y = 57344 + (x - 170) * 94 + y - 161 := by
      unfold pr
      rw [if_pos (by omega)]
    rw [hp, rows1 A (by omega), row1 _ J (by omega), if_pos (by omega)]
    (repeat' split) <;> omega
  have hpb : 0 ≤ pr x y ∧ pr x y ≤ 100000 := by unfold pr; (repeat' split) <;> omega
  obtain ⟨C, hC⟩ : ∃ C : Nat, C = rows 1 A + row 1 (129 + (A : Int)) J := ⟨_, rfl⟩
  rw [← hC] at hcount
  have HC : Hid (C = rows 1 A + row 1 (129 + (A : Int)) J) := hC
  obtain ⟨r, hr⟩ : ∃ r, r = pr x y := ⟨_, rfl⟩
  have HR : Hid (r = pr x y) := hr
  rw [← hr] at hcount hpb
  have heq : (r == (57344 : Int) + (C : Int)) = true := beq_iff_eq.2 (by omega)
  have HZ : Hid (ar x y = 1) := hz
  have HA : Hid (x = 129 + (A : Int)) := hA
  have HJ : Hid (y = 64 + (J : Int)) := hJ
  have hA2 : A ≤ 125 := by omega
  have hJ2 : J ≤ 190 := by omega
  have hC2 : (C : Int) ≤ 100000 := by omega
  obtain ⟨hpb1, hpb2⟩ := hpb
  clear hz hC hr hcount h hA hJ
  go_enter Try.func5, Try.ntmps5
  go_wp2_with fail
  refine (valid_yes x y _ v1 v2 v3 v4 v5).mono ?_
  rintro e w1 ⟨rfl, rfl⟩
  go_wp2_with fail
  refine (zzpriv_any w1.heap.size 2 x y _ (by simp) (by simp) (by omega) (by omega) (by omega) (by omega)).mono ?_
  rintro e w2 ⟨rfl, k, rfl⟩
  rw [hpo.out, ← HR.out]
  go_wp2_with fail
  refine (area_any x y _).mono ?_
  rintro e w2 ⟨rfl, rfl⟩
  rw [HZ.out]
  go_wp2_with fail
  refine (base1 _).mono ?_
  rintro e w2 ⟨rfl, rfl⟩
  go_wp2_with fail
  refine (count_any 1 x y A J _ HA.out HJ.out hA2 hJ2).mono ?_
  rintro e w2 ⟨rfl, rfl⟩
  rw [← HC.out]
  go_wp2
  go_ret
  exact ⟨rfl, Grown_drewN ((Grown.refl w1).alloc _ _) k⟩

set_option maxHeartbeats 400000 in
theorem walk_2 (x y : Int) (w : World) (v1 : 129 ≤ x) (v2 : x ≤ 254) (v3 : 64 ≤ y) (v4 : y ≤ 254) (v5 : y < 127 ∨ 127 < y) (hz : ar x y = 2) :
    Calls Try.prog 5 #[.int .u8 x, .int .u8 y] w fun e w' => e = .returned (.bool true) ∧ Grown w w' := by
  have h := (ar_two x y).1 hz
  have hpo : Hid (po x y = true) := by
    show po x y = true
    exact decide_eq_true (by omega)
  obtain ⟨A, hA⟩ : ∃ A : Nat, x = 129 + (A : Int) := ⟨(x - 129).toNat, by omega⟩
  obtain ⟨J, hJ⟩ : ∃ J : Nat, y = 64 + (J : Int) := ⟨(y - 64).toNat, by omega⟩
  have hcount : (rows 2 A + row 2 (129 + (A : Int)) J : Nat) + 57908 = pr x y := by
    have hp : pr x y = 57908 + (x - 248) * 94 + y - 161 := by
      unfold pr
      rw [if_neg (by omega), if_pos (by omega)]
    rw [hp, rows2 A (by omega), row2 _ J (by omega), if_pos (by omega)]
    (repeat' split) <;> omega
  have hpb : 0 ≤ pr x y ∧ pr x y ≤ 100000 := by unfold pr; (repeat' split) <;> omega
  obtain ⟨C, hC⟩ : ∃ C : Nat, C = rows 2 A + row 2 (129 + (A : Int)) J := ⟨_, rfl⟩
  rw [← hC] at hcount
  have HC : Hid (C = rows 2 A + row 2 (129 + (A : Int)) J) := hC
  obtain ⟨r, hr⟩ : ∃ r, r = pr x y := ⟨_, rfl⟩
  have HR : Hid (r = pr x y) := hr
  rw [← hr] at hcount hpb
  have heq : (r == (57908 : Int) + (C : Int)) = true := beq_iff_eq.2 (by omega)
  have HZ : Hid (ar x y = 2) := hz
  have HA : Hid (x = 129 + (A : Int)) := hA
  have HJ : Hid (y = 64 + (J : Int)) := hJ
  have hA2 : A ≤ 125 := by omega
  have hJ2 : J ≤ 190 := by omega
  have hC2 : (C : Int) ≤ 100000 := by omega
  obtain ⟨hpb1, hpb2⟩ := hpb
  clear hz hC hr hcount h hA hJ
  go_enter Try.func5, Try.ntmps5
  go_wp2_with fail
  refine (valid_yes x y _ v1 v2 v3 v4 v5).mono ?_
  rintro e w1 ⟨rfl, rfl⟩
  go_wp2_with fail
  refine (zzpriv_any w1.heap.size 2 x y _ (by simp) (by simp) (by omega) (by omega) (by omega) (by omega)).mono ?_
  rintro e w2 ⟨rfl, k, rfl⟩
  rw [hpo.out, ← HR.out]
  go_wp2_with fail
  refine (area_any x y _).mono ?_
  rintro e w2 ⟨rfl, rfl⟩
  rw [HZ.out]
  go_wp2_with fail
  refine (base2 _).mono ?_
  rintro e w2 ⟨rfl, rfl⟩
  go_wp2_with fail
  refine (count_any 2 x y A J _ HA.out HJ.out hA2 hJ2).mono ?_
  rintro e w2 ⟨rfl, rfl⟩
  rw [← HC.out]
  go_wp2
  go_ret
  exact ⟨rfl, Grown_drewN ((Grown.refl w1).alloc _ _) k⟩

set_option maxHeartbeats 400000 in
theorem walk_3 (x y : Int) (w : World) (v1 : 129 ≤ x) (v2 : x ≤ 254) (v3 : 64 ≤ y) (v4 : y ≤ 254) (v5 : y < 127 ∨ 127 < y) (hz : ar x y = 3) :
    Calls Try.prog 5 #[.int .u8 x, .int .u8 y] w fun e w' => e = .returned (.bool true) ∧ Grown w w' := by
  have h := (ar_three x y).1 hz
  have hpo : Hid (po x y = true) := by
    show po x y = true
    exact decide_eq_true (by omega)
  obtain ⟨A, hA⟩ : ∃ A : Nat, x = 129 + (A : Int) := ⟨(x - 129).toNat, by omega⟩
  obtain ⟨J, hJ⟩ : ∃ J : Nat, y = 64 + (J : Int) := ⟨(y - 64).toNat, by omega⟩
  have hcount : (rows 3 A + row 3 (129 + (A : Int)) J : Nat) + 58566 = pr x y := by
    have hp : pr x y = 58566 + (x - 161) * 96 + (if 127 < y then y - 64 - 1 else y - 64) := by
      unfold pr
      rw [if_neg (by omega), if_neg (by omega), if_pos (by omega)]
    rw [hp, rows3 A (by omega), row3 _ J (by omega), if_pos (by omega)]
    (repeat' split) <;> omega
  have hpb : 0 ≤ pr x y ∧ pr x y ≤ 100000 := by unfold pr; (repeat' split) <;> omega
  obtain ⟨C, hC⟩ : ∃ C : Nat, C = rows 3 A + row 3 (129 + (A : Int)) J := ⟨_, rfl⟩
  rw [← hC] at hcount
  have HC : Hid (C = rows 3 A + row 3 (129 + (A : Int)) J) := hC
  obtain ⟨r, hr⟩ : ∃ r, r = pr x y := ⟨_, rfl⟩
  have HR : Hid (r = pr x y) := hr
  rw [← hr] at hcount hpb
  have heq : (r == (58566 : Int) + (C : Int)) = true := beq_iff_eq.2 (by omega)
  have HZ : Hid (ar x y = 3) := hz
  have HA : Hid (x = 129 + (A : Int)) := hA
  have HJ : Hid (y = 64 + (J : Int)) := hJ
  have hA2 : A ≤ 125 := by omega
  have hJ2 : J ≤ 190 := by omega
  have hC2 : (C : Int) ≤ 100000 := by omega
  obtain ⟨hpb1, hpb2⟩ := hpb
  clear hz hC hr hcount h hA hJ
  go_enter Try.func5, Try.ntmps5
  go_wp2_with fail
  refine (valid_yes x y _ v1 v2 v3 v4 v5).mono ?_
  rintro e w1 ⟨rfl, rfl⟩
  go_wp2_with fail
  refine (zzpriv_any w1.heap.size 2 x y _ (by simp) (by simp) (by omega) (by omega) (by omega) (by omega)).mono ?_
  rintro e w2 ⟨rfl, k, rfl⟩
  rw [hpo.out, ← HR.out]
  go_wp2_with fail
  refine (area_any x y _).mono ?_
  rintro e w2 ⟨rfl, rfl⟩
  rw [HZ.out]
  go_wp2_with fail
  refine (base3 _).mono ?_
  rintro e w2 ⟨rfl, rfl⟩
  go_wp2_with fail
  refine (count_any 3 x y A J _ HA.out HJ.out hA2 hJ2).mono ?_
  rintro e w2 ⟨rfl, rfl⟩
  rw [← HC.out]
  go_wp2
  go_ret
  exact ⟨rfl, Grown_drewN ((Grown.refl w1).alloc _ _) k⟩

theorem ar_values (x y : Int) : ar x y = 0 ∨ ar x y = 1 ∨ ar x y = 2 ∨ ar x y = 3 := by unfold ar; (repeat' split) <;> omega

theorem walk (a0 : Int) (a1 : Int) (w0 : (Lit.int .u8 a0).wf = true) (w1 : (Lit.int .u8 a1).wf = true) (w : World) :
    Calls Try.prog 5 #[.int .u8 a0, .int .u8 a1] w fun e w' => e = .returned (.bool true) ∧ Grown w w' := by
  by_cases h : 129 ≤ a0 ∧ a0 ≤ 254 ∧ 64 ≤ a1 ∧ a1 ≤ 254 ∧ a1 ≠ 127
  · obtain ⟨v1, v2, v3, v4, v5⟩ := h
    rcases ar_values a0 a1 with hz | hz | hz | hz
    · exact walk_zero a0 a1 w v1 v2 v3 v4 (by omega) hz
    · exact walk_1 a0 a1 w v1 v2 v3 v4 (by omega) hz
    · exact walk_2 a0 a1 w v1 v2 v3 v4 (by omega) hz
    · exact walk_3 a0 a1 w v1 v2 v3 v4 (by omega) hz
  · go_enter Try.func5, Try.ntmps5
    go_wp2_with fail
    refine (valid_no a0 a1 _ h).mono ?_
    rintro e w1 ⟨rfl, rfl⟩
    clear h
    go_wp2
    go_ret
    exact ⟨rfl, Grown.refl _⟩

/-! ### THE ROW's STEP: WRITTEN OUT: LEAVE IT -/
set_option maxRecDepth 100000 in
theorem lifted (os : Os) (started : os.Started) (H : Type) (enc : TypeId × Value → H) :
    ReturnsInHanded {} Try.checked os 5 .any (Rows.fnPrivateUseMatchesCountingModelSpec.pre6 enc Try.prog Try.f5 Rows.fnPrivateUseMatchesCountingModelRow.domain false) (Rows.fnPrivateUseMatchesCountingModelSpec.post enc Try.prog Try.f5 false true false false) := by
  refine returnsInHanded_of_change (C := Try.checked) own started (by kernel_rfl) Try.func5
    (ChangeSpec.witness6 (enc := enc) (C := Try.checked) false ⟨#[], #[.int .u8 0, .int .u8 0], []⟩ 8 (by kernel_rfl) (by kernel_rfl) (by kernel_rfl) (by kernel_rfl)) ?_
  intro W base args ds gs before hval0 hW hcnd _
  have hval : ∀ (j : Nat) t v, Try.f5.params[j]? = some t → args[j]? = some v → Value.okWide Try.prog W .any base t v := hval0
  have hW' := hW
  obtain ⟨p, q, hA0, hV, rfl, hfz, hnd⟩ := hW
  have hA : DataW.TrodAll enc Try.prog W 0 (fun _ => true) true Try.f5.params.toList args.toList ds p := hA0
  rw [Try.params5] at hA hval
  obtain ⟨v0, vs0, d0, ds0, p0, q0, hargs, rfl, rfl, h0, r0⟩ := trodAll_cons hA
  obtain ⟨v1, vs1, d1, ds1, p1, q1, rfl, rfl, rfl, h1, r1⟩ := trodAll_cons r0
  obtain ⟨rfl, rfl, rfl⟩ := trodAll_nil r1
  obtain rfl : args = #[v0, v1] := by cases args; simp_all
  obtain ⟨rfl, rfl⟩ := trodVars_none hV
  obtain ⟨a0, rfl, rfl, rfl, w0⟩ := open_int Try.underlying5 (hval 0 5 v0 rfl rfl) h0
  obtain ⟨a1, rfl, rfl, rfl, w1⟩ := open_int Try.underlying5 (hval 1 5 v1 rfl rfl) h1
  clear hA0 hval0
  simp only [List.append_nil] at hW'
  refine (walk a0 a1 w0 w1 W).mono fun e W' ⟨he, hg⟩ => ?_
  subst he
  exact ⟨_, rfl, post_of_same (pa := []) (pv := []) hW' (fun _ _ _ => (trodAll_cons_mk (shut_bool Try.underlying4 _) trodAll_mk0)) (fun sp _ => (trodAll_cons_mk (shut_int Try.underlying5 w0) (trodAll_cons_mk (shut_int Try.underlying5 w1) trodAll_mk0))) (fun _ _ => rfl) rfl
    (hg.frame _) hg.2.1 (ok_one (by kernel_rfl) rfl (okWide_bool_mk Try.underlying4 _))⟩

theorem over : Rows.fnPrivateUseMatchesCountingModelRow.holds Try.pinned (OpenSpec.ofChange Rows.fnPrivateUseMatchesCountingModelSpec) :=
  OpenClaim.holds_of_wide 5 Try.f5 rfl rfl rfl rfl rfl rfl rfl ⟨rfl, rfl, rfl, rfl, rfl⟩ rfl rfl rfl rfl rfl (by kernel_rfl) Try.func5 (by kernel_rfl)
    (of_decide_eq_true (by kernel_rfl)) (by unfold Func.isWrapper; first | (rw [if_pos (by decide +kernel)]; kernel_rfl) | (rw [if_neg (by decide +kernel)]; exact ⟨rfl, rfl⟩))
    (fun os started H enc _ => lifted os started H enc)

/-- ████ THE STATEMENT ████ -/
theorem proved : Rows.FnPrivateUseMatchesCountingModelSaid :=
  over
#print axioms proved
end Go.Proofs.Qxb6000989a.fnPrivateUseMatchesCountingModel
