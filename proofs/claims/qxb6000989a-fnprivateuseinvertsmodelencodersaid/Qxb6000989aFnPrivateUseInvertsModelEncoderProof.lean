/-
  'Rows.FnPrivateUseInvertsModelEncoderSaid' PROVED: the seat's shell, its one hole filled.
-/
import Derived.Test.Qxb6000989aRows
import Derived.WalkKit
import Derived.ProofKit
import Derived.OpenShut
import Derived.ShutString
import Derived.Test.Qxb6000989aPriv
namespace Go.Proofs.Qxb6000989a.fnPrivateUseInvertsModelEncoder
open Go.ChangeShapes Go.WideShapes Go.ChangeAt Go.RowKit
open Go.Proofs.Qxb6000989a.Code Go.Proofs.Qxb6000989a.Priv
open Go.ChangeMaps (open_string shut_string)
set_option linter.unusedVariables false      -- a walk need not use every 'w<i>' (that an integer argument fits its kind)

theorem own : ownKnob Try.prog.godebug = none := by kernel_rfl

/-! ### THE WALK -/
theorem Grown_drewN {W w' : World} (h : Grown W w') (k : Nat) : Grown W (w'.drewN k) := h

theorem cl_two {x y : Int} (h1 : 129 ≤ x) (h2 : x ≤ 254) (h3 : 64 ≤ y) (h4 : y ≤ 254) (h5 : y < 127 ∨ 127 < y) : cl 2 x y = 2 := by
  unfold cl; rw [if_neg (by omega), if_neg (by omega), if_pos (by omega)]

set_option maxHeartbeats 400000 in
theorem walk_one (r : Int) (w : World) (h1 : 57344 ≤ r) (h2 : r ≤ 57907) :
    Calls Try.prog 6 #[.int .i32 r] w fun e w' => e = .returned (.bool true) ∧ Grown w w' := by
  have f1 : decide (r < 57344) = false := decide_eq_false (by omega)
  have frr : (r == r) = true := by simp
  go_enter Try.func6, Try.ntmps6
  go_wp2_with fail
  generalize hx : 170 + (r - 57344) / 94 = x
  generalize hy : 161 + (r - 57344) % 94 = y
  have v1 : 129 ≤ x := by omega
  have v2 : x ≤ 254 := by omega
  have v3 : 64 ≤ y := by omega
  have v4 : y ≤ 254 := by omega
  have v5 : y < 127 ∨ 127 < y := by omega
  have hpr : Hid (pr x y = r) := by show pr x y = r; unfold pr; rw [if_pos (by omega)]; omega
  have hpo : Hid (po x y = true) := by show po x y = true; exact decide_eq_true (by omega)
  have hcl : Hid (cl 2 x y = 2) := cl_two v1 v2 v3 v4 v5
  clear hx hy
  refine (valid_yes x y _ v1 v2 v3 v4 v5).mono ?_
  rintro e w1 ⟨rfl, rfl⟩
  go_wp2_with fail
  refine (zzcode_any w.heap.size 2 2 x y _ (by omega) (by omega) (by simp) (fun _ => by simp) (by omega) (by omega)).mono ?_
  rintro e w1 ⟨rfl, rfl⟩
  rw [hcl.out]
  go_wp2_with fail
  refine (zzpriv_any w.heap.size 2 x y _ (by simp) (by simp) (by omega) (by omega) (by omega) (by omega)).mono ?_
  rintro e w1 ⟨rfl, k, rfl⟩
  rw [hpr.out, hpo.out]
  go_wp2
  go_ret
  exact ⟨rfl, Grown_drewN ((Grown.refl w).alloc _ _) k⟩

set_option maxHeartbeats 400000 in
theorem walk_two (r : Int) (w : World) (h1 : 57908 ≤ r) (h2 : r ≤ 58565) :
    Calls Try.prog 6 #[.int .i32 r] w fun e w' => e = .returned (.bool true) ∧ Grown w w' := by
  have f1 : decide (r < 57344) = false := decide_eq_false (by omega)
  have frr : (r == r) = true := by simp
  go_enter Try.func6, Try.ntmps6
  go_wp2_with fail
  generalize hx : 248 + (r - 57908) / 94 = x
  generalize hy : 161 + (r - 57908) % 94 = y
  have v1 : 129 ≤ x := by omega
  have v2 : x ≤ 254 := by omega
  have v3 : 64 ≤ y := by omega
  have v4 : y ≤ 254 := by omega
  have v5 : y < 127 ∨ 127 < y := by omega
  have hpr : Hid (pr x y = r) := by show pr x y = r; unfold pr; rw [if_neg (by omega), if_pos (by omega)]; omega
  have hpo : Hid (po x y = true) := by show po x y = true; exact decide_eq_true (by omega)
  have hcl : Hid (cl 2 x y = 2) := cl_two v1 v2 v3 v4 v5
  clear hx hy
  refine (valid_yes x y _ v1 v2 v3 v4 v5).mono ?_
  rintro e w1 ⟨rfl, rfl⟩
  go_wp2_with fail
  refine (zzcode_any w.heap.size 2 2 x y _ (by omega) (by omega) (by simp) (fun _ => by simp) (by omega) (by omega)).mono ?_
  rintro e w1 ⟨rfl, rfl⟩
  rw [hcl.out]
  go_wp2_with fail
  refine (zzpriv_any w.heap.size 2 x y _ (by simp) (by simp) (by omega) (by omega) (by omega) (by omega)).mono ?_
  rintro e w1 ⟨rfl, k, rfl⟩
  rw [hpr.out, hpo.out]
  go_wp2
  go_ret
  exact ⟨rfl, Grown_drewN ((Grown.refl w).alloc _ _) k⟩

set_option maxHeartbeats 400000 in
theorem walk_three (r : Int) (w : World) (h1 : 58566 ≤ r) (h2 : r ≤ 59237) (h3 : 64 + (r - 58566) % 96 < 127) :
    Calls Try.prog 6 #[.int .i32 r] w fun e w' => e = .returned (.bool true) ∧ Grown w w' := by
  have f1 : decide (r < 57344) = false := decide_eq_false (by omega)
  have frr : (r == r) = true := by simp
  go_enter Try.func6, Try.ntmps6
  go_wp2_with fail
  generalize hx : 161 + (r - 58566) / 96 = x
  generalize hy : 64 + (r - 58566) % 96 = y
  have v1 : 129 ≤ x := by omega
  have v2 : x ≤ 254 := by omega
  have v3 : 64 ≤ y := by omega
  have v4 : y ≤ 254 := by omega
  have v5 : y < 127 ∨ 127 < y := by omega
  have hpr : Hid (pr x y = r) := by show pr x y = r; unfold pr; rw [if_neg (by omega), if_neg (by omega), if_pos (by omega), if_neg (by omega)]; omega
  have hpo : Hid (po x y = true) := by show po x y = true; exact decide_eq_true (by omega)
  have hcl : Hid (cl 2 x y = 2) := cl_two v1 v2 v3 v4 v5
  clear hx hy
  refine (valid_yes x y _ v1 v2 v3 v4 v5).mono ?_
  rintro e w1 ⟨rfl, rfl⟩
  go_wp2_with fail
  refine (zzcode_any w.heap.size 2 2 x y _ (by omega) (by omega) (by simp) (fun _ => by simp) (by omega) (by omega)).mono ?_
  rintro e w1 ⟨rfl, rfl⟩
  rw [hcl.out]
  go_wp2_with fail
  refine (zzpriv_any w.heap.size 2 x y _ (by simp) (by simp) (by omega) (by omega) (by omega) (by omega)).mono ?_
  rintro e w1 ⟨rfl, k, rfl⟩
  rw [hpr.out, hpo.out]
  go_wp2
  go_ret
  exact ⟨rfl, Grown_drewN ((Grown.refl w).alloc _ _) k⟩

set_option maxHeartbeats 400000 in
theorem walk_four (r : Int) (w : World) (h1 : 58566 ≤ r) (h2 : r ≤ 59237) (h3 : 127 ≤ 64 + (r - 58566) % 96) :
    Calls Try.prog 6 #[.int .i32 r] w fun e w' => e = .returned (.bool true) ∧ Grown w w' := by
  have f1 : decide (r < 57344) = false := decide_eq_false (by omega)
  have frr : (r == r) = true := by simp
  go_enter Try.func6, Try.ntmps6
  go_wp2_with fail
  generalize hx : 161 + (r - 58566) / 96 = x
  generalize hy : 64 + (r - 58566) % 96 + 1 = y
  have v1 : 129 ≤ x := by omega
  have v2 : x ≤ 254 := by omega
  have v3 : 64 ≤ y := by omega
  have v4 : y ≤ 254 := by omega
  have v5 : y < 127 ∨ 127 < y := by omega
  have hpr : Hid (pr x y = r) := by show pr x y = r; unfold pr; rw [if_neg (by omega), if_neg (by omega), if_pos (by omega), if_pos (by omega)]; omega
  have hpo : Hid (po x y = true) := by show po x y = true; exact decide_eq_true (by omega)
  have hcl : Hid (cl 2 x y = 2) := cl_two v1 v2 v3 v4 v5
  clear hx hy
  refine (valid_yes x y _ v1 v2 v3 v4 v5).mono ?_
  rintro e w1 ⟨rfl, rfl⟩
  go_wp2_with fail
  refine (zzcode_any w.heap.size 2 2 x y _ (by omega) (by omega) (by simp) (fun _ => by simp) (by omega) (by omega)).mono ?_
  rintro e w1 ⟨rfl, rfl⟩
  rw [hcl.out]
  go_wp2_with fail
  refine (zzpriv_any w.heap.size 2 x y _ (by simp) (by simp) (by omega) (by omega) (by omega) (by omega)).mono ?_
  rintro e w1 ⟨rfl, k, rfl⟩
  rw [hpr.out, hpo.out]
  go_wp2
  go_ret
  exact ⟨rfl, Grown_drewN ((Grown.refl w).alloc _ _) k⟩

theorem walk (a0 : Int) (w0 : (Lit.int .i32 a0).wf = true) (w : World) :
    Calls Try.prog 6 #[.int .i32 a0] w fun e w' => e = .returned (.bool true) ∧ Grown w w' := by
  have hb := bounds_i32 w0
  by_cases h1 : a0 < 57344
  · go_enter Try.func6, Try.ntmps6
    go_wp2
    go_ret
    exact ⟨rfl, Grown.refl _⟩
  · by_cases h2 : 59237 < a0
    · have f1 : decide (a0 < 57344) = false := decide_eq_false h1
      go_enter Try.func6, Try.ntmps6
      go_wp2
      go_ret
      exact ⟨rfl, Grown.refl _⟩
    · by_cases h3 : a0 ≤ 57907
      · exact walk_one a0 w (by omega) h3
      · by_cases h4 : a0 ≤ 58565
        · exact walk_two a0 w (by omega) h4
        · by_cases h5 : 64 + (a0 - 58566) % 96 < 127
          · exact walk_three a0 w (by omega) (by omega) h5
          · exact walk_four a0 w (by omega) (by omega) (by omega)

/-! ### THE ROW's STEP: WRITTEN OUT: LEAVE IT -/
set_option maxRecDepth 100000 in
theorem lifted (os : Os) (started : os.Started) (H : Type) (enc : TypeId × Value → H) :
    ReturnsInHanded {} Try.checked os 6 .any (Rows.fnPrivateUseInvertsModelEncoderSpec.pre6 enc Try.prog Try.f6 Rows.fnPrivateUseInvertsModelEncoderRow.domain false) (Rows.fnPrivateUseInvertsModelEncoderSpec.post enc Try.prog Try.f6 false true false false) := by
  refine returnsInHanded_of_change (C := Try.checked) own started (by kernel_rfl) Try.func6
    (ChangeSpec.witness6 (enc := enc) (C := Try.checked) false ⟨#[], #[.int .i32 0], []⟩ 8 (by kernel_rfl) (by kernel_rfl) (by kernel_rfl) (by kernel_rfl)) ?_
  intro W base args ds gs before hval0 hW hcnd _
  have hval : ∀ (j : Nat) t v, Try.f6.params[j]? = some t → args[j]? = some v → Value.okWide Try.prog W .any base t v := hval0
  have hW' := hW
  obtain ⟨p, q, hA0, hV, rfl, hfz, hnd⟩ := hW
  have hA : DataW.TrodAll enc Try.prog W 0 (fun _ => true) true Try.f6.params.toList args.toList ds p := hA0
  rw [Try.params6] at hA hval
  obtain ⟨v0, vs0, d0, ds0, p0, q0, hargs, rfl, rfl, h0, r0⟩ := trodAll_cons hA
  obtain ⟨rfl, rfl, rfl⟩ := trodAll_nil r0
  obtain rfl : args = #[v0] := by cases args; simp_all
  obtain ⟨rfl, rfl⟩ := trodVars_none hV
  obtain ⟨a0, rfl, rfl, rfl, w0⟩ := open_int Try.underlying21 (hval 0 21 v0 rfl rfl) h0
  clear hA0 hval0
  simp only [List.append_nil] at hW'
  refine (walk a0 w0 W).mono fun e W' ⟨he, hg⟩ => ?_
  subst he
  exact ⟨_, rfl, post_of_same (pa := []) (pv := []) hW' (fun _ _ _ => (trodAll_cons_mk (shut_bool Try.underlying4 _) trodAll_mk0)) (fun sp _ => (trodAll_cons_mk (shut_int Try.underlying21 w0) trodAll_mk0)) (fun _ _ => rfl) rfl
    (hg.frame _) hg.2.1 (ok_one (by kernel_rfl) rfl (okWide_bool_mk Try.underlying4 _))⟩

theorem over : Rows.fnPrivateUseInvertsModelEncoderRow.holds Try.pinned (OpenSpec.ofChange Rows.fnPrivateUseInvertsModelEncoderSpec) :=
  OpenClaim.holds_of_wide 6 Try.f6 rfl rfl rfl rfl rfl rfl rfl ⟨rfl, rfl, rfl, rfl, rfl⟩ rfl rfl rfl rfl rfl (by kernel_rfl) Try.func6 (by kernel_rfl)
    (of_decide_eq_true (by kernel_rfl)) (by unfold Func.isWrapper; first | (rw [if_pos (by decide +kernel)]; kernel_rfl) | (rw [if_neg (by decide +kernel)]; exact ⟨rfl, rfl⟩))
    (fun os started H enc _ => lifted os started H enc)

/-- ████ THE STATEMENT ████ -/
theorem proved : Rows.FnPrivateUseInvertsModelEncoderSaid :=
  over
#print axioms proved
end Go.Proofs.Qxb6000989a.fnPrivateUseInvertsModelEncoder
