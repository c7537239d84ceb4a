/-
  'Rows.FnDigitsCountsDigitCharactersSaid' PROVED: the seat's shell, its one hole filled.
-/
import Derived.Test.Qxb6000725aRows
import Derived.WalkKit
import Derived.ProofKit
import Derived.OpenShut
import Derived.ShutString
import Derived.Handy
import Derived.Test.Qxb6000725aDig2
namespace Go.Proofs.Qxb6000725a.fnDigitsCountsDigitCharacters
open Go.ChangeShapes Go.WideShapes Go.ChangeAt Go.RowKit
open Go.ChangeMaps (open_string shut_string)
open Go.Proofs.Qxb6000725a.Num Go.Proofs.Qxb6000725a.Dig
set_option linter.unusedVariables false      -- a walk need not use every 'w<i>' (that an integer argument fits its kind)

theorem own : ownKnob Try.prog.godebug = none := by kernel_rfl

/-! ### THE WALK -/
theorem empty_of {a0 : ByteArray} (h0 : ¬ 0 < a0.size) : a0 = { data := #[] } := by
  cases a0 with
  | mk d =>
    have : d.size = 0 := by simpa using (by simpa [ByteArray.size] using h0 : d.size = 0)
    have : d = #[] := Array.eq_empty_of_size_eq_zero this
    rw [this]

theorem walk_empty (a1 : Int) (a2 : Int) (a3 : Bool) (w2 : (Lit.int .i32 a2).wf = true) (w : World) :
    Calls Try.prog 3 #[.string { data := #[] }, .int .i64 a1, .int .i32 a2, .bool a3] w fun e w' => e = .returned (.bool true) ∧ Grown w w' := by
  have hb2 := bounds_i32 w2
  cases hz : (a2 != 0) with
  | true =>
    go_enter Try.func3, Try.ntmps3
    go_wp2
    go_ret
    exact ⟨rfl, Grown.refl _⟩
  | false =>
    obtain rfl : a2 = 0 := by simpa using hz
    go_enter Try.func3, Try.ntmps3
    go_wp2
    go_ret
    exact ⟨rfl, by repeat (first | exact Grown.refl _ | apply Grown.drew | apply Grown.alloc)⟩

theorem walk_main (a0 : ByteArray) (a1 : Int) (a2 : Int) (a3 : Bool) (w2 : (Lit.int .i32 a2).wf = true) (w : World) (hsz : a0.size ≤ 1048576) (h0 : 0 < a0.size) :
    Calls Try.prog 3 #[.string a0, .int .i64 a1, .int .i32 a2, .bool a3] w fun e w' => e = .returned (.bool true) ∧ Grown w w' := by
  have hb2 := bounds_i32 w2
  have hE := isEmpty_no h0
  go_enter Try.func3, Try.ntmps3
  go_wp2_with (go_at_call 7; go_in)
  refine (numeral_any a0 w (by unfold maxLen; omega)).mono ?_
  rintro e w' ⟨b, a, rfl, hb, rfl⟩
  cases b with
  | false =>
    go_wp2
    go_ret
    exact ⟨rfl, Grown.refl _⟩
  | true =>
    obtain ⟨_, ha0, hdig, hlen⟩ := dig_of a0 a (hb rfl)
    clear hb
    by_cases hp : a2 = a
    · subst hp
      have hq : (digN a0 a2 == (dig a0.data.toList : Int)) = true := by
        rw [beq_iff_eq]; unfold digN; omega
      clear hdig hlen
      go_wp2_with fail
      refine (count_any a0 _ (by omega)).mono ?_
      rintro e w1 ⟨rfl, rfl⟩
      go_wp2_with (go_at_call 10; go_in)
      refine (string_some _ _ _ _ _ h0).mono ?_
      rintro e w1 ⟨rfl, rfl⟩
      go_wp2_with fail
      refine (digits_any _ _ _ _ _ h0 (by omega)).mono ?_
      rintro e w1 ⟨rfl, rfl⟩
      go_wp2
      go_ret
      exact ⟨rfl, by repeat (first | exact Grown.refl _ | apply Grown.drew | apply Grown.alloc)⟩
    · go_wp2
      go_ret
      exact ⟨rfl, Grown.refl _⟩

theorem walk (a0 : ByteArray) (a1 : Int) (a2 : Int) (a3 : Bool) (w0 : a0.size ≤ maxLen) (w1 : (Lit.int .i64 a1).wf = true) (w2 : (Lit.int .i32 a2).wf = true) (w : World) :
    Calls Try.prog 3 #[.string a0, .int .i64 a1, .int .i32 a2, .bool a3] w fun e w' => e = .returned (.bool true) ∧ Grown w w' := by
  unfold maxLen at w0
  by_cases hsz : a0.size ≤ 1048576
  · by_cases h0 : 0 < a0.size
    · exact walk_main a0 a1 a2 a3 w2 w hsz h0
    · rw [empty_of h0]
      exact walk_empty a1 a2 a3 w2 w
  · go_enter Try.func3, Try.ntmps3
    go_wp2
    go_ret
    exact ⟨rfl, Grown.refl _⟩

/-! ### THE ROW's STEP: WRITTEN OUT: LEAVE IT -/
set_option maxRecDepth 100000 in
theorem lifted (os : Os) (started : os.Started) (H : Type) (enc : TypeId × Value → H) :
    ReturnsInHanded {} Try.checked os 3 .any (Rows.fnDigitsCountsDigitCharactersSpec.pre6 enc Try.prog Try.f3 Rows.fnDigitsCountsDigitCharactersRow.domain false) (Rows.fnDigitsCountsDigitCharactersSpec.post enc Try.prog Try.f3 false true false false) := by
  refine returnsInHanded_of_change (C := Try.checked) own started (by kernel_rfl) Try.func3
    (ChangeSpec.witness6 (enc := enc) (C := Try.checked) false ⟨#[], #[.string ByteArray.empty, .int .i64 0, .int .i32 0, .bool false], []⟩ 8 (by kernel_rfl) (by kernel_rfl) (by kernel_rfl) (by kernel_rfl)) ?_
  intro W base args ds gs before hval0 hW hcnd _
  have hval : ∀ (j : Nat) t v, Try.f3.params[j]? = some t → args[j]? = some v → Value.okWide Try.prog W .any base t v := hval0
  have hW' := hW
  obtain ⟨p, q, hA0, hV, rfl, hfz, hnd⟩ := hW
  have hA : DataW.TrodAll enc Try.prog W 0 (fun _ => true) true Try.f3.params.toList args.toList ds p := hA0
  rw [Try.params3] at hA hval
  obtain ⟨v0, vs0, d0, ds0, p0, q0, hargs, rfl, rfl, h0, r0⟩ := trodAll_cons hA
  obtain ⟨v1, vs1, d1, ds1, p1, q1, rfl, rfl, rfl, h1, r1⟩ := trodAll_cons r0
  obtain ⟨v2, vs2, d2, ds2, p2, q2, rfl, rfl, rfl, h2, r2⟩ := trodAll_cons r1
  obtain ⟨v3, vs3, d3, ds3, p3, q3, rfl, rfl, rfl, h3, r3⟩ := trodAll_cons r2
  obtain ⟨rfl, rfl, rfl⟩ := trodAll_nil r3
  obtain rfl : args = #[v0, v1, v2, v3] := by cases args; simp_all
  obtain ⟨rfl, rfl⟩ := trodVars_none hV
  obtain ⟨a0, rfl, rfl, rfl, w0⟩ := open_string Try.underlying9 (hval 0 9 v0 rfl rfl) h0
  obtain ⟨a1, rfl, rfl, rfl, w1⟩ := open_int Try.underlying2 (hval 1 2 v1 rfl rfl) h1
  obtain ⟨a2, rfl, rfl, rfl, w2⟩ := open_int Try.underlying21 (hval 2 21 v2 rfl rfl) h2
  obtain ⟨a3, rfl, rfl, rfl⟩ := open_bool Try.underlying4 (hval 3 4 v3 rfl rfl) h3
  clear hA0 hval0
  simp only [List.append_nil] at hW'
  refine (walk a0 a1 a2 a3 w0 w1 w2 W).mono fun e W' ⟨he, hg⟩ => ?_
  subst he
  exact ⟨_, rfl, post_of_same (pa := []) (pv := []) hW' (fun _ _ _ => (trodAll_cons_mk (shut_bool Try.underlying4 _) trodAll_mk0)) (fun sp _ => (trodAll_cons_mk (shut_string Try.underlying9 w0) (trodAll_cons_mk (shut_int Try.underlying2 w1) (trodAll_cons_mk (shut_int Try.underlying21 w2) (trodAll_cons_mk (shut_bool Try.underlying4 _) trodAll_mk0))))) (fun _ _ => rfl) rfl
    (hg.frame _) hg.2.1 (ok_one (by kernel_rfl) rfl (okWide_bool_mk Try.underlying4 _))⟩

theorem over : Rows.fnDigitsCountsDigitCharactersRow.holds Try.pinned (OpenSpec.ofChange Rows.fnDigitsCountsDigitCharactersSpec) :=
  OpenClaim.holds_of_wide 3 Try.f3 rfl rfl rfl rfl rfl rfl rfl ⟨rfl, rfl, rfl, rfl, rfl⟩ rfl rfl rfl rfl rfl (by kernel_rfl) Try.func3 (by kernel_rfl)
    (of_decide_eq_true (by kernel_rfl)) (by unfold Func.isWrapper; first | (rw [if_pos (by decide +kernel)]; kernel_rfl) | (rw [if_neg (by decide +kernel)]; exact ⟨rfl, rfl⟩))
    (fun os started H enc _ => lifted os started H enc)

/-- ████ THE STATEMENT ████ -/
theorem proved : Rows.FnDigitsCountsDigitCharactersSaid :=
  over
#print axioms proved
end Go.Proofs.Qxb6000725a.fnDigitsCountsDigitCharacters
