/-
  'Rows.FnSortedByBitsIsStableSortByKeySaid' PROVED: the seat's shell, its one hole filled.
-/
import Derived.Test.Qxb6000725aRows
import Derived.WalkKit
import Derived.ProofKit
import Derived.OpenShut
import Derived.ShutString
import Derived.ChangeOld
import Derived.Below
import Derived.Test.Qxb6000725aAll
namespace Go.Proofs.Qxb6000725a.fnSortedByBitsIsStableSortByKey
open Go.ChangeShapes Go.WideShapes Go.ChangeAt Go.RowKit
open Go.ChangeMaps (open_string shut_string)
open Go.Proofs.Qxb6000725a.Mem Go.Proofs.Qxb6000725a.Small Go.Proofs.Qxb6000725a.Rad
set_option linter.unusedVariables false

theorem own : ownKnob Try.prog.godebug = none := by kernel_rfl
theorem laidOut : laidOutB Try.prog = true := by kernel_rfl

/-- WHAT THE WALK IS TOLD OF A SLICE OF INTEGERS THAT CAME IN: it is nil; or it leads to a row of 'cap' cells, the numbers 'zs' (the first 'len' are its elements, the rest its spare room), each fitting its kind. -/
def IsRow (k : IntKind) (w : World) (a : Option Addr) (len cap : Nat) (zs : List Int) : Prop :=
  (a = none ∧ len = 0 ∧ cap = 0 ∧ zs = []) ∨
  ∃ x, a = some x ∧ len ≤ cap ∧ cap ≤ maxLen ∧ zs.length = cap ∧ (∀ i, i < zs.length → w.cell? (x.add i) = some (.int k (zs.getD i 0))) ∧ ∀ n ∈ zs, (Lit.int k n).wf = true

/-! ### THE WALK -/
theorem came_of {w : World} {a0 : Option Addr} {len0 cap0 : Nat} {z0 : List Int} (w0 : IsRow .i64 w a0 len0 cap0 z0) : Came w a0 len0 cap0 (fun i => z0.getD i 0) := by
  rcases w0 with ⟨rfl, rfl, rfl, rfl⟩ | ⟨x, rfl, hl, hm, hz, hc, _⟩
  · exact .inl ⟨rfl, rfl, rfl⟩
  · exact .inr ⟨x, rfl, fun i hi => hc i (by omega)⟩

theorem walk_main (a0 : Option Addr) (n cap0 : Nat) (f : Nat → Int) (lo hi : Int) (w : World) (hC : Came w a0 n cap0 f) (hn : n ≤ 4096) (hlo : 0 ≤ lo) (hlo2 : lo ≤ 256) (hhi : -65536 ≤ hi) (hhi2 : hi ≤ 256) :
    Calls Try.prog 5 #[.slice a0 n cap0, .int .i64 lo, .int .i64 hi] w fun e w' => e = .returned (.bool true) ∧ Below w.heap.size w w' := by
  have hmk := make_ints n (by omega)
  have hd1 : decide (lo < 0) = false := decide_eq_false (by omega)
  have hd2 : decide (256 < lo) = false := decide_eq_false (by omega)
  have hd3 : decide (hi < -65536) = false := decide_eq_false (by omega)
  go_enter Try.func5, Try.ntmps5
  go_wp2_with (go_at_call 14; go_in)
  refine (clear_all a0 n cap0 f lo hi w hn hlo hC).mono ?_
  rintro e w1 ⟨hcl, rfl⟩
  rcases hcl with rfl | ⟨rfl, hlow⟩
  · go_wp2
    go_ret
    exact ⟨rfl, Below.refl _ _⟩
  · go_wp2_with fail
    refine (clone_all a0 n cap0 f w1 hn hC).mono ?_
    rintro e w2 ⟨a2, c2, rfl, hO2, hb2, hz2⟩
    go_wp2_with fail
    refine (sort_all a2 n c2 w1.heap.size f lo hi w2 hn hlo hlo2 hO2).mono ?_
    rintro e w3 ⟨a3, c3, S, rfl, ha3, ht3, hS, hb3, hz3⟩
    have hsz2 := hb2.size
    have hsz3 := hb3.size
    go_wp2_with fail
    have hT : Two (w3.alloc (.cells (zs n) 3)) w1.heap.size w3.heap.size n := fun h => by
      have := hz2 h; have := hz3 h; simp; omega
    have t0 : Tab w3 w1.heap.size n f := by
      by_cases h : 0 < n
      · exact hO2.2.2.below hb3 (hz2 h)
      · intro i hi; omega
    refine (zzsorted_any a2 (some ⟨w3.heap.size, 0, none⟩) c2 n w1.heap.size w3.heap.size n lo hi f (fun _ => 0) (w3.alloc (.cells (zs n) 3)) hO2.1 (fun _ => rfl) hT (t0.alloc _) (Tab_made w3 n) hn hlo hlo2 hhi hhi2).mono ?_
    rintro e w4 ⟨a4, a4', c4, c4', b4, S4, rfl, hS4, hab, ht4, hk4⟩
    have e4 : S4 = S := Srt.Stab_unique (Srt.Stab_congr hS4 (part_key hlo hlow)) hS
    subst e4
    have t3 : Tab w4 w2.heap.size n (fun t => S4.getD t 0) := by
      by_cases h : 0 < n
      · exact hk4.tab (by have := hz3 h; simp; omega) (by have := hz2 h; omega) (by have := hz3 h; omega) (ht3.alloc _)
      · intro i hi; omega
    have hbb : Below w1.heap.size w1 w4 :=
      ((hb2.trans (hb3.mono hsz2)).alloc (by omega) _).trans (hk4.below (by simp; omega) (Nat.le_refl _) (by omega))
    have hnn : ((n : Int) != (n : Int)) = false := by simp
    clear hk4 hT t0 hb2 hb3 hO2 hS4 hS hlow hmk hC
    go_wp2_with fail
    refine (same_all a4 a3 n c4 c3 b4 w2.heap.size (fun t => S4.getD t 0) w4 hn (fun h => (hab h).1) ha3 ht4 t3).mono ?_
    rintro e w5 ⟨rfl, k, rfl⟩
    clear ht4 t3
    go_wp2
    go_ret
    exact ⟨rfl, ⟨hbb.os, hbb.tape, hbb.output, hbb.size, hbb.block⟩⟩

theorem walk (a0 : Option Addr) (len0 cap0 : Nat) (z0 : List Int) (a1 : Int) (a2 : Int) (w : World) (w0 : IsRow .i64 w a0 len0 cap0 z0) (w1 : (Lit.int .i64 a1).wf = true) (w2 : (Lit.int .i64 a2).wf = true) :
    Calls Try.prog 5 #[.slice a0 len0 cap0, .int .i64 a1, .int .i64 a2] w fun e w' => e = .returned (.bool true) ∧ Below w.heap.size w w' := by
  have hC := came_of w0
  have hlen : len0 ≤ 9223372036854775807 := by
    rcases w0 with ⟨_, rfl, _⟩ | ⟨x, _, hl, hm, _⟩
    · omega
    · unfold maxLen at hm; omega
  by_cases hn20 : len0 ≤ 1048576
  · by_cases hn : len0 ≤ 4096
    · by_cases h1 : a1 < 0
      · clear w0 hC
        go_enter Try.func5, Try.ntmps5
        go_wp2
        go_ret
        exact ⟨rfl, Below.refl _ _⟩
      · have hd1 : decide (a1 < 0) = false := decide_eq_false h1
        by_cases h2 : 256 < a1
        · clear w0 hC
          go_enter Try.func5, Try.ntmps5
          go_wp2
          go_ret
          exact ⟨rfl, Below.refl _ _⟩
        · have hd2 : decide (256 < a1) = false := decide_eq_false h2
          by_cases h3 : a2 < -65536
          · clear w0 hC
            go_enter Try.func5, Try.ntmps5
            go_wp2
            go_ret
            exact ⟨rfl, Below.refl _ _⟩
          · have hd3 : decide (a2 < -65536) = false := decide_eq_false h3
            by_cases h4 : 256 < a2
            · clear w0 hC
              go_enter Try.func5, Try.ntmps5
              go_wp2
              go_ret
              exact ⟨rfl, Below.refl _ _⟩
            · exact walk_main a0 len0 cap0 _ a1 a2 w hC hn (by omega) (by omega) (by omega) (by omega)
    · clear w0 hC
      go_enter Try.func5, Try.ntmps5
      go_wp2
      go_ret
      exact ⟨rfl, Below.refl _ _⟩
  · clear w0 hC
    go_enter Try.func5, Try.ntmps5
    go_wp2
    go_ret
    exact ⟨rfl, Below.refl _ _⟩

/-! ### THE ROW's STEP: WRITTEN OUT: LEAVE IT -/
set_option maxRecDepth 100000 in
theorem lifted (os : Os) (started : os.Started) (H : Type) (enc : TypeId × Value → H) :
    ReturnsInHanded {} Try.checked os 5 .any (Rows.fnSortedByBitsIsStableSortByKeySpec.pre6 enc Try.prog Try.f5 Rows.fnSortedByBitsIsStableSortByKeyRow.domain false) (Rows.fnSortedByBitsIsStableSortByKeySpec.post enc Try.prog Try.f5 false true false false) := by
  refine returnsInHanded_of_change (C := Try.checked) own started (by kernel_rfl) Try.func5
    (ChangeSpec.witness6 (enc := enc) (C := Try.checked) false ⟨#[], #[.slice none 0 0, .int .i64 0, .int .i64 0], []⟩ 8 (by kernel_rfl) (by kernel_rfl) (by kernel_rfl) (by kernel_rfl)) ?_
  intro W base args ds gs before hval0 hW hcnd _
  have hval : ∀ (j : Nat) t v, Try.f5.params[j]? = some t → args[j]? = some v → Value.okWide Try.prog W .any base t v := hval0
  have hW' := hW
  obtain ⟨p, q, hA0, hV, rfl, hfz, hnd⟩ := hW
  have hA : DataW.TrodAll enc Try.prog W 0 (fun _ => true) true Try.f5.params.toList args.toList ds p := hA0
  rw [Try.params5] at hA hval
  obtain ⟨v0, vs0, d0, ds0, p0, q0, hargs, rfl, rfl, h0, r0⟩ := trodAll_cons hA
  obtain ⟨v1, vs1, d1, ds1, p1, q1, rfl, rfl, rfl, h1, r1⟩ := trodAll_cons r0
  obtain ⟨v2, vs2, d2, ds2, p2, q2, rfl, rfl, rfl, h2, r2⟩ := trodAll_cons r1
  obtain ⟨rfl, rfl, rfl⟩ := trodAll_nil r2
  obtain rfl : args = #[v0, v1, v2] := by cases args; simp_all
  obtain ⟨rfl, rfl⟩ := trodVars_none hV
  obtain ⟨a0, len0, cap0, rfl⟩ := okWide_slice Try.underlying31 (hval 0 31 v0 rfl rfl)
  have k0 := h0
  have lt0 : ∀ x ∈ p0, x.block < W.heap.size := by obtain ⟨m, hm⟩ := k0; exact DataW.trod_lt m _ _ _ hm
  obtain ⟨z0, w0⟩ : ∃ zs, IsRow .i64 W a0 len0 cap0 zs := by
    obtain ⟨fuel, hf⟩ := h0
    rcases open_ints Try.underlying31 Try.underlying3 (by kernel_rfl) hf with ⟨hcs, _⟩ | ⟨x, l, c, zs, hcs, _, hl, hm, hz, _, hcell, hwz⟩
    · simp [Value.cells] at hcs
      obtain ⟨rfl, rfl, rfl⟩ := hcs
      exact ⟨[], .inl ⟨rfl, rfl, rfl, rfl⟩⟩
    · simp [Value.cells] at hcs
      obtain ⟨rfl, rfl, rfl⟩ := hcs
      exact ⟨zs, .inr ⟨_, rfl, hl, hm, by simpa using hz, hcell, hwz⟩⟩
  obtain ⟨a1, rfl, rfl, rfl, w1⟩ := open_int Try.underlying3 (hval 1 3 v1 rfl rfl) h1
  obtain ⟨a2, rfl, rfl, rfl, w2⟩ := open_int Try.underlying3 (hval 2 3 v2 rfl rfl) h2
  clear hA0 hval0
  refine (walk a0 len0 cap0 z0 a1 a2 W w0 w1 w2).mono fun e W' ⟨he, bel⟩ => ?_
  subst he
  exact ⟨_, rfl, _, _, _, [], _, [], hW', trodAll_mk1 (shut_bool Try.underlying4 _), (trodAll_cons_mk (Below.trod laidOut (by kernel_rfl) (of_decide_eq_true (by kernel_rfl)) k0 bel lt0) (trodAll_cons_mk (shut_int Try.underlying3 w1) (trodAll_cons_mk (shut_int Try.underlying3 w2) trodAll_mk0))), rfl, bel.frame _, fun h => by cases h⟩

theorem over : Rows.fnSortedByBitsIsStableSortByKeyRow.holds Try.pinned (OpenSpec.ofChange Rows.fnSortedByBitsIsStableSortByKeySpec) :=
  OpenClaim.holds_of_wide 5 Try.f5 rfl rfl rfl rfl rfl rfl rfl ⟨rfl, rfl, rfl, rfl, rfl⟩ rfl rfl rfl rfl rfl (by kernel_rfl) Try.func5 (by kernel_rfl)
    (of_decide_eq_true (by kernel_rfl)) (by unfold Func.isWrapper; first | (rw [if_pos (by decide +kernel)]; kernel_rfl) | (rw [if_neg (by decide +kernel)]; exact ⟨rfl, rfl⟩))
    (fun os started H enc _ => lifted os started H enc)

/-- ████ THE STATEMENT ████ -/
theorem proved : Rows.FnSortedByBitsIsStableSortByKeySaid := over
#print axioms proved
end Go.Proofs.Qxb6000725a.fnSortedByBitsIsStableSortByKey
