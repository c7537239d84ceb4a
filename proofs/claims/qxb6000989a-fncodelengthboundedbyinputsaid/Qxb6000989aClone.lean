/-
  cloneBytes (9).
-/
import Derived.Test.Qxb6000989aRows
import Derived.WalkKit
import Derived.ProofKit
import Derived.OpenShut
import Derived.WalkSpells
import Derived.Handy
namespace Go.Proofs.Qxb6000989a.Clone
open Go.ChangeShapes Go.WideShapes Go.ChangeAt Go.RowKit

/-- The first n cells of block b hold the bytes f 0, f 1, .., and may be written. -/
def Tab (w : World) (b n : Nat) (f : Nat → Int) : Prop :=
  ∀ i, i < n → w.cell? ⟨b, i, none⟩ = some (.int .u8 (f i)) ∧ w.frozen? ⟨b, i, none⟩ = false

theorem Tab.cell {w : World} {b n : Nat} {f : Nat → Int} (h : Tab w b n f) {i : Nat} (hi : i < n) : w.cell? ⟨b, i, none⟩ = some (.int .u8 (f i)) := (h i hi).1
theorem Tab.free {w : World} {b n : Nat} {f : Nat → Int} (h : Tab w b n f) {i : Nat} (hi : i < n) : w.frozen? ⟨b, i, none⟩ = false := (h i hi).2
theorem Tab.congr {w : World} {b n : Nat} {f g : Nat → Int} (h : Tab w b n f) (e : ∀ i, i < n → f i = g i) : Tab w b n g :=
  fun i hi => ⟨by rw [← e i hi]; exact (h i hi).1, (h i hi).2⟩

def upd (f : Nat → Int) (j : Nat) (v : Int) : Nat → Int := fun i => if i = j then v else f i
theorem upd_same (f : Nat → Int) (j : Nat) (v : Int) : upd f j v j = v := by simp [upd]
theorem upd_other (f : Nat → Int) {i j : Nat} (v : Int) (h : i ≠ j) : upd f j v i = f i := by simp [upd, h]

theorem Tab.set {w : World} {b n : Nat} {f : Nat → Int} (h : Tab w b n f) (j : Nat) (v : Int) : Tab (w.setCell ⟨b, j, none⟩ (.int .u8 v)) b n (upd f j v) := by
  intro i hi
  refine ⟨?_, by rw [World.frozen?_setCell]; exact (h i hi).2⟩
  by_cases e : i = j
  · subst e
    rw [upd_same]
    exact World.cell?_setCell_same _ _ _ (h i hi).1
  · rw [upd_other f v e, World.cell?_setCell_other]
    · exact (h i hi).1
    · intro e'; apply e; injection e' with _ e2; exact e2.symm

def zs (n : Nat) : Array Value := madeCells #[Value.int .u8 0] n
theorem zs_get (n i : Nat) (h : i < n) : (zs n)[i]? = some (.int .u8 0) := by
  unfold zs
  rw [← Array.getElem?_toList, toList_madeCells_one]
  simp [h]
theorem Try.info5 : (Try.prog.info? 5).map (fun i => (i.zero, i.size, i.bytes)) = some (some (.int .u8 0), 1, 1) := by kernel_rfl

theorem make_bytes (n : Nat) (hn : n ≤ 1000000000) (w : World) : (Instr.makeSlice 22 (.int .i64 (n : Int)) (.int .i64 (n : Int))).run Try.prog w = .ok (.slice (some ⟨w.heap.size, 0, none⟩) n n) (w.alloc (.cells (zs n) 5)) := by
  obtain ⟨i, hi, hz0, hz1, hz2⟩ := info_parts Try.info5
  have := run_make (P := Try.prog) w 22 5 i (.int .u8 0) Try.underlying22 hi hz0 .i64 .i64 (n : Int) (n : Int) (by omega) (by omega) (by rw [hz2]; omega) (by omega)
  rw [this, hz1]
  simp [zs, Value.cells]

theorem Tab_made (w : World) (n : Nat) : Tab (w.alloc (.cells (zs n) 5)) w.heap.size n (fun _ => 0) := by
  intro i hi
  refine ⟨?_, World.frozen?_alloc_at _ _ _ _ rfl⟩
  rw [World.cell?_alloc_at _ _ _ _ rfl]
  exact zs_get n i hi

theorem nil_eq (a : Option Addr) (n c : Nat) (w : World) : (binOp .eql 22 (.slice a n c) (.slice none 0 0)).run Try.prog w = .ok (.bool a.isNone) w := by
  have := Lib.run_eql_slice_nil (P := Try.prog) w 22 5 a n c 0 0 Try.underlying22
  simpa using this

/-- What the loop of cloneBytes holds behind k rounds. -/
def CloneRel (w : World) (n : Nat) (f : Nat → Int) (k : Nat) (wr : World) : Prop :=
  Tab wr w.heap.size n (fun i => if i < k then f i else 0) ∧ Below w.heap.size w wr

theorem clone_start (w : World) (n : Nat) (f : Nat → Int) : CloneRel w n f 0 (w.alloc (.cells (zs n) 5)) :=
  ⟨(Tab_made w n).congr fun i _ => by simp, (Below.refl _ _).alloc (Nat.le_refl _) _⟩

theorem clone_step {w wr : World} {n k : Nat} {f : Nat → Int} (h : CloneRel w n f k wr) : CloneRel w n f (k + 1) (wr.setCell ⟨w.heap.size, k, none⟩ (.int .u8 (f k))) := by
  obtain ⟨h1, h2⟩ := h
  refine ⟨(h1.set k (f k)).congr fun i _ => ?_, h2.setCell (Nat.le_refl _) _⟩
  unfold upd
  by_cases e : i = k
  · subst e; simp
  · by_cases e2 : i < k
    · simp [e, e2, show i < k + 1 by omega]
    · simp [e, e2, show ¬ i < k + 1 by omega]

theorem clone_some (x : Addr) (n cap : Nat) (f : Nat → Int) (w : World) (hn0 : 1 ≤ n) (hn : n ≤ 1048576) (hsrc : ∀ i, i < n → w.cell? (x.add i) = some (.int .u8 (f i))) :
    Calls Try.prog 9 #[.slice (some x) n cap] w fun e w' => e = .returned (.slice (some ⟨w.heap.size, 0, none⟩) n n) ∧ Tab w' w.heap.size n f ∧ Below w.heap.size w w' := by
  have hnil := nil_eq (some x) n cap
  have hmk := make_bytes n (by omega)
  obtain ⟨b, off, sp⟩ := x
  have hsp : sp = none := by
    have h0 := World.cell?_spot (hsrc 0 (by omega))
    simpa [Addr.add] using h0
  subst hsp
  have HC : Hid (∀ i, i < n → b < w.heap.size ∧ w.cell? ⟨b, off + i, none⟩ = some (.int .u8 (f i))) := by
    intro i hi
    have := hsrc i hi
    rw [add_plain] at this
    exact ⟨block_lt_of_cell this, this⟩
  clear hsrc
  go_enter Try.func9, Try.ntmps9
  go_wp2
  go_loopw [4] (fun i wr => ∃ k : Nat, k ≤ n ∧ i = .int .i64 k ∧ CloneRel w n f k wr) (fun i _ => n - (intOf i).toNat)
  case atStart => exact ⟨0, Nat.zero_le _, rfl, clone_start w n f⟩
  case round =>
    obtain ⟨k, hk, rfl, hR⟩ := hrel
    by_cases hlt : k < n
    · have hbw := (HC.out k hlt).1
      have hcell : wr.cell? ⟨b, off + k, none⟩ = some (.int .u8 (f k)) := (hR.2.cell (by exact hbw)).trans (HC.out k hlt).2
      have hcell2 := hR.1.cell hlt
      have hfree := hR.1.free hlt
      have hS := clone_step hR
      go_wp2
      go_roundw
      case rel => exact ⟨k + 1, by omega, by go_num, hS⟩
      case measure => simp [intOf]; omega
    · go_wp2
      go_ret
      refine ⟨rfl, hR.1.congr fun i hi => ?_, hR.2⟩
      simp [show i < k by omega]
end Go.Proofs.Qxb6000989a.Clone
