/-
  MEMORY, FOR THE LAW ON SORTING: a row of ints in one block; 'make'.
-/
import Derived.Test.Qxb6000725aRows
import Derived.WalkKit
import Derived.ProofKit
import Derived.OpenShut
import Derived.WalkSpells
import Derived.Handy
import Derived.Deep.QuietTactic
import Derived.BigQuiet
namespace Go.Proofs.Qxb6000725a.Mem
open Go.ChangeShapes Go.WideShapes Go.ChangeAt Go.RowKit

/-- The first n cells of block b hold the ints f 0, f 1, .., and may be written. -/
def Tab (w : World) (b n : Nat) (f : Nat → Int) : Prop :=
  ∀ i, i < n → w.cell? ⟨b, i, none⟩ = some (.int .i64 (f i)) ∧ w.frozen? ⟨b, i, none⟩ = false

theorem Tab.cell {w : World} {b n : Nat} {f : Nat → Int} (h : Tab w b n f) {i : Nat} (hi : i < n) : w.cell? ⟨b, i, none⟩ = some (.int .i64 (f i)) := (h i hi).1
theorem Tab.free {w : World} {b n : Nat} {f : Nat → Int} (h : Tab w b n f) {i : Nat} (hi : i < n) : w.frozen? ⟨b, i, none⟩ = false := (h i hi).2
theorem Tab.congr {w : World} {b n : Nat} {f g : Nat → Int} (h : Tab w b n f) (e : ∀ i, i < n → f i = g i) : Tab w b n g :=
  fun i hi => ⟨by rw [← e i hi]; exact (h i hi).1, (h i hi).2⟩
theorem Tab.drew {w : World} {b n : Nat} {f : Nat → Int} (h : Tab w b n f) : Tab w.drew b n f := h
theorem Tab.drewN {w : World} {b n : Nat} {f : Nat → Int} (h : Tab w b n f) (k : Nat) : Tab (w.drewN k) b n f := h
theorem Tab.lt {w : World} {b n : Nat} {f : Nat → Int} (h : Tab w b n f) (hn : 0 < n) : b < w.heap.size := block_lt_of_cell (h 0 hn).1

/-- A store into the row. -/
def upd (f : Nat → Int) (j : Nat) (v : Int) : Nat → Int := fun i => if i = j then v else f i
theorem upd_same (f : Nat → Int) (j : Nat) (v : Int) : upd f j v j = v := by simp [upd]
theorem upd_other (f : Nat → Int) {i j : Nat} (v : Int) (h : i ≠ j) : upd f j v i = f i := by simp [upd, h]

theorem Tab.set {w : World} {b n : Nat} {f : Nat → Int} (h : Tab w b n f) (j : Nat) (v : Int) : Tab (w.setCell ⟨b, j, none⟩ (.int .i64 v)) b n (upd f j v) := by
  intro i hi
  refine ⟨?_, by rw [World.frozen?_setCell]; exact (h i hi).2⟩
  by_cases e : i = j
  · subst e
    rw [upd_same]
    exact World.cell?_setCell_same _ _ _ (h i hi).1
  · rw [upd_other f v e, World.cell?_setCell_other]
    · exact (h i hi).1
    · intro e'; apply e; injection e' with _ e2; exact e2.symm

/-- A store into another block. -/
theorem Tab.other {w : World} {b n : Nat} {f : Nat → Int} (h : Tab w b n f) {b' j : Nat} (v : Value) (hb : b' ≠ b) : Tab (w.setCell ⟨b', j, none⟩ v) b n f := by
  intro i hi
  refine ⟨?_, by rw [World.frozen?_setCell]; exact (h i hi).2⟩
  rw [World.cell?_setCell_other]
  · exact (h i hi).1
  · intro e'; apply hb; injection e'

theorem Tab.alloc {w : World} {b n : Nat} {f : Nat → Int} (h : Tab w b n f) (o : Obj) : Tab (w.alloc o) b n f := by
  intro i hi
  have hl : b < w.heap.size := block_lt_of_cell (h i hi).1
  exact ⟨(World.cell?_alloc_past o b i hl).trans (h i hi).1, (World.frozen?_alloc_past o b i hl).trans (h i hi).2⟩

/-- What lies below B stays. -/
theorem Tab.below {w w' : World} {B b n : Nat} {f : Nat → Int} (h : Tab w b n f) (hb : Below B w w') (hlt : b < B) : Tab w' b n f :=
  fun i hi => ⟨(hb.cell (p := ⟨b, i, none⟩) hlt).trans (h i hi).1, (hb.frozen (p := ⟨b, i, none⟩) hlt).trans (h i hi).2⟩

theorem size_setCell' (w : World) (a : Addr) (v : Value) : (w.setCell a v).heap.size = w.heap.size := by simp [World.setCell]

/-! ### 'make([]int, n)' -/
def zs (n : Nat) : Array Value := madeCells #[Value.int .i64 0] n

theorem zs_get (n i : Nat) (h : i < n) : (zs n)[i]? = some (.int .i64 0) := by
  unfold zs
  rw [← Array.getElem?_toList, toList_madeCells_one]
  simp [h]

theorem Try.info3 : (Try.prog.info? 3).map (fun i => (i.zero, i.size, i.bytes)) = some (some (.int .i64 0), 1, 8) := by kernel_rfl

theorem make_ints (n : Nat) (hn : n ≤ 1000000000) (w : World) : (Instr.makeSlice 31 (.int .i64 (n : Int)) (.int .i64 (n : Int))).run Try.prog w = .ok (.slice (some ⟨w.heap.size, 0, none⟩) n n) (w.alloc (.cells (zs n) 3)) := by
  obtain ⟨i, hi, hz0, hz1, hz2⟩ := info_parts Try.info3
  have := run_make (P := Try.prog) w 31 3 i (.int .i64 0) Try.underlying31 hi hz0 .i64 .i64 (n : Int) (n : Int) (by omega) (by omega) (by rw [hz2]; omega) (by omega)
  rw [this, hz1]
  simp [zs, Value.cells]

theorem Tab_made (w : World) (n : Nat) : Tab (w.alloc (.cells (zs n) 3)) w.heap.size n (fun _ => 0) := by
  intro i hi
  refine ⟨?_, World.frozen?_alloc_at _ _ _ _ rfl⟩
  rw [World.cell?_alloc_at _ _ _ _ rfl]
  exact zs_get n i hi

theorem nil_eq (a : Option Addr) (n c : Nat) (w : World) : (binOp .eql 31 (.slice a n c) (.slice none 0 0)).run Try.prog w = .ok (.bool a.isNone) w := by
  have := Lib.run_eql_slice_nil (P := Try.prog) w 31 3 a n c 0 0 Try.underlying31
  simpa using this
end Go.Proofs.Qxb6000725a.Mem
