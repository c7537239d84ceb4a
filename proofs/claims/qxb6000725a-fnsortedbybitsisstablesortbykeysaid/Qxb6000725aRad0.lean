/-
  sortedByBits (22): 'make([][256]int, passes)'.
-/
import Derived.Test.Qxb6000725aIns2
namespace Go.Proofs.Qxb6000725a.Rad
open Go.ChangeShapes Go.WideShapes Go.ChangeAt Go.RowKit
open Go.Proofs.Qxb6000725a.Mem

theorem Try.info43 : (Try.prog.info? 43).map (fun i => (i.zero, i.size, i.bytes)) = some (some (.agg (Array.replicate 256 (Value.int .i64 0))), 256, 2048) := by kernel_rfl

def zz (n : Nat) : Array Value := madeCells (Array.replicate 256 (Value.int .i64 0)) n
theorem made_rep (m n i : Nat) (v : Value) (hm : 0 < m) (h : i < n) : (madeCells (Array.replicate m v) n)[i]? = some v := by
  unfold madeCells
  have h3 : i < ((Array.range n).map fun x => (Array.replicate m v)[x % (Array.replicate m v).size]!).size := by simpa using h
  rw [Array.getElem?_eq_getElem h3, Array.getElem_map, Array.getElem_range]
  have h2 : i % (Array.replicate m v).size < (Array.replicate m v).size := Nat.mod_lt _ (by rw [Array.size_replicate]; exact hm)
  rw [getElem!_pos (Array.replicate m v) _ h2, Array.getElem_replicate]
theorem zz_get (n i : Nat) (h : i < n) : (zz n)[i]? = some (.int .i64 0) := made_rep 256 n i _ (by decide) h

theorem make_counts (n : Nat) (hn : n ≤ 1000) (w : World) : (Instr.makeSlice 42 (.int .i64 (n : Int)) (.int .i64 (n : Int))).run Try.prog w = .ok (.slice (some ⟨w.heap.size, 0, none⟩) n n) (w.alloc (.cells (zz (n * 256)) 43)) := by
  obtain ⟨i, hi, hz0, hz1, hz2⟩ := info_parts Try.info43
  have := run_make (P := Try.prog) w 42 43 i _ Try.underlying42 hi hz0 .i64 .i64 (n : Int) (n : Int) (by omega) (by omega) (by rw [hz2]; omega) (by omega)
  rw [this, hz1]
  have e : (Value.agg (Array.replicate 256 (Value.int .i64 0))).cells = Array.replicate 256 (Value.int .i64 0) := by kernel_rfl
  rw [e]
  simp [zz]

theorem Tab_counts (w : World) (n : Nat) : Tab (w.alloc (.cells (zz (n * 256)) 43)) w.heap.size (n * 256) (fun _ => 0) := by
  intro i hi
  refine ⟨?_, World.frozen?_alloc_at _ _ _ _ rfl⟩
  rw [World.cell?_alloc_at _ _ _ _ rfl]
  exact zz_get _ i hi
end Go.Proofs.Qxb6000725a.Rad
