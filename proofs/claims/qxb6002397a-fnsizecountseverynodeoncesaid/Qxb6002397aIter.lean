/-
  THE ITERATOR: (*zzSizeStandIn).Nodes (21), Nodes$1 (22), AND THE STATE OF THE LOOP IN Size (5).
-/
import Derived.Test.Qxb6002397aRows
import Derived.RangeFuncNested
import Derived.RangeFuncBound
import Derived.RangeFuncCalls
import Derived.RangeFuncLeaves
import Derived.Shelf.Abstract
import Derived.Shelf.RegionOpen
import Derived.WalkKit
import Derived.OwnWalkIn
import Derived.TacticsInMore
import Derived.LoopNIn
import Derived.LoopIn
import Derived.ProofKit
import Derived.OpenShut
namespace Go.Proofs.Qxb6002397a.Iter
open Go.ChangeShapes Go.WideShapes Go.ChangeAt Go.RowKit Go.Shelf
attribute [local go_sem] Oper.semAt_some

/-- Of what was there when w stood, nothing has turned but block T. -/
structure G (T : Nat) (w W : World) : Prop where
  os : W.os = w.os
  tape : W.tape = w.tape
  output : W.output = w.output
  size : w.heap.size ≤ W.heap.size
  block : ∀ k, k < w.heap.size → k ≠ T → W.heap[k]? = w.heap[k]?

theorem G.refl (T : Nat) (w : World) : G T w w := ⟨rfl, rfl, rfl, Nat.le_refl _, fun _ _ _ => rfl⟩
theorem G.trans {T : Nat} {a b c : World} (h : G T a b) (k : G T b c) : G T a c :=
  ⟨k.os.trans h.os, k.tape.trans h.tape, k.output.trans h.output, Nat.le_trans h.size k.size, fun i hi hT => (k.block i (Nat.lt_of_lt_of_le hi h.size) hT).trans (h.block i hi hT)⟩
theorem G.alloc {T : Nat} {w W : World} (h : G T w W) (o : Obj) : G T w (W.alloc o) :=
  ⟨h.os, h.tape, h.output, by have := h.size; simp; omega, fun k hk hT => (Below.heap_alloc W o k (by have := h.size; omega)).trans (h.block k hk hT)⟩
theorem G.setCell {T : Nat} {w W : World} (h : G T w W) (p : Addr) (u : Value) (hp : p.block = T ∨ w.heap.size ≤ p.block) : G T w (W.setCell p u) :=
  ⟨h.os, h.tape, h.output, by simpa [World.setCell] using h.size, fun k hk hT => (Below.heap_setCell W p u k (by omega)).trans (h.block k hk hT)⟩
theorem G.putObj {T : Nat} {w W : World} (h : G T w W) (r : Nat) (o : Obj) (hr : w.heap.size ≤ r) : G T w (W.putObj r o) :=
  ⟨h.os, h.tape, h.output, by simpa using h.size, fun k hk hT => (World.putObj_heap_other (by omega)).trans (h.block k hk hT)⟩

/-- The stand-in's seven fields, in block T. -/
structure SB (T : Nat) (v : Value) (nc y : Int) (W : World) : Prop where
  c0 : W.cell? ⟨T, 0, none⟩ = some v
  c1 : W.cell? ⟨T, 1, none⟩ = some (.int .i64 nc)
  c2 : W.cell? ⟨T, 2, none⟩ = some (.int .i64 0)
  c3 : W.cell? ⟨T, 3, none⟩ = some (.int .i64 0)
  c4 : W.cell? ⟨T, 4, none⟩ = some (.int .i64 0)
  c5 : W.cell? ⟨T, 5, none⟩ = some (.int .i64 y)
  c6 : W.cell? ⟨T, 6, none⟩ = some (.bool false)
  f1 : W.frozen? ⟨T, 1, none⟩ = false
  f5 : W.frozen? ⟨T, 5, none⟩ = false

theorem cell_of_same {W W' : World} {b i : Nat} (h : W'.heap[b]? = W.heap[b]?) : W'.cell? ⟨b, i, none⟩ = W.cell? ⟨b, i, none⟩ := World.cell?_of_block (w := W) (a := ⟨b, i, none⟩) h
theorem frozen_of_same {W W' : World} {b i : Nat} (h : W'.heap[b]? = W.heap[b]?) : W'.frozen? ⟨b, i, none⟩ = W.frozen? ⟨b, i, none⟩ := World.frozen?_of_block (w := W) (a := ⟨b, i, none⟩) h

theorem SB.same {T : Nat} {v : Value} {nc y : Int} {W W' : World} (h : SB T v nc y W) (e : W'.heap[T]? = W.heap[T]?) : SB T v nc y W' :=
  ⟨(cell_of_same e).trans h.c0, (cell_of_same e).trans h.c1, (cell_of_same e).trans h.c2, (cell_of_same e).trans h.c3, (cell_of_same e).trans h.c4, (cell_of_same e).trans h.c5, (cell_of_same e).trans h.c6, (frozen_of_same e).trans h.f1, (frozen_of_same e).trans h.f5⟩

theorem other {W : World} {b i j : Nat} {u : Value} (h : i ≠ j) : (W.setCell ⟨b, i, none⟩ u).cell? ⟨b, j, none⟩ = W.cell? ⟨b, j, none⟩ :=
  World.cell?_setCell_other _ _ _ _ (by intro e; apply h; injection e)

theorem SB.set5 {T : Nat} {v : Value} {nc y : Int} {W : World} (h : SB T v nc y W) (y' : Int) : SB T v nc y' (W.setCell ⟨T, 5, none⟩ (.int .i64 y')) :=
  ⟨(other (by decide)).trans h.c0, (other (by decide)).trans h.c1, (other (by decide)).trans h.c2, (other (by decide)).trans h.c3, (other (by decide)).trans h.c4,
    World.cell?_setCell_same _ _ _ h.c5, (other (by decide)).trans h.c6, (World.frozen?_setCell _ _ _ _).trans h.f1, (World.frozen?_setCell _ _ _ _).trans h.f5⟩
theorem SB.set1 {T : Nat} {v : Value} {nc y : Int} {W : World} (h : SB T v nc y W) (nc' : Int) : SB T v nc' y (W.setCell ⟨T, 1, none⟩ (.int .i64 nc')) :=
  ⟨(other (by decide)).trans h.c0, World.cell?_setCell_same _ _ _ h.c1, (other (by decide)).trans h.c2, (other (by decide)).trans h.c3, (other (by decide)).trans h.c4,
    (other (by decide)).trans h.c5, (other (by decide)).trans h.c6, (World.frozen?_setCell _ _ _ _).trans h.f1, (World.frozen?_setCell _ _ _ _).trans h.f5⟩

/-- The ids: where there are any, they lie in an old block that is not the stand-in's. -/
def Row (T : Nat) (w : World) (a : Option Addr) (n : Nat) : Prop :=
  0 < n → ∃ R, a = some ⟨R, 0, none⟩ ∧ R < w.heap.size ∧ R ≠ T ∧ ∃ f : Nat → Int, ∀ i, i < n → w.cell? ⟨R, i, none⟩ = some (.int .i64 (f i))

/-- The state between two rounds: w: the world when Size was called; block w.heap.size holds n, the next one the receiver's box, then the deferred calls, then the loop's record. -/
structure St (T : Nat) (w : World) (v : Value) (nc : Int) (rec : Loop) (c y : Int) (W : World) : Prop where
  cn : W.cell? ⟨w.heap.size, 0, none⟩ = some (.int .i64 c)
  fn : W.frozen? ⟨w.heap.size, 0, none⟩ = false
  cb : W.cell? ⟨w.heap.size + 1, 0, none⟩ = some (.pointer (some ⟨T, 0, none⟩))
  sb : SB T v nc y W
  df : W.heap[w.heap.size + 2]? = some (.deferred (some []))
  lp : W.heap[w.heap.size + 3]? = some (.loop rec)
  g : G T w W

theorem St.setN {T : Nat} {w : World} {v : Value} {nc : Int} {rec : Loop} {c y : Int} {W : World} (h : St T w v nc rec c y W) (hT : T < w.heap.size) (c' : Int) :
    St T w v nc rec c' y (W.setCell ⟨w.heap.size, 0, none⟩ (.int .i64 c')) :=
  ⟨World.cell?_setCell_same _ _ _ h.cn, (World.frozen?_setCell _ _ _ _).trans h.fn, (cell_of_same (Below.heap_setCell _ _ _ _ (by simp))).trans h.cb,
    h.sb.same (Below.heap_setCell _ _ _ _ (by simp; omega)), (Below.heap_setCell _ _ _ _ (by simp)).trans h.df, (Below.heap_setCell _ _ _ _ (by simp)).trans h.lp, h.g.setCell _ _ (.inr (by simp))⟩

theorem St.set5 {T : Nat} {w : World} {v : Value} {nc : Int} {rec : Loop} {c y : Int} {W : World} (h : St T w v nc rec c y W) (hT : T < w.heap.size) (y' : Int) :
    St T w v nc rec c y' (W.setCell ⟨T, 5, none⟩ (.int .i64 y')) :=
  ⟨(cell_of_same (Below.heap_setCell _ _ _ _ (by simp; omega))).trans h.cn, (World.frozen?_setCell _ _ _ _).trans h.fn, (cell_of_same (Below.heap_setCell _ _ _ _ (by simp; omega))).trans h.cb,
    h.sb.set5 y', (Below.heap_setCell _ _ _ _ (by simp; omega)).trans h.df, (Below.heap_setCell _ _ _ _ (by simp; omega)).trans h.lp, h.g.setCell _ _ (.inl rfl)⟩

theorem St.put {T : Nat} {w : World} {v : Value} {nc : Int} {rec : Loop} {c y : Int} {W : World} (h : St T w v nc rec c y W) (hT : T < w.heap.size) (rec' : Loop) :
    St T w v nc rec' c y (W.putObj (w.heap.size + 3) (.loop rec')) :=
  ⟨(cell_of_same (World.putObj_heap_other (by omega))).trans h.cn, (frozen_of_same (World.putObj_heap_other (by omega))).trans h.fn, (cell_of_same (World.putObj_heap_other (by omega))).trans h.cb,
    h.sb.same (World.putObj_heap_other (by omega)), (World.putObj_heap_other (by omega)).trans h.df, World.putObj_heap_same (Array.getElem?_eq_some_iff.1 h.lp).1, h.g.putObj _ _ (by omega)⟩
end Go.Proofs.Qxb6002397a.Iter
