/-
  MEMORY OF THE LAW ON Derive: the offers, the map, a row of bools.
-/
import Derived.Test.Qxb6600742aRows
import Derived.WalkKit
import Derived.ProofKit
import Derived.OpenShut
import Derived.WalkSpells
import Derived.Handy
import Derived.Deep.QuietTactic
import Derived.BigQuiet
import Derived.RegionTactic
import Derived.BigRegion
import Derived.Maps.OwnOps
import Derived.Maps.OwnSet
import Derived.Maps.Views
import Derived.WalkSmall
namespace Go.Proofs.Qxb6600742a.DMem
open Go.ChangeShapes Go.WideShapes Go.ChangeAt Go.RowKit

/-! ### the offers: block b holds id, level, id, level, .. -/
def Off (w : World) (b n : Nat) (f g : Nat → Int) : Prop :=
  ∀ i, i < n → w.cell? ⟨b, i * 2, none⟩ = some (.int .i64 (f i)) ∧ w.cell? ⟨b, i * 2 + 1, none⟩ = some (.int .i8 (g i))
theorem Off.id {w : World} {b n : Nat} {f g : Nat → Int} (h : Off w b n f g) {i : Nat} (hi : i < n) : w.cell? ⟨b, i * 2, none⟩ = some (.int .i64 (f i)) := (h i hi).1
theorem Off.lv {w : World} {b n : Nat} {f g : Nat → Int} (h : Off w b n f g) {i : Nat} (hi : i < n) : w.cell? ⟨b, i * 2 + 1, none⟩ = some (.int .i8 (g i)) := (h i hi).2
theorem Off.below {w w' : World} {B b n : Nat} {f g : Nat → Int} (h : Off w b n f g) (hb : Below B w w') (hlt : b < B) : Off w' b n f g :=
  fun i hi => ⟨(hb.cell (p := ⟨b, i * 2, none⟩) hlt).trans (h i hi).1, (hb.cell (p := ⟨b, i * 2 + 1, none⟩) hlt).trans (h i hi).2⟩

/-! ### the map -/
def u : DataW Unit := .lit (.bool true)
def L (ks : List Int) : List Lit := ks.map (Lit.int .i64)
def MapIs (w : World) (b : Nat) (ks : List Int) : Prop := w.ownsMap (H := Unit) Try.prog 2 (plainElem Try.prog 4) b ks.length (Maps.setOf u (L ks))

theorem isKey (ks : List Int) : ∀ x ∈ L ks, WideAt.IsKeyLit x := by
  intro x hx
  simp only [L, List.mem_map] at hx
  obtain ⟨a, _, rfl⟩ := hx
  trivial
theorem any_key (ks : List Int) (x : Int) : (L ks).any (fun y => y.sameKey (.int .i64 x)) = ks.contains x := by
  induction ks with
  | nil => rfl
  | cons a ks ih =>
    have e : (Lit.int .i64 a).sameKey (.int .i64 x) = (x == a) := by
      by_cases h : a = x
      · subst h; simp [Lit.sameKey]
      · have h' : (x == a) = false := beq_eq_false_iff_ne.2 (fun e => h e.symm)
        rw [h']; simp [Lit.sameKey, h]
    rw [List.contains_cons, ← ih]
    show ((Lit.int .i64 a).sameKey (.int .i64 x) || (L ks).any _) = _
    rw [e]

theorem atKey_fold (x : Int) (z : DataW Unit) : ∀ (ks : List Int) (m : DataW Unit), Maps.IsMap m → ((L ks).foldl (fun m y => m.put y u) m).atKey (.int .i64 x) z = if ks.contains x then u else m.atKey (.int .i64 x) z := by
  intro ks
  induction ks with
  | nil => intro m _; rfl
  | cons a ks ih =>
    intro m hm
    show ((L ks).foldl (fun m y => m.put y u) (m.put (.int .i64 a) u)).atKey (.int .i64 x) z = _
    rw [ih _ (hm.put _ _), List.contains_cons]
    by_cases h : x = a
    · subst h
      rw [Maps.atKey_put_same hm (show WideAt.IsKeyLit (.int .i64 x) from trivial)]
      simp
    · rw [Maps.atKey_put_other (by intro e; apply h; injection e)]
      have h' : (x == a) = false := beq_eq_false_iff_ne.2 h
      rw [h', Bool.false_or]

theorem atKey_set (ks : List Int) (x : Int) : (Maps.setOf u (L ks)).atKey (.int .i64 x) (.lit (.bool false)) = .lit (.bool (ks.contains x)) := by
  have := atKey_fold x (.lit (.bool false)) ks (.map []) Maps.isMap_empty
  unfold Maps.setOf
  rw [this]
  cases ks.contains x <;> rfl

def sz (ks : List Int) : Nat := Maps.size (Maps.setOf u (L ks))
theorem sz_nil : sz [] = 0 := rfl
theorem sz_snoc (ks : List Int) (x : Int) : sz (ks ++ [x]) = if ks.contains x then sz ks else sz ks + 1 := by
  unfold sz
  have e : L (ks ++ [x]) = L ks ++ [.int .i64 x] := by simp [L]
  rw [e, Maps.setOf_snoc, Maps.size_put (Maps.tidy_setOf u (L ks) (isKey ks)), Maps.has_setOf u _ _ (isKey ks), any_key]

theorem bool_inv {v : Value} {z : DataW Unit × List MemPlace} (h : plainElem Try.prog 4 v = some z) : ∃ c, v = .bool c ∧ z.1 = .lit (.bool c) := by
  unfold plainElem at h
  rw [Try.underlying4] at h
  cases v <;> simp at h
  subst h
  exact ⟨_, rfl, rfl⟩

theorem MapIs.look {w : World} {b : Nat} {ks : List Int} (h : MapIs w b ks) {x : Int} (hx : (Lit.int .i64 x).wf = true) :
    (Instr.lookup 29 (.map (some b)) (.int .i64 x) false).run Try.prog w = .ok (.bool (ks.contains x)) w := by
  obtain ⟨v, ps, hrun, hv⟩ := h.lookup (Maps.int_keyed Try.underlying2) Try.underlying29 (Try.zeroValue4 w) (plainElem_bool Try.underlying4 false) (Maps.keyOf_int_mk Try.underlying2 hx)
  obtain ⟨c, rfl, hc⟩ := bool_inv hv
  rw [atKey_set] at hc
  injection hc with hc
  injection hc with hc
  rw [hrun, hc]

theorem MapIs.len {w : World} {b : Nat} {ks : List Int} (h : MapIs w b ks) (ty : TypeId) : (Builtin.len_ #[29] ty #[.map (some b)]).run Try.prog w = .ok (.int .i64 (sz ks)) w :=
  World.ownsMap.len h Try.underlying29 ty
theorem MapIs.sz_le {w : World} {b : Nat} {ks : List Int} (h : MapIs w b ks) : sz ks ≤ ks.length := World.ownsMap.size_le h

theorem MapIs_made (w : World) : MapIs (w.alloc (.map #[] 0)) w.heap.size [] := World.ownsMap_made w Try.prog 2 _
theorem MapIs.alloc {w : World} {b : Nat} {ks : List Int} (h : MapIs w b ks) (o : Obj) : MapIs (w.alloc o) b ks := World.ownsMap.alloc h o
theorem MapIs.same {w w' : World} {b : Nat} {ks : List Int} (h : MapIs w b ks) (e : w'.heap[b]? = w.heap[b]?) : MapIs w' b ks := by
  obtain ⟨es, clock, hb, r⟩ := h
  exact ⟨es, clock, e.trans hb, r⟩
theorem MapIs.lt {w : World} {b : Nat} {ks : List Int} (h : MapIs w b ks) : b < w.heap.size := World.ownsMap.lt h
theorem MapIs.snoc {w : World} {b : Nat} {ks : List Int} {x : Int} (h : w.ownsMap (H := Unit) Try.prog 2 (plainElem Try.prog 4) b (ks.length + 1) ((Maps.setOf u (L ks)).put (.int .i64 x) u)) : MapIs w b (ks ++ [x]) := by
  have e : L (ks ++ [x]) = L ks ++ [.int .i64 x] := by simp [L]
  unfold MapIs
  rw [e, Maps.setOf_snoc, List.length_append]
  exact h

/-! ### a row of bools -/
def TabB (w : World) (b n : Nat) (f : Nat → Bool) : Prop :=
  ∀ i, i < n → w.cell? ⟨b, i, none⟩ = some (.bool (f i)) ∧ w.frozen? ⟨b, i, none⟩ = false
theorem TabB.cell {w : World} {b n : Nat} {f : Nat → Bool} (h : TabB w b n f) {i : Nat} (hi : i < n) : w.cell? ⟨b, i, none⟩ = some (.bool (f i)) := (h i hi).1
theorem TabB.free {w : World} {b n : Nat} {f : Nat → Bool} (h : TabB w b n f) {i : Nat} (hi : i < n) : w.frozen? ⟨b, i, none⟩ = false := (h i hi).2
theorem TabB.congr {w : World} {b n : Nat} {f g : Nat → Bool} (h : TabB w b n f) (e : ∀ i, i < n → f i = g i) : TabB w b n g :=
  fun i hi => ⟨by rw [← e i hi]; exact (h i hi).1, (h i hi).2⟩
def updB (f : Nat → Bool) (j : Nat) (v : Bool) : Nat → Bool := fun i => if i = j then v else f i
theorem TabB.set {w : World} {b n : Nat} {f : Nat → Bool} (h : TabB w b n f) (j : Nat) (v : Bool) : TabB (w.setCell ⟨b, j, none⟩ (.bool v)) b n (updB f j v) := by
  intro i hi
  refine ⟨?_, by rw [World.frozen?_setCell]; exact (h i hi).2⟩
  unfold updB
  by_cases e : i = j
  · subst e
    rw [if_pos rfl]
    exact World.cell?_setCell_same _ _ _ (h i hi).1
  · rw [if_neg e, World.cell?_setCell_other]
    · exact (h i hi).1
    · intro e'; apply e; injection e' with _ e2; exact e2.symm

/-! ### 'make' -/
def zb (n : Nat) : Array Value := madeCells #[Value.bool false] n
theorem zb_get (n i : Nat) (h : i < n) : (zb n)[i]? = some (.bool false) := by
  unfold zb
  rw [← Array.getElem?_toList, toList_madeCells_one]
  simp [h]
theorem Try.info4 : (Try.prog.info? 4).map (fun i => (i.zero, i.size, i.bytes)) = some (some (.bool false), 1, 1) := by kernel_rfl
theorem make_bools (n : Nat) (hn : n ≤ 1000000000) (w : World) : (Instr.makeSlice 34 (.int .i64 (n : Int)) (.int .i64 (n : Int))).run Try.prog w = .ok (.slice (some ⟨w.heap.size, 0, none⟩) n n) (w.alloc (.cells (zb n) 4)) := by
  obtain ⟨i, hi, hz0, hz1, hz2⟩ := info_parts Try.info4
  have := run_make (P := Try.prog) w 34 4 i (.bool false) Try.underlying34 hi hz0 .i64 .i64 (n : Int) (n : Int) (by omega) (by omega) (by rw [hz2]; omega) (by omega)
  rw [this, hz1]
  simp [zb, Value.cells]
theorem TabB_made (w : World) (n : Nat) : TabB (w.alloc (.cells (zb n) 4)) w.heap.size n (fun _ => false) := by
  intro i hi
  refine ⟨?_, World.frozen?_alloc_at _ _ _ _ rfl⟩
  rw [World.cell?_alloc_at _ _ _ _ rfl]
  exact zb_get n i hi

def zo (n : Nat) : Array Value := madeCells #[Value.int .i64 0, Value.int .i8 0] n
theorem Try.info33 : (Try.prog.info? 33).map (fun i => (i.zero, i.size, i.bytes)) = some (some (.agg #[.int .i64 0, .int .i8 0]), 2, 16) := by kernel_rfl
theorem make_offers (n : Nat) (hn : n ≤ 1000000) (w : World) : (Instr.makeSlice 25 (.int .i64 (n : Int)) (.int .i64 (n : Int))).run Try.prog w = .ok (.slice (some ⟨w.heap.size, 0, none⟩) n n) (w.alloc (.cells (zo (n * 2)) 33)) := by
  obtain ⟨i, hi, hz0, hz1, hz2⟩ := info_parts Try.info33
  have := run_make (P := Try.prog) w 25 33 i _ Try.underlying25 hi hz0 .i64 .i64 (n : Int) (n : Int) (by omega) (by omega) (by rw [hz2]; omega) (by omega)
  rw [this, hz1]
  simp [zo, Value.cells]

/-- What a fresh row of offers holds: something, everywhere; nothing is frozen. -/
def Room (w : World) (b n : Nat) : Prop := ∀ j, j < n * 2 → (∃ v, w.cell? ⟨b, j, none⟩ = some v) ∧ w.frozen? ⟨b, j, none⟩ = false
theorem Room_made (w : World) (n : Nat) : Room (w.alloc (.cells (zo (n * 2)) 33)) w.heap.size n := by
  intro j hj
  refine ⟨?_, World.frozen?_alloc_at _ _ _ _ rfl⟩
  rw [World.cell?_alloc_at _ _ _ _ rfl]
  have hs : j < (zo (n * 2)).size := by unfold zo; rw [size_madeCells]; exact hj
  exact ⟨_, Array.getElem?_eq_getElem hs⟩
theorem Room.set {w : World} {b n : Nat} (h : Room w b n) (j : Nat) (v : Value) : Room (w.setCell ⟨b, j, none⟩ v) b n := by
  intro i hi
  obtain ⟨⟨u, hu⟩, hf⟩ := h i hi
  refine ⟨?_, by rw [World.frozen?_setCell]; exact hf⟩
  by_cases e : i = j
  · subst e; exact ⟨v, World.cell?_setCell_same _ _ _ hu⟩
  · exact ⟨u, by rw [World.cell?_setCell_other _ _ _ _ (by intro e'; apply e; injection e' with _ e2; exact e2.symm)]; exact hu⟩
end Go.Proofs.Qxb6600742a.DMem
