/-
  THE MEMORY OF sortedByBits (22), loop by loop. No walk.
-/
import Derived.Test.Qxb6000725aRad0
import Derived.Test.Qxb6000725aRad1
namespace Go.Proofs.Qxb6000725a.Rad
open Go.ChangeShapes Go.WideShapes Go.ChangeAt Go.RowKit
open Go.Proofs.Qxb6000725a.Mem
open Go.Proofs.Qxb6000725a.Small (lst lst_length lst_succ lst_get)

/-- Nothing old has turned but the blocks b1 and b2. -/
structure Kept (w : World) (b1 b2 : Nat) (wr : World) : Prop where
  os : wr.os = w.os
  tape : wr.tape = w.tape
  output : wr.output = w.output
  size : w.heap.size ≤ wr.heap.size
  block : ∀ k, k < w.heap.size → k ≠ b1 → k ≠ b2 → wr.heap[k]? = w.heap[k]?

theorem Kept.refl (w : World) (b1 b2 : Nat) : Kept w b1 b2 w := ⟨rfl, rfl, rfl, Nat.le_refl _, fun _ _ _ _ => rfl⟩
theorem Kept.swap {w wr : World} {b1 b2 : Nat} (h : Kept w b1 b2 wr) : Kept w b2 b1 wr := ⟨h.os, h.tape, h.output, h.size, fun k hk h1 h2 => h.block k hk h2 h1⟩
theorem Kept.drew {w wr : World} {b1 b2 : Nat} (h : Kept w b1 b2 wr) : Kept w b1 b2 wr.drew := ⟨h.os, h.tape, h.output, h.size, h.block⟩
theorem Kept.drewN {w wr : World} {b1 b2 : Nat} (h : Kept w b1 b2 wr) (n : Nat) : Kept w b1 b2 (wr.drewN n) := ⟨h.os, h.tape, h.output, h.size, h.block⟩
theorem Kept.alloc {w wr : World} {b1 b2 : Nat} (h : Kept w b1 b2 wr) (o : Obj) : Kept w b1 b2 (wr.alloc o) :=
  ⟨h.os, h.tape, h.output, by have := h.size; simp; omega, fun k hk h1 h2 => (Below.heap_alloc wr o k (by have := h.size; omega)).trans (h.block k hk h1 h2)⟩
theorem Kept.setCell {w wr : World} {b1 b2 : Nat} (h : Kept w b1 b2 wr) (p : Addr) (u : Value) (hp : p.block = b1 ∨ p.block = b2 ∨ w.heap.size ≤ p.block) : Kept w b1 b2 (wr.setCell p u) :=
  ⟨h.os, h.tape, h.output, by rw [size_setCell']; exact h.size, fun k hk h1 h2 => (Below.heap_setCell wr p u k (by omega)).trans (h.block k hk h1 h2)⟩
theorem Kept.tab {w wr : World} {b1 b2 b n : Nat} {f : Nat → Int} (h : Kept w b1 b2 wr) (hb : b < w.heap.size) (h1 : b ≠ b1) (h2 : b ≠ b2) (t : Tab w b n f) : Tab wr b n f :=
  fun i hi => ⟨(World.cell?_of_block (w := w) (a := ⟨b, i, none⟩) (h.block b hb h1 h2)).trans (t i hi).1, (World.frozen?_of_block (w := w) (a := ⟨b, i, none⟩) (h.block b hb h1 h2)).trans (t i hi).2⟩
theorem Kept.below {w wr : World} {b1 b2 B : Nat} (h : Kept w b1 b2 wr) (hB : B ≤ w.heap.size) (h1 : B ≤ b1) (h2 : B ≤ b2) : Below B w wr :=
  ⟨h.os, h.tape, h.output, h.size, fun k hk => h.block k (by omega) (by omega) (by omega)⟩

/-- The memory of the call: low's box, the counts, the two rows. -/
structure M (w : World) (b1 b2 n : Nat) (lo : Int) (P : Nat) (cf f1 f2 : Nat → Int) (wr : World) : Prop where
  low : Tab wr w.heap.size 1 (fun _ => lo)
  cnt : Tab wr (w.heap.size + 1) (P * 256) cf
  t1 : Tab wr b1 n f1
  t2 : Tab wr b2 n f2
  kept : Kept w b1 b2 wr
  size : wr.heap.size = w.heap.size + 2

/-- The two rows are two, and lie in old blocks. -/
def Two (w : World) (b1 b2 n : Nat) : Prop := 0 < n → b1 ≠ b2 ∧ b1 < w.heap.size ∧ b2 < w.heap.size
theorem Two.swap {w : World} {b1 b2 n : Nat} (h : Two w b1 b2 n) : Two w b2 b1 n := fun hn => ⟨(h hn).1.symm, (h hn).2.2, (h hn).2.1⟩

theorem Tab.other' {w : World} {b n : Nat} {f : Nat → Int} (h : Tab w b n f) {b' j : Nat} (v : Value) (hb : 0 < n → b' ≠ b) : Tab (w.setCell ⟨b', j, none⟩ v) b n f := by
  by_cases hn : 0 < n
  · exact h.other v (hb hn)
  · intro i hi; omega

theorem M.swap {w wr : World} {b1 b2 n : Nat} {lo : Int} {P : Nat} {cf f1 f2 : Nat → Int} (h : M w b1 b2 n lo P cf f1 f2 wr) : M w b2 b1 n lo P cf f2 f1 wr :=
  ⟨h.low, h.cnt, h.t2, h.t1, h.kept.swap, h.size⟩
theorem M.drew {w wr : World} {b1 b2 n : Nat} {lo : Int} {P : Nat} {cf f1 f2 : Nat → Int} (h : M w b1 b2 n lo P cf f1 f2 wr) : M w b1 b2 n lo P cf f1 f2 wr.drew :=
  ⟨h.low.drew, h.cnt.drew, h.t1.drew, h.t2.drew, h.kept.drew, h.size⟩
theorem M.drewN {w wr : World} {b1 b2 n : Nat} {lo : Int} {P : Nat} {cf f1 f2 : Nat → Int} (h : M w b1 b2 n lo P cf f1 f2 wr) (k : Nat) : M w b1 b2 n lo P cf f1 f2 (wr.drewN k) :=
  ⟨h.low.drewN k, h.cnt.drewN k, h.t1.drewN k, h.t2.drewN k, h.kept.drewN k, h.size⟩
theorem M.congr {w wr : World} {b1 b2 n : Nat} {lo : Int} {P : Nat} {cf f1 f2 cf' : Nat → Int} (h : M w b1 b2 n lo P cf f1 f2 wr) (e : ∀ j, j < P * 256 → cf j = cf' j) : M w b1 b2 n lo P cf' f1 f2 wr :=
  ⟨h.low, h.cnt.congr e, h.t1, h.t2, h.kept, h.size⟩
theorem M.setC {w wr : World} {b1 b2 n : Nat} {lo : Int} {P : Nat} {cf f1 f2 : Nat → Int} (h : M w b1 b2 n lo P cf f1 f2 wr) (hT : Two w b1 b2 n) (j : Nat) (v : Int) :
    M w b1 b2 n lo P (upd cf j v) f1 f2 (wr.setCell ⟨w.heap.size + 1, j, none⟩ (.int .i64 v)) :=
  ⟨h.low.other _ (by omega), h.cnt.set j v, Tab.other' h.t1 _ (fun hn => by have := hT hn; omega), Tab.other' h.t2 _ (fun hn => by have := hT hn; omega),
    h.kept.setCell _ _ (.inr (.inr (by simp))), by rw [size_setCell']; exact h.size⟩
theorem M.set2 {w wr : World} {b1 b2 n : Nat} {lo : Int} {P : Nat} {cf f1 f2 : Nat → Int} (h : M w b1 b2 n lo P cf f1 f2 wr) (hT : Two w b1 b2 n) (hn : 0 < n) (j : Nat) (v : Int) :
    M w b1 b2 n lo P cf f1 (upd f2 j v) (wr.setCell ⟨b2, j, none⟩ (.int .i64 v)) :=
  ⟨h.low.other _ (by have := hT hn; omega), h.cnt.other _ (by have := hT hn; omega), h.t1.other _ (by have := hT hn; omega), h.t2.set j v,
    h.kept.setCell _ _ (.inr (.inl rfl)), by rw [size_setCell']; exact h.size⟩

theorem M_start (w : World) (b1 b2 n : Nat) (lo : Int) (P : Nat) (f1 f2 : Nat → Int) (h1 : Tab w b1 n f1) (h2 : Tab w b2 n f2) :
    M w b1 b2 n lo P (fun _ => 0) f1 f2 ((w.alloc (.cells #[.int .i64 lo] 3)).alloc (.cells (zz (P * 256)) 43)) := by
  refine ⟨?_, ?_, (h1.alloc _).alloc _, (h2.alloc _).alloc _, ((Kept.refl _ _ _).alloc _).alloc _, by simp⟩
  · intro i hi
    obtain rfl : i = 0 := by omega
    have hl : w.heap.size < (w.alloc (.cells #[.int .i64 lo] 3)).heap.size := by simp
    exact ⟨by rw [World.cell?_alloc_past _ _ _ hl, World.cell?_alloc_at _ _ _ _ rfl]; rfl, by rw [World.frozen?_alloc_past _ _ _ hl, World.frozen?_alloc_at _ _ _ _ rfl]⟩
  · have := Tab_counts (w.alloc (.cells #[.int .i64 lo] 3)) P
    simpa using this

/-! ### the histogram -/
def hist (lo : Nat) (f : Nat → Int) (i : Nat) (j : Nat) : Int := (Srt.cnt (Srt.dig lo (j / 256)) (lst i f) (j % 256) : Nat)
def hist2 (lo : Nat) (f : Nat → Int) (i d : Nat) (j : Nat) : Int := if j / 256 < d then hist lo f (i + 1) j else hist lo f i j

theorem hist_step (lo : Nat) (f : Nat → Int) (i d : Nat) (j : Nat) : upd (hist2 lo f i d) (d * 256 + Srt.dig lo d (f i)) (hist2 lo f i d (d * 256 + Srt.dig lo d (f i)) + 1) j = hist2 lo f i (d + 1) j := by
  have hv := Srt.dig_lt lo d (f i)
  have e1 : (d * 256 + Srt.dig lo d (f i)) / 256 = d := by omega
  have e2 : (d * 256 + Srt.dig lo d (f i)) % 256 = Srt.dig lo d (f i) := by omega
  unfold upd
  by_cases e : j = d * 256 + Srt.dig lo d (f i)
  · rw [if_pos e, e]
    unfold hist2
    rw [e1, if_neg (by omega), if_pos (by omega)]
    unfold hist
    rw [e1, e2, lst_succ, Srt.cnt_snoc, if_pos rfl]
    omega
  · rw [if_neg e]
    unfold hist2
    by_cases h1 : j / 256 < d
    · rw [if_pos h1, if_pos (by omega)]
    · rw [if_neg h1]
      by_cases h2 : j / 256 < d + 1
      · rw [if_pos h2]
        have hd : j / 256 = d := by omega
        unfold hist
        rw [hd, lst_succ, Srt.cnt_snoc, if_neg (by omega)]
        omega
      · rw [if_neg h2]

theorem hist_bound (lo : Nat) (f : Nat → Int) (i d j : Nat) (n : Nat) (hi : i < n) : 0 ≤ hist2 lo f i d j ∧ hist2 lo f i d j ≤ n := by
  have h1 : ∀ k j, Srt.cnt (Srt.dig lo (j / 256)) (lst k f) (j % 256) ≤ k := by
    intro k j
    have := List.length_filter_le (fun x => Srt.dig lo (j / 256) x == j % 256) (lst k f)
    rw [lst_length] at this
    exact this
  have a := h1 (i + 1) j
  have b := h1 i j
  unfold hist2 hist
  split <;> omega

/-! ### the places -/
def plc (lo : Nat) (S : List Int) (d v : Nat) (c0 : Nat → Int) (j : Nat) : Int :=
  if j / 256 = d then (if j % 256 < v then (Srt.pre (Srt.dig lo d) S (j % 256) : Nat) else (Srt.cnt (Srt.dig lo d) S (j % 256) : Nat)) else c0 j

theorem plc_step (lo : Nat) (S : List Int) (d v : Nat) (hv : v < 256) (c0 : Nat → Int) (j : Nat) : upd (plc lo S d v c0) (d * 256 + v) (Srt.pre (Srt.dig lo d) S v : Nat) j = plc lo S d (v + 1) c0 j := by
  unfold upd plc
  by_cases e : j = d * 256 + v
  · have e1 : j / 256 = d := by omega
    have e2 : j % 256 = v := by omega
    rw [if_pos e, if_pos e1, e2, if_pos (by omega)]
  · rw [if_neg e]
    by_cases h1 : j / 256 = d
    · rw [if_pos h1, if_pos h1]
      by_cases h2 : j % 256 < v
      · rw [if_pos h2, if_pos (by omega)]
      · rw [if_neg h2, if_neg (by omega)]
    · rw [if_neg h1, if_neg h1]

theorem plc_at (lo : Nat) (S : List Int) (d v : Nat) (hv : v < 256) (c0 : Nat → Int) : plc lo S d v c0 (d * 256 + v) = (Srt.cnt (Srt.dig lo d) S v : Nat) := by
  have e1 : (d * 256 + v) / 256 = d := by omega
  have e2 : (d * 256 + v) % 256 = v := by omega
  unfold plc
  rw [if_pos e1, e2, if_neg (by omega)]

/-- Behind i words of a pass. -/
def nxt (lo : Nat) (S : List Int) (d i : Nat) (c0 : Nat → Int) (j : Nat) : Int :=
  if j / 256 = d then (Srt.pre (Srt.dig lo d) S (j % 256) + Srt.cnt (Srt.dig lo d) (S.take i) (j % 256) : Nat) else c0 j

theorem nxt_zero (lo : Nat) (S : List Int) (d : Nat) (c0 : Nat → Int) (j : Nat) : plc lo S d 256 c0 j = nxt lo S d 0 c0 j := by
  unfold plc nxt
  by_cases h1 : j / 256 = d
  · rw [if_pos h1, if_pos h1, if_pos (Nat.mod_lt _ (by decide))]
    simp [Srt.cnt]
  · rw [if_neg h1, if_neg h1]

theorem nxt_at (lo : Nat) (S : List Int) (d i v : Nat) (hv : v < 256) (c0 : Nat → Int) : nxt lo S d i c0 (d * 256 + v) = (Srt.pre (Srt.dig lo d) S v + Srt.cnt (Srt.dig lo d) (S.take i) v : Nat) := by
  have e1 : (d * 256 + v) / 256 = d := by omega
  have e2 : (d * 256 + v) % 256 = v := by omega
  unfold nxt
  rw [if_pos e1, e2]

theorem nxt_step (lo : Nat) (S : List Int) (d i : Nat) (hi : i < S.length) (c0 : Nat → Int) (j : Nat) :
    upd (nxt lo S d i c0) (d * 256 + Srt.dig lo d (S.getD i 0)) (nxt lo S d i c0 (d * 256 + Srt.dig lo d (S.getD i 0)) + 1) j = nxt lo S d (i + 1) c0 j := by
  have hv := Srt.dig_lt lo d (S.getD i 0)
  rw [nxt_at lo S d i _ hv]
  unfold upd
  by_cases e : j = d * 256 + Srt.dig lo d (S.getD i 0)
  · have e1 : j / 256 = d := by omega
    have e2 : j % 256 = Srt.dig lo d (S.getD i 0) := by omega
    rw [if_pos e]
    unfold nxt
    rw [if_pos e1, e2, Srt.take_snoc S i hi, Srt.cnt_snoc, if_pos rfl]
    omega
  · rw [if_neg e]
    unfold nxt
    by_cases h1 : j / 256 = d
    · rw [if_pos h1, if_pos h1, Srt.take_snoc S i hi, Srt.cnt_snoc, if_neg (by omega)]
      rfl
    · rw [if_neg h1, if_neg h1]
end Go.Proofs.Qxb6000725a.Rad
