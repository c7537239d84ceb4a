/-
  FnSizeCountsEveryNodeOnce (3): its walks.
-/
import Derived.Test.Qxb6002397aSize
import Derived.WalkSpells
import Derived.Laws.CopyOwn
namespace Go.Proofs.Qxb6002397a.Iter
open Go.ChangeShapes Go.WideShapes Go.ChangeAt Go.RowKit Go.Shelf

theorem below_of_G {T : Nat} {w wB wr : World} {B : Nat} (h0 : Below B w wB) (hB : B ≤ wB.heap.size) (hT : B ≤ T) (h : G T wB wr) : Below B w wr :=
  h0.trans ⟨h.os, h.tape, h.output, h.size, fun k hk => h.block k (by omega) (by omega)⟩

theorem SB_new (w : World) (v : Value) : SB w.heap.size v 0 0 (w.alloc (.cells #[v, .int .i64 0, .int .i64 0, .int .i64 0, .int .i64 0, .int .i64 0, .bool false] 26)) := by
  constructor
  all_goals first | exact World.frozen?_alloc_at _ _ _ _ rfl | (rw [World.cell?_alloc_at _ _ _ _ rfl]; rfl)

theorem Row_later {T : Nat} {wB wr : World} {a : Option Addr} {n : Nat} (h : Row T wB a n) (hg : G T wB wr) : Row T wr a n := by
  intro hn
  obtain ⟨R, ha, hR, hne, f, hf⟩ := h hn
  exact ⟨R, ha, Nat.lt_of_lt_of_le hR hg.size, hne, f, fun i hi => (cell_of_same (hg.block R hR hne)).trans (hf i hi)⟩

/-- The calls so far. -/
def Rel (T n : Nat) (v : Value) (wB : World) (i : Nat) (wr : World) : Prop := SB T v i ((i * n : Nat) : Int) wr ∧ G T wB wr

theorem rel_next {T n : Nat} {v : Value} {wB wr w1 : World} {i : Nat} (h : Rel T n v wB i wr) (hs : SB T v ((i : Int) + 1) (((i * n : Nat) : Int) + (n : Int)) w1) (hg : G T wr w1) : Rel T n v wB (i + 1) w1 := by
  refine ⟨?_, h.2.trans hg⟩
  have e1 : ((i + 1 : Nat) : Int) = (i : Int) + 1 := by omega
  have e2 : (((i + 1) * n : Nat) : Int) = ((i * n : Nat) : Int) + (n : Int) := by rw [Nat.succ_mul]; omega
  rw [e1, e2]; exact hs

def zl (n : Nat) : List Value := List.replicate n (.int .i64 0)
theorem Try.info2 : (Try.prog.info? 2).map (fun i => (i.zero, i.size, i.bytes)) = some (some (.int .i64 0), 1, 8) := by kernel_rfl
theorem Try.size2 : (Try.prog.info? 2).map (·.size) = some 1 := by kernel_rfl

theorem make_ids (n : Nat) (hn : n ≤ 1000000000) (w : World) : (Instr.makeSlice 22 (.int .i64 (n : Int)) (.int .i64 (n : Int))).run Try.prog w = .ok (.slice (some ⟨w.heap.size, 0, none⟩) n n) (w.alloc (.cells (zl n).toArray 2)) := by
  obtain ⟨i, hi, hz0, hz1, hz2⟩ := info_parts Try.info2
  have := run_make (P := Try.prog) w 22 2 i (.int .i64 0) Try.underlying22 hi hz0 .i64 .i64 (n : Int) (n : Int) (by omega) (by omega) (by rw [hz2]; omega) (by omega)
  rw [this, hz1]
  have e : madeCells (Value.int .i64 0).cells (n * 1) = (zl n).toArray := by
    apply Array.ext'
    rw [Nat.mul_one]
    exact toList_madeCells_one _ _
  simp only [Int.toNat_natCast, e]

theorem nil_ne (a : Option Addr) (n c : Nat) (w : World) : (binOp .neq 22 (.slice a n c) (.slice none 0 0)).run Try.prog w = .ok (.bool a.isSome) w := by
  have := Go.run_neq_slice_nil_any (P := Try.prog) w 22 2 a n c 0 0 Try.underlying22
  simpa using this

theorem bytes_ok (a : Option Addr) (n c : Nat) (a1 : Int) (w : World) (hn : n ≤ 131072) : Calls Try.prog 4 #[.slice a n c, .int .u8 a1] w fun e w' => e = .returned (.bool true) ∧ w = w' := by
  go_enter Try.func4, Try.ntmps4
  go_wp2
  go_ret
  exact ⟨rfl, rfl⟩

def ids (n : Nat) (f : Nat → Int) : List Value := (List.range n).map fun i => .int .i64 (f i)
theorem ids_length (n : Nat) (f : Nat → Int) : (ids n f).length = n := by simp [ids]
theorem ids_get (n : Nat) (f : Nat → Int) (i : Nat) (h : i < n) : (ids n f)[i]? = some (.int .i64 (f i)) := by simp [ids, h]
theorem splice_all (n : Nat) (f : Nat → Int) : splice (zl n) 0 (ids n f) = ids n f := by
  unfold splice
  rw [List.take_zero, List.nil_append, Nat.zero_add, ids_length, List.drop_of_length_le (by simp [zl]), List.append_nil]

theorem copy_ids (x : Addr) (n cap : Nat) (f : Nat → Int) (w : World) (hsrc : ∀ i, i < n → w.cell? (x.add i) = some (.int .i64 (f i))) :
    ∃ w2, (Builtin.copy_ #[22, 22] 3 #[.slice (some ⟨w.heap.size, 0, none⟩) n n, .slice (some x) n cap]).run Try.prog (w.alloc (.cells (zl n).toArray 2)) = .ok (goInt n) w2 ∧
      (∀ i, i < n → w2.cell? ⟨w.heap.size, i, none⟩ = some (.int .i64 (f i))) ∧ Below w.heap.size w w2 ∧ w2.heap.size = w.heap.size + 1 := by
  have hg0 := World.alloc_heap_new w (.cells (zl n).toArray 2)
  have hids : ∀ (j : Nat) (u : Value), (ids n f)[j]? = some u → (w.alloc (.cells (zl n).toArray 2)).cell? (x.add j) = some u := by
    intro j u hu
    have hj : j < n := by have := (List.getElem?_eq_some_iff.1 hu).1; rwa [ids_length] at this
    rw [ids_get n f j hj] at hu
    rw [← hu, World.cell?_alloc_lt _ _ _ (block_lt_of_cell (hsrc j hj))]
    exact hsrc j hj
  have h1c : ∀ u ∈ ids n f, u.oneCell' = true := by
    intro u hu
    simp only [ids, List.mem_map] at hu
    obtain ⟨_, _, rfl⟩ := hu
    rfl
  have hrun := run_copy_row (P := Try.prog) (w.alloc (.cells (zl n).toArray 2)) 22 22 3 2 w.heap.size 0 n n x n cap (zl n).toArray 2 (ids n f) Try.underlying22 Try.size2 hg0 (by rw [ids_length]; exact (Nat.min_self n).symm) hids (by rw [ids_length]; simp [zl]) h1c
  have hspl : ((zl n).toArray.toList.take 0 ++ ids n f ++ (zl n).toArray.toList.drop (0 + (ids n f).length)) = ids n f := by
    rw [List.take_zero, List.nil_append, Nat.zero_add, ids_length, List.drop_of_length_le (by simp [zl]), List.append_nil]
  rw [hspl, ids_length] at hrun
  refine ⟨_, hrun, ?_, below_setRow ((Below.refl _ _).alloc (Nat.le_refl _) _) (Nat.le_refl _) _, by simp [World.setRow]⟩
  intro i hi
  have hh := setRow_heap (w.alloc (.cells (zl n).toArray 2)) w.heap.size _ (ids n f).toArray 2 _ hg0
  unfold World.cell?
  simp only [hh]
  simp [ids_get n f i hi]

theorem mul_in (K n : Nat) (hK : K ≤ 4) (hn : n ≤ 131072) : (((K * n : Nat) : Int) == wrap64 ((K : Int) * (n : Int))) = true := by
  have h : K * n ≤ 4 * 131072 := Nat.mul_le_mul hK hn
  have e : ((K : Int) * (n : Int)) = ((K * n : Nat) : Int) := by simp
  rw [e, IntWalk.wrap64_in _ ⟨by omega, by omega⟩]; simp

set_option maxHeartbeats 1000000 in
theorem walk_nil (a1 : Int) (K : Nat) (w : World) (h1 : 0 ≤ a1) (h2 : a1 ≤ 255) (hK : a1 % 4 + 1 = (K : Int)) :
    Calls Try.prog 3 #[.slice none 0 0, .int .u8 a1] w fun e w' => e = .returned (.bool true) ∧ Below w.heap.size w w' := by
  have hne := nil_ne none 0 0
  have hK4 : K ≤ 4 := by omega
  have hK1 : 1 ≤ K := by omega
  go_enter Try.func3, Try.ntmps3
  go_wp2_with (go_at_call 4; refine (bytes_ok _ _ _ _ _ (by omega)).mono ?_; rintro e w' ⟨rfl, rfl⟩)
  have hSB := SB_new w (.slice none 0 0)
  have hB : Below w.heap.size w (w.alloc (.cells #[.slice none 0 0, .int .i64 0, .int .i64 0, .int .i64 0, .int .i64 0, .int .i64 0, .bool false] 26)) := (Below.refl _ _).alloc (Nat.le_refl _) _
  obtain ⟨wB, hwB⟩ : ∃ wB, w.alloc (.cells #[.slice none 0 0, .int .i64 0, .int .i64 0, .int .i64 0, .int .i64 0, .int .i64 0, .bool false] 26) = wB := ⟨_, rfl⟩
  have hBs' : wB.heap.size = w.heap.size + 1 := by rw [← hwB]; simp
  rw [hwB] at hSB hB ⊢
  clear hwB
  have hBs : w.heap.size ≤ wB.heap.size := by omega
  have hBT : w.heap.size ≤ w.heap.size := Nat.le_refl _
  have hTs : w.heap.size < wB.heap.size := by omega
  clear hBs'
  have hn : (0 : Nat) ≤ 131072 := by omega
  have hrow : Row w.heap.size wB none 0 := fun h => by omega
  clear hK
  go_loopw [8] (fun iv wr => ∃ i : Nat, i ≤ K ∧ iv = .int .i64 i ∧ Rel w.heap.size 0 (.slice none 0 0) wB i wr) (fun iv _ => K - (intOf iv).toNat)
  case atStart => exact ⟨0, Nat.zero_le _, rfl, by refine ⟨?_, G.refl _ _⟩; simpa using hSB⟩
  case round =>
    obtain ⟨i, hi, rfl, hR⟩ := hrel
    clear hSB
    by_cases hlt : i < K
    · have hin : i * 0 ≤ 4 * 131072 := Nat.mul_le_mul (by omega) hn
      go_wp2_with fail
      refine (size_any w.heap.size 0 0 none (i : Int) ((i * 0 : Nat) : Int) wr (by have := hR.2.size; omega) hn (by omega) (by omega) (by omega) (by omega) hR.1 (Row_later hrow hR.2)).mono ?_
      rintro e w1 ⟨rfl, hs1, hg1⟩
      have hN := rel_next hR hs1 hg1
      have hnn : (((0 : Nat) : Int) != ((0 : Nat) : Int)) = false := by simp
      clear hR hs1 hg1
      go_wp2
      go_roundw
      case rel => exact ⟨i + 1, by omega, by go_num, hN⟩
      case measure => simp [intOf]; omega
    · obtain rfl : i = K := by omega
      obtain ⟨hS, hg⟩ := hR
      have c1 := hS.c1
      have c2 := hS.c2
      have c3 := hS.c3
      have c4 := hS.c4
      have c5 := hS.c5
      have c6 := hS.c6
      have e1 : ((i : Int) == (i : Int)) = true := by simp
      have e2 := mul_in i 0 hK4 hn
      have hfin := below_of_G hB hBs hBT hg
      clear hS hg hrow
      go_wp2
      go_ret
      exact ⟨rfl, hfin⟩

set_option maxRecDepth 100000 in
set_option maxHeartbeats 1000000 in
theorem walk_some (x : Addr) (n cap : Nat) (f : Nat → Int) (a1 : Int) (K : Nat) (w : World) (hn : n ≤ 131072) (h1 : 0 ≤ a1) (h2 : a1 ≤ 255) (hK : a1 % 4 + 1 = (K : Int)) (hsrc : ∀ i, i < n → w.cell? (x.add i) = some (.int .i64 (f i))) :
    Calls Try.prog 3 #[.slice (some x) n cap, .int .u8 a1] w fun e w' => e = .returned (.bool true) ∧ Below w.heap.size w w' := by
  have hne := nil_ne (some x) n cap
  have hmk := make_ids n (by omega)
  have hdn : decide ((131072 : Int) < (n : Int)) = false := decide_eq_false (by omega)
  have hK4 : K ≤ 4 := by omega
  have hK1 : 1 ≤ K := by omega
  go_enter Try.func3, Try.ntmps3
  obtain ⟨w2, hcp, hrc, hb2, hz2⟩ := copy_ids x n cap f w hsrc
  have HRC : Hid (∀ i, i < n → w2.cell? ⟨w.heap.size, i, none⟩ = some (.int .i64 (f i))) := hrc
  clear hrc hsrc
  go_wp2_with (go_at_call 4; refine (bytes_ok _ _ _ _ _ (by omega)).mono ?_; rintro e w' ⟨rfl, rfl⟩)
  have hSB := SB_new w2 (.slice (some ⟨w.heap.size, 0, none⟩) n n)
  rw [hz2] at hSB
  obtain ⟨wB, hwB⟩ : ∃ wB, w2.alloc (.cells #[.slice (some ⟨w.heap.size, 0, none⟩) n n, .int .i64 0, .int .i64 0, .int .i64 0, .int .i64 0, .int .i64 0, .bool false] 26) = wB := ⟨_, rfl⟩
  have hB : Below w.heap.size w wB := by rw [← hwB]; exact hb2.alloc (by omega) _
  have hBs' : wB.heap.size = w.heap.size + 2 := by rw [← hwB]; simp; omega
  have hrow : Row (w.heap.size + 1) wB (some ⟨w.heap.size, 0, none⟩) n := by
    intro _
    refine ⟨w.heap.size, rfl, by omega, by omega, f, fun i hi => ?_⟩
    rw [← hwB, World.cell?_alloc_past _ _ _ (by omega)]
    exact HRC.out i hi
  rw [hwB] at hSB ⊢
  clear hwB HRC hcp hb2 hz2
  have hBs : w.heap.size ≤ wB.heap.size := by omega
  have hBT : w.heap.size ≤ w.heap.size + 1 := by omega
  have hTs : w.heap.size + 1 < wB.heap.size := by omega
  clear hBs'
  clear hK
  go_loopw [8] (fun iv wr => ∃ i : Nat, i ≤ K ∧ iv = .int .i64 i ∧ Rel (w.heap.size + 1) n (.slice (some ⟨w.heap.size, 0, none⟩) n n) wB i wr) (fun iv _ => K - (intOf iv).toNat)
  case atStart => exact ⟨0, Nat.zero_le _, rfl, by refine ⟨?_, G.refl _ _⟩; simpa using hSB⟩
  case round =>
    obtain ⟨i, hi, rfl, hR⟩ := hrel
    clear hSB
    by_cases hlt : i < K
    · have hin : i * n ≤ 4 * 131072 := Nat.mul_le_mul (by omega) hn
      go_wp2_with fail
      refine (size_any (w.heap.size + 1) n n (some ⟨w.heap.size, 0, none⟩) (i : Int) ((i * n : Nat) : Int) wr (by have := hR.2.size; omega) hn (by omega) (by omega) (by omega) (by omega) hR.1 (Row_later hrow hR.2)).mono ?_
      rintro e w1 ⟨rfl, hs1, hg1⟩
      have hN := rel_next hR hs1 hg1
      have hnn : ((n : Int) != (n : Int)) = false := by simp
      clear hR hs1 hg1
      go_wp2
      go_roundw
      case rel => exact ⟨i + 1, by omega, by go_num, hN⟩
      case measure => simp [intOf]; omega
    · obtain rfl : i = K := by omega
      obtain ⟨hS, hg⟩ := hR
      have c1 := hS.c1
      have c2 := hS.c2
      have c3 := hS.c3
      have c4 := hS.c4
      have c5 := hS.c5
      have c6 := hS.c6
      have e1 : ((i : Int) == (i : Int)) = true := by simp
      have e2 := mul_in i n hK4 hn
      have hfin := below_of_G hB hBs hBT hg
      clear hS hg hrow
      generalize i * n = p at c5 e2
      go_wp2
      go_ret
      exact ⟨rfl, hfin⟩

end Go.Proofs.Qxb6002397a.Iter
