/-
  sortedByBits (22) where it makes no pass; ZZSortedByBits (18).
-/
import Derived.Test.Qxb6000725aRad3
namespace Go.Proofs.Qxb6000725a.Rad
open Go.ChangeShapes Go.WideShapes Go.ChangeAt Go.RowKit
open Go.Proofs.Qxb6000725a.Mem
open Go.Proofs.Qxb6000725a.Small (lst lst_length lst_succ lst_get)

theorem post_zero {w wr : World} {b1 b2 n : Nat} {lo : Int} {f g C : Nat → Int} {a a' : Option Addr} (c c' : Nat) (h1 : 0 < n → a = some ⟨b1, 0, none⟩)
    (hM : M w b1 b2 n lo 0 C f g wr) : Post w b1 b2 n (Srt.part lo.toNat 0) f (.returned (.tuple #[.slice a n c, .slice a' n c'])) wr :=
  ⟨a, a', c, c', b1, lst n f, rfl, Srt.Stab_zero _ _, fun hn => ⟨h1 hn, .inl rfl⟩, hM.t1.congr fun t ht => (lst_get n f t ht).symm, hM.kept⟩

set_option maxHeartbeats 1000000 in
theorem radix0 (a1 a2 : Option Addr) (c1 c2 b1 b2 n : Nat) (lo hi : Int) (f g : Nat → Int) (w : World)
    (ha1 : 0 < n → a1 = some ⟨b1, 0, none⟩) (t1 : Tab w b1 n f) (t2 : Tab w b2 n g)
    (hn : n ≤ 4096) (hlo : 0 ≤ lo) (hlo2 : lo ≤ 256) (hhi : -65536 ≤ hi) (hhi2 : hi ≤ 256) (hp0 : hi - lo + 8 - 1 < 0) :
    Calls Try.prog 22 #[.slice a1 n c1, .slice a2 n c2, .int .i64 lo, .int .i64 hi] w (Post w b1 b2 n (Srt.part lo.toNat 0) f) := by
  have hmk : ∀ w : World, (Instr.makeSlice 42 (.int .i64 0) (.int .i64 0)).run Try.prog w = .ok (.slice (some ⟨w.heap.size, 0, none⟩) 0 0) (w.alloc (.cells (zz (0 * 256)) 43)) := fun w => by simpa using make_counts 0 (by omega) w
  have hM := M_start w b1 b2 n lo 0 f g t1 t2
  go_enter Try.func22, Try.ntmps22
  go_wp2_with fail
  go_loopw [38] (fun iv wr => ∃ i : Nat, i ≤ n ∧ iv = .int .i64 i ∧ M w b1 b2 n lo 0 (fun _ => 0) f g wr) (fun iv _ => n - (intOf iv).toNat)
  case atStart => exact ⟨0, Nat.zero_le _, rfl, hM⟩
  case round =>
    clear hM
    obtain ⟨i, hi1, rfl, hM⟩ := hrel
    by_cases hlt : i < n
    · have hcell := hM.t1.cell hlt
      obtain rfl := ha1 (by omega)
      go_wp2_with fail
      go_loop [44] (fun dv => dv = .int .i64 0) (fun _ => 0)
      case atStart => rfl
      case round =>
        obtain rfl := hrel
        go_wp2
        go_roundw
        case rel => exact ⟨i + 1, by omega, by go_num, hM⟩
        case measure => simp [intOf]; omega
    · go_wp2_with fail
      go_loop [16, 17, 65] (fun fv tv dv => fv = .slice a1 n c1 ∧ tv = .slice a2 n c2 ∧ dv = .int .i64 0) (fun _ _ _ => 0)
      case atStart => exact ⟨rfl, rfl, rfl⟩
      case round =>
        obtain ⟨rfl, rfl, rfl⟩ := hrel
        go_wp2
        go_ret2
        exact post_zero _ _ ha1 hM

/-- How many passes. -/
def passes (lo hi : Int) : Nat := if 0 ≤ hi - lo + 8 - 1 then ((hi - lo + 8 - 1) / 8).toNat else 0

theorem radix_any (a1 a2 : Option Addr) (c1 c2 b1 b2 n : Nat) (lo hi : Int) (f g : Nat → Int) (w : World)
    (ha1 : 0 < n → a1 = some ⟨b1, 0, none⟩) (ha2 : 0 < n → a2 = some ⟨b2, 0, none⟩) (hT : Two w b1 b2 n) (t1 : Tab w b1 n f) (t2 : Tab w b2 n g)
    (hn : n ≤ 4096) (hlo : 0 ≤ lo) (hlo2 : lo ≤ 256) (hhi : -65536 ≤ hi) (hhi2 : hi ≤ 256) :
    Calls Try.prog 22 #[.slice a1 n c1, .slice a2 n c2, .int .i64 lo, .int .i64 hi] w (Post w b1 b2 n (Srt.part lo.toNat (passes lo hi)) f) := by
  unfold passes
  by_cases h : 0 ≤ hi - lo + 8 - 1
  · rw [if_pos h]
    exact radix a1 a2 c1 c2 b1 b2 n _ lo hi f g w ha1 ha2 hT t1 t2 hn hlo hlo2 hhi hhi2 h (by omega) (by omega)
  · rw [if_neg h]
    exact radix0 a1 a2 c1 c2 b1 b2 n lo hi f g w ha1 t1 t2 hn hlo hlo2 hhi hhi2 (by omega)

theorem zzsorted_any (a1 a2 : Option Addr) (c1 c2 b1 b2 n : Nat) (lo hi : Int) (f g : Nat → Int) (w : World)
    (ha1 : 0 < n → a1 = some ⟨b1, 0, none⟩) (ha2 : 0 < n → a2 = some ⟨b2, 0, none⟩) (hT : Two w b1 b2 n) (t1 : Tab w b1 n f) (t2 : Tab w b2 n g)
    (hn : n ≤ 4096) (hlo : 0 ≤ lo) (hlo2 : lo ≤ 256) (hhi : -65536 ≤ hi) (hhi2 : hi ≤ 256) :
    Calls Try.prog 18 #[.slice a1 n c1, .slice a2 n c2, .int .i64 lo, .int .i64 hi] w (Post w b1 b2 n (Srt.part lo.toNat (passes lo hi)) f) := by
  go_enter Try.func18, Try.ntmps18
  go_wp2_with fail
  refine (radix_any a1 a2 c1 c2 b1 b2 n lo hi f g w ha1 ha2 hT t1 t2 hn hlo hlo2 hhi hhi2).mono ?_
  rintro e w1 ⟨a, a', c, c', b, S, rfl, hS, hb, ht, hk⟩
  have hP : Post w b1 b2 n (Srt.part lo.toNat (passes lo hi)) f (.returned (.tuple #[.slice a n c, .slice a' n c'])) w1 := ⟨a, a', c, c', b, S, rfl, hS, hb, ht, hk⟩
  clear hS hb ht hk
  go_wp2
  go_ret2
  exact hP
end Go.Proofs.Qxb6000725a.Rad
