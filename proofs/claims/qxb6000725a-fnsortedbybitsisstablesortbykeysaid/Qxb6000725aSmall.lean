/-
  THE SMALL WALKS OF THE LAW ON SORTING: zzCloneInts (16).
-/
import Derived.Test.Qxb6000725aMem
namespace Go.Proofs.Qxb6000725a.Small
open Go.ChangeShapes Go.WideShapes Go.ChangeAt Go.RowKit
open Go.Proofs.Qxb6000725a.Mem

theorem clone_nil (w : World) : Calls Try.prog 16 #[.slice none 0 0] w fun e w' => e = .returned (.slice none 0 0) ∧ w' = w := by
  have hnil := nil_eq none 0 0
  go_enter Try.func16, Try.ntmps16
  go_wp2
  go_ret
  exact ⟨rfl, rfl⟩

/-- What the loop of zzCloneInts holds behind k rounds. -/
def CloneRel (w : World) (n : Nat) (f : Nat → Int) (k : Nat) (wr : World) : Prop :=
  Tab wr w.heap.size n (fun i => if i < k then f i else 0) ∧ Below w.heap.size w wr ∧ wr.heap.size = w.heap.size + 1

theorem clone_start (w : World) (n : Nat) (f : Nat → Int) : CloneRel w n f 0 (w.alloc (.cells (zs n) 3)) :=
  ⟨(Tab_made w n).congr fun i _ => by simp, (Below.refl _ _).alloc (Nat.le_refl _) _, by simp⟩

theorem clone_step {w wr : World} {n k : Nat} {f : Nat → Int} (h : CloneRel w n f k wr) : CloneRel w n f (k + 1) (wr.setCell ⟨w.heap.size, k, none⟩ (.int .i64 (f k))) := by
  obtain ⟨h1, h2, h3⟩ := h
  refine ⟨(h1.set k (f k)).congr fun i _ => ?_, h2.setCell (Nat.le_refl _) _, by rw [size_setCell']; exact h3⟩
  unfold upd
  by_cases e : i = k
  · subst e; simp
  · by_cases e2 : i < k
    · simp [e, e2, show i < k + 1 by omega]
    · simp [e, e2, show ¬ i < k + 1 by omega]

theorem clone_some (x : Addr) (n cap : Nat) (f : Nat → Int) (w : World) (hn : n ≤ 4096) (hsrc : ∀ i, i < n → w.cell? (x.add i) = some (.int .i64 (f i))) :
    Calls Try.prog 16 #[.slice (some x) n cap] w fun e w' => e = .returned (.slice (some ⟨w.heap.size, 0, none⟩) n n) ∧ Tab w' w.heap.size n f ∧ Below w.heap.size w w' ∧ w'.heap.size = w.heap.size + 1 := by
  have hnil := nil_eq (some x) n cap
  have hmk := make_ints n (by omega)
  obtain ⟨b, off, sp⟩ := x
  have hc : ∀ i, i < n → b < w.heap.size ∧ w.cell? ⟨b, off + i, none⟩ = some (.int .i64 (f i)) := by
    intro i hi
    have h0 := World.cell?_spot (hsrc 0 (by omega))
    have hsp : sp = none := by simpa [Addr.add] using h0
    subst hsp
    have := hsrc i hi
    rw [add_plain] at this
    exact ⟨block_lt_of_cell this, this⟩
  have hsp : 0 < n → sp = none := by
    intro h0
    have h0 := World.cell?_spot (hsrc 0 h0)
    simpa [Addr.add] using h0
  have HC : Hid (∀ i, i < n → b < w.heap.size ∧ w.cell? ⟨b, off + i, none⟩ = some (.int .i64 (f i))) := hc
  clear hc hsrc
  go_enter Try.func16, Try.ntmps16
  go_wp2
  go_loopw [4] (fun i wr => ∃ k : Nat, k ≤ n ∧ i = .int .i64 k ∧ CloneRel w n f k wr) (fun i _ => n - (intOf i).toNat)
  case atStart => exact ⟨0, Nat.zero_le _, rfl, clone_start w n f⟩
  case round =>
    obtain ⟨k, hk, rfl, hR⟩ := hrel
    by_cases hlt : k < n
    · obtain rfl := hsp (by omega)
      have hbw := (HC.out k hlt).1
      have hcell : wr.cell? ⟨b, off + k, none⟩ = some (.int .i64 (f k)) := (hR.2.1.cell (by exact hbw)).trans (HC.out k hlt).2
      have hcell2 := hR.1.cell hlt
      have hfree := hR.1.free hlt
      have hS := clone_step hR
      go_wp2
      go_roundw
      case rel => exact ⟨k + 1, by omega, by go_num, hS⟩
      case measure => simp [intOf]; omega
    · go_wp2
      go_ret
      refine ⟨rfl, hR.1.congr fun i hi => ?_, hR.2.1, hR.2.2⟩
      simp [show i < k by omega]
end Go.Proofs.Qxb6000725a.Small
