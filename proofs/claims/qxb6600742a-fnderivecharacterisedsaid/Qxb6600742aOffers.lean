/-
  offersOf (9).
-/
import Derived.Test.Qxb6600742aDMem
namespace Go.Proofs.Qxb6600742a.DMem
open Go.ChangeShapes Go.WideShapes Go.ChangeAt Go.RowKit

/-- A slice that came in, up to m of its elements. -/
def Src (k : IntKind) (w : World) (a : Option Addr) (m : Nat) (f : Nat → Int) : Prop :=
  0 < m → ∃ b off, a = some ⟨b, off, none⟩ ∧ b < w.heap.size ∧ ∀ i, i < m → w.cell? ⟨b, off + i, none⟩ = some (.int k (f i))

def OffRel (w : World) (n : Nat) (f g : Nat → Int) (k : Nat) (wr : World) : Prop :=
  Off wr w.heap.size k f g ∧ Room wr w.heap.size n ∧ Below w.heap.size w wr ∧ wr.heap.size = w.heap.size + 1

theorem off_start (w : World) (n : Nat) (f g : Nat → Int) : OffRel w n f g 0 (w.alloc (.cells (zo (n * 2)) 33)) :=
  ⟨fun i hi => by omega, Room_made w n, (Below.refl _ _).alloc (Nat.le_refl _) _, by simp⟩

theorem off_step {w wr : World} {n k : Nat} {f g : Nat → Int} (h : OffRel w n f g k wr) (hk : k < n) :
    OffRel w n f g (k + 1) ((wr.setCell ⟨w.heap.size, k * 2, none⟩ (.int .i64 (f k))).setCell ⟨w.heap.size, k * 2 + 1, none⟩ (.int .i8 (g k))) := by
  obtain ⟨h1, h2, h3, h4⟩ := h
  have hr1 := h2.set (k * 2) (.int .i64 (f k))
  refine ⟨?_, hr1.set _ _, (h3.setCell (Nat.le_refl _) _).setCell (Nat.le_refl _) _, by simpa [World.setCell] using h4⟩
  have ne : ∀ {W : World} {i j : Nat} {v : Value}, i ≠ j → (W.setCell ⟨w.heap.size, i, none⟩ v).cell? ⟨w.heap.size, j, none⟩ = W.cell? ⟨w.heap.size, j, none⟩ := fun h => World.cell?_setCell_other _ _ _ _ (by intro e; apply h; injection e)
  intro i hi
  by_cases e : i = k
  · subst e
    obtain ⟨⟨v0, hv0⟩, _⟩ := h2 (i * 2) (by omega)
    obtain ⟨⟨v1, hv1⟩, _⟩ := hr1 (i * 2 + 1) (by omega)
    exact ⟨by rw [ne (by omega)]; exact World.cell?_setCell_same _ _ _ hv0, World.cell?_setCell_same _ _ _ hv1⟩
  · exact ⟨by rw [ne (by omega), ne (by omega)]; exact (h1 i (by omega)).1, by rw [ne (by omega), ne (by omega)]; exact (h1 i (by omega)).2⟩

theorem OffRel.drew {w wr : World} {n k : Nat} {f g : Nat → Int} (h : OffRel w n f g k wr) : OffRel w n f g k wr.drew := ⟨h.1, h.2.1, h.2.2.1.drew, h.2.2.2⟩

def OffersPost (w : World) (n : Nat) (f g : Nat → Int) (e : Ending) (w' : World) : Prop :=
  e = .returned (.slice (some ⟨w.heap.size, 0, none⟩) n n) ∧ Off w' w.heap.size n f g ∧ Below w.heap.size w w' ∧ w'.heap.size = w.heap.size + 1

set_option maxRecDepth 100000 in
set_option maxHeartbeats 1000000 in
theorem offers_a (a0 a1 : Option Addr) (n0 c0 n1 c1 n : Nat) (f g : Nat → Int) (w : World) (hn0 : n0 ≤ 4096) (hn1 : n1 ≤ 4096) (hlt01 : n1 < n0) (hn : n = n1) (h0 : Src .i64 w a0 n f) (h1 : Src .i8 w a1 n g) :
    Calls Try.prog 9 #[.slice a0 n0 c0, .slice a1 n1 c1] w (OffersPost w n f g) := by
  subst hn
  have hmk := make_offers n (by omega)
  go_enter Try.func9, Try.ntmps9
  go_wp2
  go_loopw [7] (fun i wr => ∃ k : Nat, k ≤ n ∧ i = .int .i64 k ∧ OffRel w n f g k wr) (fun i _ => n - (intOf i).toNat)
  case atStart => exact ⟨0, Nat.zero_le _, rfl, off_start w n f g⟩
  case round =>
    obtain ⟨k, hk, rfl, hR⟩ := hrel
    by_cases hlt : k < n
    · obtain ⟨b0, o0, rfl, hb0, hc0⟩ := h0 (by omega)
      obtain ⟨b1, o1, rfl, hb1, hc1⟩ := h1 (by omega)
      have hx : wr.cell? ⟨b0, o0 + k, none⟩ = some (.int .i64 (f k)) := (hR.2.2.1.cell (by exact hb0)).trans (hc0 k hlt)
      have hy : wr.cell? ⟨b1, o1 + k, none⟩ = some (.int .i8 (g k)) := (hR.2.2.1.cell (by exact hb1)).trans (hc1 k hlt)
      obtain ⟨⟨v0, hv0⟩, hf0⟩ := hR.2.1 (k * 2) (by omega)
      obtain ⟨⟨v1, hv1⟩, hf1⟩ := hR.2.1 (k * 2 + 1) (by omega)
      have hS := off_step hR hlt
      have hk0 : (k : Int) < (n0 : Int) := by omega
      have hk1 : (k : Int) < (n : Int) := by omega
      clear hc0 hc1 hR h0 h1
      go_wp2_with fail
      go_region
      have hSd := hS.drew
      clear hS
      go_wp2
      go_roundw
      case rel => exact ⟨k + 1, by omega, by go_num, hSd⟩
      case measure => simp [intOf]; omega
    · go_wp2
      go_ret
      obtain rfl : k = n := by omega
      exact ⟨rfl, hR.1, hR.2.2.1, hR.2.2.2⟩
set_option maxRecDepth 100000 in
set_option maxHeartbeats 1000000 in
theorem offers_b (a0 a1 : Option Addr) (n0 c0 n1 c1 n : Nat) (f g : Nat → Int) (w : World) (hn0 : n0 ≤ 4096) (hn1 : n1 ≤ 4096) (hlt01 : n0 ≤ n1) (hn : n = n0) (h0 : Src .i64 w a0 n f) (h1 : Src .i8 w a1 n g) :
    Calls Try.prog 9 #[.slice a0 n0 c0, .slice a1 n1 c1] w (OffersPost w n f g) := by
  subst hn
  have hmk := make_offers n (by omega)
  go_enter Try.func9, Try.ntmps9
  go_wp2
  go_loopw [7] (fun i wr => ∃ k : Nat, k ≤ n ∧ i = .int .i64 k ∧ OffRel w n f g k wr) (fun i _ => n - (intOf i).toNat)
  case atStart => exact ⟨0, Nat.zero_le _, rfl, off_start w n f g⟩
  case round =>
    obtain ⟨k, hk, rfl, hR⟩ := hrel
    by_cases hlt : k < n
    · obtain ⟨b0, o0, rfl, hb0, hc0⟩ := h0 (by omega)
      obtain ⟨b1, o1, rfl, hb1, hc1⟩ := h1 (by omega)
      have hx : wr.cell? ⟨b0, o0 + k, none⟩ = some (.int .i64 (f k)) := (hR.2.2.1.cell (by exact hb0)).trans (hc0 k hlt)
      have hy : wr.cell? ⟨b1, o1 + k, none⟩ = some (.int .i8 (g k)) := (hR.2.2.1.cell (by exact hb1)).trans (hc1 k hlt)
      obtain ⟨⟨v0, hv0⟩, hf0⟩ := hR.2.1 (k * 2) (by omega)
      obtain ⟨⟨v1, hv1⟩, hf1⟩ := hR.2.1 (k * 2 + 1) (by omega)
      have hS := off_step hR hlt
      have hk0 : (k : Int) < (n1 : Int) := by omega
      have hk1 : (k : Int) < (n : Int) := by omega
      clear hc0 hc1 hR h0 h1
      go_wp2_with fail
      go_region
      have hSd := hS.drew
      clear hS
      go_wp2
      go_roundw
      case rel => exact ⟨k + 1, by omega, by go_num, hSd⟩
      case measure => simp [intOf]; omega
    · go_wp2
      go_ret
      obtain rfl : k = n := by omega
      exact ⟨rfl, hR.1, hR.2.2.1, hR.2.2.2⟩
theorem offers_any (a0 a1 : Option Addr) (n0 c0 n1 c1 n : Nat) (f g : Nat → Int) (w : World) (hn0 : n0 ≤ 4096) (hn1 : n1 ≤ 4096) (hn : n = min n0 n1) (h0 : Src .i64 w a0 n f) (h1 : Src .i8 w a1 n g) :
    Calls Try.prog 9 #[.slice a0 n0 c0, .slice a1 n1 c1] w (OffersPost w n f g) := by
  by_cases h : n1 < n0
  · exact offers_a a0 a1 n0 c0 n1 c1 n f g w hn0 hn1 h (by omega) h0 h1
  · exact offers_b a0 a1 n0 c0 n1 c1 n f g w hn0 hn1 (by omega) (by omega) h0 h1
end Go.Proofs.Qxb6600742a.DMem
