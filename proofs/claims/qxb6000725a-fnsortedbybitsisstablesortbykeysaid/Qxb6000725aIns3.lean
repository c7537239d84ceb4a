/-
  zzStableSort (17): its walk.
-/
import Derived.Test.Qxb6000725aIns2
namespace Go.Proofs.Qxb6000725a.Small
open Go.ChangeShapes Go.WideShapes Go.ChangeAt Go.RowKit
open Go.Proofs.Qxb6000725a.Mem

def SortPost (K : Int → Nat) (w : World) (n : Nat) (f : Nat → Int) (e : Ending) (w' : World) : Prop :=
  e = .returned (.slice (some ⟨w.heap.size, 0, none⟩) n n) ∧ ∃ S, Srt.Stab K (lst n f) S ∧ Tab w' w.heap.size n (fun t => S.getD t 0) ∧ Below w.heap.size w w' ∧ w'.heap.size = w.heap.size + 1

theorem sort_done {K : Int → Nat} {w : World} {n : Nat} {f : Nat → Int} {S : List Int} {wr : World} (h : Outer K w n f n S wr) : SortPost K w n f (.returned (.slice (some ⟨w.heap.size, 0, none⟩) n n)) wr :=
  ⟨rfl, S, h.2.1, h.2.2.1.congr fun t ht => by simp [ht], h.2.2.2.1, h.2.2.2.2⟩

/-- Some slice of no elements comes back. -/
def ZeroPost (w : World) (e : Ending) (w' : World) : Prop := ∃ a' c', e = .returned (.slice a' 0 c') ∧ Below w.heap.size w w'

theorem sort_zero (a : Option Addr) (c : Nat) (lo hi : Int) (w : World) (ha : a = none → c = 0) :
    Calls Try.prog 17 #[.slice a 0 c, .int .i64 lo, .int .i64 hi] w (ZeroPost w) := by
  cases a with
  | none =>
    obtain rfl := ha rfl
    go_enter Try.func17, Try.ntmps17
    go_wp2_with fail
    refine (clone_nil w).mono ?_
    rintro e w1 ⟨rfl, rfl⟩
    go_wp2_with fail
    go_loop [8] (fun i => i = .int .i64 1) (fun _ => 0)
    case atStart => rfl
    case round =>
      obtain rfl := hrel
      go_wp2
      go_ret
      exact ⟨_, _, rfl, Below.refl _ _⟩
  | some x =>
    go_enter Try.func17, Try.ntmps17
    go_wp2_with fail
    refine (clone_some x 0 c (fun _ => 0) w (by omega) (fun i hi => by omega)).mono ?_
    rintro e w1 ⟨rfl, _, hb, _⟩
    go_wp2_with fail
    go_loop [8] (fun i => i = .int .i64 1) (fun _ => 0)
    case atStart => rfl
    case round =>
      obtain rfl := hrel
      go_wp2
      go_ret
      exact ⟨_, _, rfl, hb⟩

set_option maxHeartbeats 800000 in
theorem sort_some (b0 n cap : Nat) (f : Nat → Int) (lo hi : Int) (w : World) (hn0 : 1 ≤ n) (hn : n ≤ 4096) (hlo : 0 ≤ lo) (hlo2 : lo ≤ 256) (ht : Tab w b0 n f) :
    Calls Try.prog 17 #[.slice (some ⟨b0, 0, none⟩) n cap, .int .i64 lo, .int .i64 hi] w (SortPost (keyF lo hi) w n f) := by
  go_enter Try.func17, Try.ntmps17
  go_wp2_with fail
  refine (clone_some ⟨b0, 0, none⟩ n cap f w hn (fun i hi => by rw [add_plain]; simpa using ht.cell hi)).mono ?_
  rintro e w1 ⟨rfl, h1, h2, h3⟩
  have hst := outer_start (keyF lo hi) w w1 n f h1 h2 h3
  clear h1 h2 h3
  go_wp2_with fail
  go_loopw [8] (fun i wr => ∃ (k : Nat) (S : List Int), 1 ≤ k ∧ k ≤ n ∧ i = .int .i64 k ∧ Outer (keyF lo hi) w n f k S wr) (fun i _ => n - (intOf i).toNat)
  case atStart => exact ⟨1, _, Nat.le_refl _, hn0, rfl, hst⟩
  case round =>
    obtain ⟨k, S, hk1, hk, rfl, hO⟩ := hrel
    clear hst
    by_cases hlt : k < n
    · have hcell : wr.cell? ⟨w.heap.size, k, none⟩ = some (.int .i64 (f k)) := by
        rw [hO.2.2.1.cell hlt]; simp
      go_wp2_with fail
      refine (keyF_any (f k) lo hi wr hlo hlo2).mono ?_
      rintro e w2 ⟨rfl, rfl⟩
      have hI := inner_start hO
      go_wp2_with fail
      go_loopw [11] (fun jv wr2 => ∃ j : Nat, j ≤ k ∧ jv = .int .i64 j ∧ Inner (keyF lo hi) w n f k S j wr2) (fun jv _ => (intOf jv).toNat)
      case atStart => exact ⟨k, Nat.le_refl _, rfl, hI⟩
      case round =>
        obtain ⟨j, hjk, rfl, hI2⟩ := hrel
        clear hcell hI
        have hS := hO.1
        have hSt := hO.2.1
        clear hO
        match j, hjk, hI2 with
        | 0, hjk, hI2 =>
          have hE := inner_end hS hSt hI2 (by omega) (fun t ht => by omega)
          obtain ⟨⟨q, hc⟩, hf⟩ := inner_slot hI2 (by omega)
          clear hI2 hS hSt
          go_wp2
          go_roundw
          case rel => exact ⟨k + 1, _, by omega, by omega, by go_num, hE⟩
          case measure => simp [intOf]; omega
        | j + 1, hjk, hI2 =>
          have hc1 := inner_cell hI2 (by omega)
          obtain ⟨⟨q, hc⟩, hf⟩ := inner_slot hI2 (by omega)
          have hstep := inner_step hI2 (by omega)
          have hE := inner_end hS hSt hI2 (by omega)
          obtain ⟨y, hy⟩ : ∃ y, y = S.getD j 0 := ⟨_, rfl⟩
          rw [← hy] at hc1 hstep
          have HE : Hid (keyF lo hi y ≤ keyF lo hi (f k) → Outer (keyF lo hi) w n f (k + 1) (S.take (j + 1) ++ f k :: S.drop (j + 1)) (wr.setCell ⟨w.heap.size, j + 1, none⟩ (.int .i64 (f k)))) :=
            fun h => hE (fun t ht => by have : t = j := by omega
                                        subst this; rw [← hy]; exact h)
          have HS : Hid (keyF lo hi (f k) < keyF lo hi y → Inner (keyF lo hi) w n f k S j (wr.setCell ⟨w.heap.size, j + 1, none⟩ (.int .i64 y))) := hstep
          clear hI2 hS hSt hE hstep hy
          go_wp2_with fail
          refine (keyF_any y lo hi wr hlo hlo2).mono ?_
          rintro e w3 ⟨rfl, rfl⟩
          by_cases hkk : ((keyF lo hi (f k) : Nat) : Int) < ((keyF lo hi y : Nat) : Int)
          · have hN := HS.out (by omega)
            clear HS HE
            go_wp2
            go_roundw
            case rel => exact ⟨j, by omega, by go_num, hN⟩
            case measure => simp [intOf]
          · have hN := HE.out (by omega)
            clear HS HE
            go_wp2
            go_roundw
            case rel => exact ⟨k + 1, _, by omega, by omega, by go_num, hN⟩
            case measure => simp [intOf]; omega
    · go_wp2
      go_ret
      obtain rfl : k = n := by omega
      exact sort_done hO
end Go.Proofs.Qxb6000725a.Small
