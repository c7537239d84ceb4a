/-
  zzKey (21), the closure digit (23), zzClearAbove (15), zzSameInts (19).
-/
import Derived.Test.Qxb6000725aMem
import Derived.Test.Qxb6000725aSrt
namespace Go.Proofs.Qxb6000725a.Small
open Go.ChangeShapes Go.WideShapes Go.ChangeAt Go.RowKit
open Go.Proofs.Qxb6000725a.Mem

theorem ret_int {k : IntKind} {a b : Int} (h : a = b) : Ending.returned (.int k a) = .returned (.int k b) := by rw [h]

theorem un_lt (x : Int) : Srt.un x < 18446744073709551616 := by unfold Srt.un; omega
theorem wrap_un (x : Int) : IntKind.u64.wrap x = (Srt.un x : Int) := by rw [IntKind.wrap_u64]; unfold Srt.un; omega

theorem shr_un (x y : Int) (yk : IntKind) (h : 0 ≤ y) : Op.shift .shr .u64 (IntKind.u64.wrap x) yk y = pure (.int .u64 ((Srt.un x >>> y.toNat : Nat) : Int)) := by
  rw [shift_shr_any _ _ _ _ h, wrap_un]
  congr 2
  have hb : IntKind.u64.bits = 64 := rfl
  rw [hb, Nat.shiftRight_eq_div_pow]
  have hpow : ((2 : Int) ^ min y.toNat 64) = ((2 ^ min y.toNat 64 : Nat) : Int) := by simp
  rw [hpow, ← Int.natCast_ediv]
  congr 1
  by_cases hy : y.toNat ≤ 64
  · rw [Nat.min_eq_left hy]
  · rw [Nat.min_eq_right (by omega)]
    have h1 : Srt.un x < 2 ^ 64 := un_lt x
    rw [Nat.div_eq_of_lt h1, Nat.div_eq_of_lt (Nat.lt_of_lt_of_le h1 (Nat.pow_le_pow_right (by decide) (by omega)))]

theorem div_un (x y : Int) : IntKind.u64.wrap x / 2 ^ y.toNat = ((Srt.un x >>> y.toNat : Nat) : Int) := by
  rw [wrap_un, Nat.shiftRight_eq_div_pow]
  have hpow : ((2 : Int) ^ y.toNat) = ((2 ^ y.toNat : Nat) : Int) := by simp
  rw [hpow, ← Int.natCast_ediv]

theorem key_any (x lo hi : Int) (w : World) (h0 : 0 ≤ lo) (h1 : lo ≤ 256) (hh : lo < hi) :
    Calls Try.prog 21 #[.int .i64 x, .int .i64 lo, .int .i64 hi] w fun e w' => e = .returned (.int .u64 (Srt.key lo.toNat x)) ∧ w' = w := by
  have hs := shr_un x lo .u64 h0
  have hs' : Hid (∀ z : Int, z = ((Srt.un x >>> lo.toNat : Nat) : Int) → z = ((Srt.key lo.toNat x : Nat) : Int)) := fun z hz => hz
  go_enter Try.func21, Try.ntmps21
  go_wp2
  go_ret
  exact ⟨ret_int (hs'.out _ rfl), rfl⟩

theorem key_low (x lo hi : Int) (w : World) (hh : hi ≤ lo) :
    Calls Try.prog 21 #[.int .i64 x, .int .i64 lo, .int .i64 hi] w fun e w' => e = .returned (.int .u64 0) ∧ w' = w := by
  go_enter Try.func21, Try.ntmps21
  go_wp2
  go_ret
  exact ⟨rfl, rfl⟩

theorem dig_any (x lo d : Int) (w : World) (L : Nat) (h0 : 0 ≤ lo) (h1 : lo ≤ 256) (h2 : 0 ≤ d) (h3 : d ≤ 40) (hl : w.cell? ⟨L, 0, none⟩ = some (.int .i64 lo)) :
    Calls Try.prog 23 #[.int .i64 x, .int .i64 d, .pointer (some ⟨L, 0, none⟩)] w fun e w' => e = .returned (.int .u64 (Srt.dig lo.toNat d.toNat x)) ∧ w' = w := by
  have hs := shr_un x (lo + d * 8) .i64 (by omega)
  have hs' : Hid (((Srt.un x >>> (lo + d * 8).toNat : Nat) : Int) % 256 = ((Srt.dig lo.toNat d.toNat x : Nat) : Int)) := by
    unfold Srt.dig Hid
    rw [show (lo + d * 8).toNat = lo.toNat + d.toNat * 8 by omega]
    omega
  go_enter Try.func23, Try.ntmps23
  go_wp2
  go_ret
  exact ⟨ret_int hs'.out, rfl⟩

/-! ### zzClearAbove -/
/-- What zzClearAbove tells. -/
theorem clear_skip (v : Value) (lo hi : Int) (w : World) (h : hi ≤ lo ∨ 64 ≤ hi) :
    Calls Try.prog 15 #[v, .int .i64 lo, .int .i64 hi] w fun e w' => e = .returned (.bool true) ∧ w' = w := by
  by_cases h1 : hi ≤ lo
  · go_enter Try.func15, Try.ntmps15
    go_wp2
    go_ret
    exact ⟨rfl, rfl⟩
  · have h2 : 64 ≤ hi := by omega
    have hd : decide (hi ≤ lo) = false := decide_eq_false h1
    clear h
    go_enter Try.func15, Try.ntmps15
    go_wp2
    go_ret
    exact ⟨rfl, rfl⟩

/-- Below its bound. -/
def Clear (n : Nat) (f : Nat → Int) (hi : Nat) (k : Nat) : Prop := k ≤ n ∧ ∀ i, i < k → Srt.un (f i) >>> hi = 0

def ClearPost (n : Nat) (f : Nat → Int) (hi : Nat) (w : World) (e : Ending) (w' : World) : Prop :=
  (e = .returned (.bool false) ∨ (e = .returned (.bool true) ∧ Clear n f hi n)) ∧ w' = w

theorem clear_any (x : Addr) (n cap : Nat) (f : Nat → Int) (lo hi : Int) (w : World) (hn : n ≤ 4096) (hh : lo < hi) (h0 : 0 ≤ lo) (h1 : hi < 64) (hsrc : ∀ i, i < n → w.cell? (x.add i) = some (.int .i64 (f i))) :
    Calls Try.prog 15 #[.slice (some x) n cap, .int .i64 lo, .int .i64 hi] w (ClearPost n f hi.toNat w) := by
  obtain ⟨b, off, sp⟩ := x
  have hsp : 0 < n → sp = none := by
    intro h0
    have h0 := World.cell?_spot (hsrc 0 h0)
    simpa [Addr.add] using h0
  have HC : Hid (∀ i, i < n → w.cell? ⟨b, off + i, none⟩ = some (.int .i64 (f i))) := by
    intro i hi
    obtain rfl := hsp (by omega)
    have := hsrc i hi
    rw [add_plain] at this
    exact this
  clear hsrc
  have hd : decide (hi ≤ lo) = false := decide_eq_false (by omega)
  have hd2 : decide (64 ≤ hi) = false := decide_eq_false (by omega)
  go_enter Try.func15, Try.ntmps15
  go_wp2
  go_loop [7] (fun i => ∃ k : Nat, i = .int .i64 k ∧ Clear n f hi.toNat k) (fun i => n - (intOf i).toNat)
  case atStart => exact ⟨0, rfl, Nat.zero_le _, fun i hi => by omega⟩
  case round =>
    obtain ⟨k, rfl, hC⟩ := hrel
    have hk := hC.1
    by_cases hlt : k < n
    · obtain rfl := hsp (by omega)
      have hcell := HC.out k hlt
      cases hz : (IntKind.u64.wrap (f k) / 2 ^ hi.toNat != 0) with
      | true =>
        go_wp2
        go_ret
        exact ⟨.inl rfl, rfl⟩
      | false =>
        have hz' : Hid (Srt.un (f k) >>> hi.toNat = 0) := by
          have : ((Srt.un (f k) >>> hi.toNat : Nat) : Int) = 0 := by rw [← div_un]; simpa using hz
          show _ = _
          omega
        go_wp2
        go_round
        case rel =>
          refine ⟨k + 1, by go_num, by omega, fun i hi => ?_⟩
          by_cases e : i = k
          · subst e; exact hz'.out
          · exact hC.2 i (by omega)
        case measure => simp [intOf]; omega
    · go_wp2
      go_ret
      exact ⟨.inr ⟨rfl, by have e : k = n := by omega
                           subst e; exact hC⟩, rfl⟩

theorem clear_nil (lo hi : Int) (w : World) (hh : lo < hi) (h1 : hi < 64) :
    Calls Try.prog 15 #[.slice none 0 0, .int .i64 lo, .int .i64 hi] w fun e w' => e = .returned (.bool true) ∧ w' = w := by
  have hd : decide (hi ≤ lo) = false := decide_eq_false (by omega)
  have hd2 : decide (64 ≤ hi) = false := decide_eq_false (by omega)
  go_enter Try.func15, Try.ntmps15
  go_wp2
  go_loop [7] (fun i => i = .int .i64 0) (fun _ => 0)
  case atStart => rfl
  case round =>
    obtain rfl := hrel
    go_wp2
    go_ret
    exact ⟨rfl, rfl⟩
end Go.Proofs.Qxb6000725a.Small
