/-
  Nodes$1 (22): the iterator, at every loop body that counts one more in its own cell and says 'go on'.
-/
import Derived.Test.Qxb6002397aIter
namespace Go.Proofs.Qxb6002397a.Iter
open Go.ChangeShapes Go.WideShapes Go.ChangeAt Go.RowKit Go.Shelf
attribute [local go_sem] Oper.semAt_some

set_option maxRecDepth 100000 in
set_option maxHeartbeats 2000000 in
theorem iter_in (m T n cap : Nat) (a : Option Addr) (w W : World) (nc y : Int) (rec : Loop) (hT : T < w.heap.size) (hn : n ≤ 131072) (hy0 : 0 ≤ y) (hy1 : y ≤ 1000000000) (hrow : Row T w a n)
    (hY : ∀ (c yl x : Int) (W : World), St T w (.slice a n cap) nc rec c yl W → 0 ≤ c → c < n → YieldAt Fence.wide (m - 1) Try.prog (w.heap.size + 3) #[.int .i64 x] W fun e W' => e = .returned (.bool true) ∧ St T w (.slice a n cap) nc rec (c + 1) yl W')
    (h0 : St T w (.slice a n cap) nc rec 0 y W) :
    CallsIn Fence.wide m Try.prog 22 #[.func (.yield (w.heap.size + 3)) #[] #[], .pointer (some ⟨w.heap.size + 1, 0, none⟩)] W fun e W' => (∃ r, e = .returned r) ∧ St T w (.slice a n cap) nc rec n (y + n) W' := by
  refine callsIn_of_wp Try.func22 rfl trivial ?_ rfl
  simp only [Try.ntmps22, List.size_toArray, List.length_cons, List.length_nil, Nat.reduceAdd, Nat.reduceSub, Array.replicate_succ, Array.replicate_zero, List.push_toArray, List.append_toArray, List.nil_append, List.cons_append]
  have HY : Hid (∀ (c yl x : Int) (W : World), St T w (.slice a n cap) nc rec c yl W → 0 ≤ c → c < n → YieldAt Fence.wide (m - 1) Try.prog (w.heap.size + 3) #[.int .i64 x] W fun e W' => e = .returned (.bool true) ∧ St T w (.slice a n cap) nc rec (c + 1) yl W') := hY
  clear hY
  gi_wp2
  gi_loopw [3] (fun i wr => ∃ k : Nat, k ≤ n ∧ i = .int .i64 k ∧ St T w (.slice a n cap) nc rec k (y + k) wr) (fun i _ => n - (intOf i).toNat)
  case atStart => exact ⟨0, Nat.zero_le _, rfl, by simpa using h0⟩
  case round =>
    obtain ⟨k, hk, rfl, hS⟩ := hrel
    clear h0
    have hcb := hS.cb
    have hc0 := hS.sb.c0
    by_cases hlt : k < n
    · obtain ⟨R, rfl, hR1, hR2, f, hf⟩ := hrow (by omega)
      have hc5 := hS.sb.c5
      have hf5 := hS.sb.f5
      have hS5 := hS.set5 hT (y + k + 1)
      have hcb5 := hS5.cb
      have hc05 := hS5.sb.c0
      have hcx : (wr.setCell ⟨T, 5, none⟩ (.int .i64 (y + k + 1))).cell? ⟨R, k, none⟩ = some (.int .i64 (f k)) := (cell_of_same (hS5.g.block R hR1 hR2)).trans (hf k hlt)
      obtain ⟨fn, tmps, assign, body, hyl, hRd⟩ := HY.out k (y + k + 1) (f k) _ hS5 (by omega) (by omega)
      clear HY hS5 hf hrow hS
      gi_wp2
      refine ⟨fun h => by simp [Fence.wide] at h, hRd.mono ?_⟩
      rintro e W3 ⟨rfl, hS3⟩
      clear hRd hyl hcx hc05 hcb5 hc5 hc0 hcb hf5
      gi_wp2
      go_roundw
      case rel => exact ⟨k + 1, by omega, by go_num, by simpa [Int.add_assoc] using hS3⟩
      case measure => simp [intOf]; omega
    · gi_wp2
      go_end0
      obtain rfl : k = n := by omega
      exact ⟨⟨_, rfl⟩, hS⟩
end Go.Proofs.Qxb6002397a.Iter
