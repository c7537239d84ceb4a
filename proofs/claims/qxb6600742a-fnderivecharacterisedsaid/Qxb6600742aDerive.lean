/-
  Derive (10).
-/
import Derived.Test.Qxb6600742aDMem
import Derived.Test.Qxb6600742aDer
namespace Go.Proofs.Qxb6600742a.DMem
open Go.ChangeShapes Go.WideShapes Go.ChangeAt Go.RowKit
open Go.Proofs.Qxb6600742a.Der

def DerivePost (w : World) (n : Nat) (f g : Nat → Int) (e : Ending) (w' : World) : Prop :=
  ∃ M, e = .returned (.tuple #[.int .i8 (if mx g n = -1 then -1 else mx g n - 1), .map (some M)]) ∧ w.heap.size ≤ M ∧ MapIs w' M (keys f g (mx g n) n) ∧ Below w.heap.size w w'

def Rel2 (w : World) (M : Nat) (ks : List Int) (wr : World) : Prop := MapIs wr M ks ∧ Below w.heap.size w wr
theorem rel2_alloc {w wr : World} {M : Nat} {ks : List Int} (h : Rel2 w M ks wr) (o : Obj) : Rel2 w M ks (wr.alloc o) := ⟨h.1.alloc o, h.2.alloc h.2.size o⟩

set_option maxRecDepth 100000 in
set_option maxHeartbeats 2000000 in
theorem derive_any (O n : Nat) (f g : Nat → Int) (w : World) (hO : O < w.heap.size) (hn : n ≤ 4096) (hoff : Off w O n f g) (hg : ∀ i, i < n → -128 ≤ g i ∧ g i ≤ 127) (hf : ∀ i, i < n → (Lit.int .i64 (f i)).wf = true) :
    Calls Try.prog 10 #[.slice (some ⟨O, 0, none⟩) n n] w (DerivePost w n f g) := by
  have hmm := @run_makeMap Try.prog
  have HG : Hid (∀ i, i < n → -128 ≤ g i ∧ g i ≤ 127) := hg
  have HF : Hid (∀ i, i < n → (Lit.int .i64 (f i)).wf = true) := hf
  clear hg hf
  go_enter Try.func10, Try.ntmps10
  go_wp2
  go_loopw [4, 12] (fun hv iv wr => ∃ k : Nat, k ≤ n ∧ iv = .int .i64 k ∧ hv = .int .i8 (mx g k) ∧ Below w.heap.size w wr) (fun _ iv _ => n - (intOf iv).toNat)
  case atStart => exact ⟨0, Nat.zero_le _, rfl, rfl, Below.refl _ _⟩
  case round =>
    obtain ⟨k, hk, rfl, rfl, hB⟩ := hrel
    by_cases hlt : k < n
    · have ho := hoff.below hB hO
      have hx := ho.id hlt
      have hy := ho.lv hlt
      have hB' := hB.alloc hB.size (.cells #[.int .i64 (f k), .int .i8 (g k)] 33)
      have HS : Hid (mx g (k + 1) = if mx g k < g k then g k else mx g k) := rfl
      clear ho hB
      go_wp2
      go_roundw
      case rel => exact ⟨k + 1, by omega, by go_num, by rw [HS.out], hB'⟩
      case measure => simp [intOf]; omega
    · obtain rfl : k = n := by omega
      have hmk0 : Rel2 w wr.heap.size (keys f g (mx g k) 0) (wr.alloc (.map #[] 0)) := ⟨MapIs_made wr, hB.alloc hB.size _⟩
      have hMB := hB.size
      have hge := mx_ge g k
      have hle := mx_bd g k (fun i hi => (HG.out i hi).2)
      have HP : Hid (∀ e w', (∃ M, e = Ending.returned (.tuple #[.int .i8 (if mx g k = -1 then -1 else mx g k - 1), .map (some M)]) ∧ w.heap.size ≤ M ∧ MapIs w' M (keys f g (mx g k) k) ∧ Below w.heap.size w w') → DerivePost w k f g e w') := fun e w' h => h
      generalize hh : mx g k = h at *
      have HH : Hid (mx g k = h) := hh
      clear hh
      obtain ⟨M, hM⟩ : ∃ M, wr.heap.size = M := ⟨_, rfl⟩
      rw [hM] at hmk0 hMB
      have HM : Hid (wr.heap.size = M) := hM
      clear hM hB
      go_wp2_with fail
      rw [HM.out]
      go_loopw [24] (fun iv wr => ∃ j : Nat, j ≤ k ∧ iv = .int .i64 j ∧ Rel2 w M (keys f g h j) wr) (fun iv _ => k - (intOf iv).toNat)
      case atStart => exact ⟨0, Nat.zero_le _, rfl, hmk0⟩
      case round =>
        obtain ⟨j, hj, rfl, hR⟩ := hrel
        clear hmk0
        by_cases hjl : j < k
        · have ho := hoff.below hR.2 hO
          have hx := ho.id hjl
          have hy := ho.lv hjl
          have hRa := rel2_alloc hR (.cells #[.int .i64 (f j), .int .i8 (g j)] 33)
          have hwf := HF.out j hjl
          have hkl := keys_length f g h j
          clear ho hR
          cases hc : (g j == h) with
          | true =>
            have HK : Hid (keys f g h (j + 1) = keys f g h j ++ [f j]) := by
              show _ = _
              simp only [keys, if_pos (eq_of_beq hc)]
            obtain ⟨w1, hrun, hown1, hgrow1⟩ := World.ownsMap.update hRa.1 (Maps.int_keyed Try.underlying2) Try.underlying29 (by unfold maxLen; omega) (Maps.keyOf_int_mk Try.underlying2 hwf) (plainElem_bool Try.underlying4 true)
            have hN : Rel2 w M (keys f g h j ++ [f j]) w1 := ⟨MapIs.snoc hown1, hRa.2.grown hgrow1 hRa.2.size (fun q e => by cases e; exact hMB)⟩
            clear hown1 hgrow1 hRa
            go_wp2
            go_roundw
            case rel => exact ⟨j + 1, by omega, by go_num, by rw [HK.out]; exact hN⟩
            case measure => simp [intOf]; omega
          | false =>
            have HK : Hid (keys f g h (j + 1) = keys f g h j) := by
              show _ = _
              simp only [keys, if_neg (show ¬ g j = h by simpa using hc), List.append_nil]
            go_wp2
            go_roundw
            case rel => exact ⟨j + 1, by omega, by go_num, by rw [HK.out]; exact hRa⟩
            case measure => simp [intOf]; omega
        · obtain rfl : j = k := by omega
          cases hd : (h != -1) with
          | true =>
            have hne : ¬ h = -1 := by simpa using hd
            have HE : Hid ((if h = -1 then -1 else h - 1) = h - 1) := if_neg hne
            have hge0 : 0 ≤ h := by omega
            clear hne
            go_wp2
            go_ret2
            exact HP.out _ _ ⟨M, by rw [HE.out]; rfl, hMB, hR.1, hR.2⟩
          | false =>
            have he : h = -1 := by simpa using hd
            have HE : Hid ((if h = -1 then -1 else h - 1) = -1) := if_pos he
            clear he
            go_wp2
            go_ret2
            exact HP.out _ _ ⟨M, by rw [HE.out]; rfl, hMB, hR.1, hR.2⟩
end Go.Proofs.Qxb6600742a.DMem
