/-
  sortedByBits (22): its walk.
-/
import Derived.Test.Qxb6000725aRad2
import Derived.RegionTactic
import Derived.Deep.RegionWith
import Derived.BigRegion
namespace Go.Proofs.Qxb6000725a.Rad
open Go.ChangeShapes Go.WideShapes Go.ChangeAt Go.RowKit
open Go.Proofs.Qxb6000725a.Mem
open Go.Proofs.Qxb6000725a.Small (lst lst_length lst_succ lst_get)

theorem dig_at (x lo d : Int) (L v : Nat) (w : World) (h0 : 0 ≤ lo) (h1 : lo ≤ 256) (h2 : 0 ≤ d) (h3 : d ≤ 40) (hl : w.cell? ⟨L, 0, none⟩ = some (.int .i64 lo)) (hv : Hid (v = Srt.dig lo.toNat d.toNat x)) :
    Calls Try.prog 23 #[.int .i64 x, .int .i64 d, .pointer (some ⟨L, 0, none⟩)] w fun e w' => e = .returned (.int .u64 v) ∧ w' = w := by
  have := Small.dig_any x lo d w L h0 h1 h2 h3 hl
  rw [← hv.out] at this
  exact this

/-- What sortedByBits answers. -/
def Post (w : World) (b1 b2 n : Nat) (K : Int → Nat) (f : Nat → Int) (e : Ending) (w' : World) : Prop :=
  ∃ (a a' : Option Addr) (c c' b : Nat) (S : List Int), e = .returned (.tuple #[.slice a n c, .slice a' n c']) ∧ Srt.Stab K (lst n f) S ∧
    (0 < n → a = some ⟨b, 0, none⟩ ∧ (b = b1 ∨ b = b2)) ∧ Tab w' b n (fun t => S.getD t 0) ∧ Kept w b1 b2 w'

/-- The passes, behind d of them. -/
def Loop3 (w : World) (b1 b2 n : Nat) (lo : Int) (P : Nat) (f : Nat → Int) (a a' : Option Addr) (d : Nat) (wr : World) : Prop :=
  ∃ (bf bt : Nat) (S : List Int) (g C : Nat → Int), ((bf = b1 ∧ bt = b2) ∨ (bf = b2 ∧ bt = b1)) ∧ (0 < n → a = some ⟨bf, 0, none⟩ ∧ a' = some ⟨bt, 0, none⟩) ∧
    Srt.Stab (Srt.part lo.toNat d) (lst n f) S ∧ (∀ j, j < P * 256 → d ≤ j / 256 → C j = hist lo.toNat f n j) ∧ M w bf bt n lo P C (fun t => S.getD t 0) g wr

theorem loop3_start {w wr : World} {b1 b2 n : Nat} {lo : Int} {P : Nat} {f g : Nat → Int} {a a' : Option Addr} (h1 : 0 < n → a = some ⟨b1, 0, none⟩) (h2 : 0 < n → a' = some ⟨b2, 0, none⟩)
    (hM : M w b1 b2 n lo P (hist lo.toNat f n) f g wr) : Loop3 w b1 b2 n lo P f a a' 0 wr :=
  ⟨b1, b2, lst n f, g, _, .inl ⟨rfl, rfl⟩, fun h => ⟨h1 h, h2 h⟩, Srt.Stab_zero _ _, fun _ _ _ => rfl,
    ⟨hM.low, hM.cnt, hM.t1.congr fun t ht => (lst_get n f t ht).symm, hM.t2, hM.kept, hM.size⟩⟩

theorem loop3_end {w wr : World} {b1 b2 n : Nat} {lo : Int} {P : Nat} {f : Nat → Int} {a a' : Option Addr} (c c' : Nat) (h : Loop3 w b1 b2 n lo P f a a' P wr) :
    Post w b1 b2 n (Srt.part lo.toNat P) f (.returned (.tuple #[.slice a n c, .slice a' n c'])) wr := by
  obtain ⟨bf, bt, S, g, C, hb, ha, hS, _, hM⟩ := h
  refine ⟨a, a', c, c', bf, S, rfl, hS, fun hn => ⟨(ha hn).1, by omega⟩, hM.t1, ?_⟩
  rcases hb with ⟨rfl, rfl⟩ | ⟨rfl, rfl⟩
  · exact hM.kept
  · exact hM.kept.swap

theorem plc_start {lo d P n : Nat} {f C : Nat → Int} {S : List Int} (hp : S.Perm (lst n f)) (hC : ∀ j, j < P * 256 → d ≤ j / 256 → C j = hist lo f n j) : ∀ j, j < P * 256 → C j = plc lo S d 0 C j := by
  intro j hj
  unfold plc
  by_cases h : j / 256 = d
  · rw [if_pos h, if_neg (by omega), hC j hj (by omega), hist, h, Srt.cnt_perm hp]
  · rw [if_neg h]

theorem pass_end {w wr : World} {b1 b2 n : Nat} {lo : Int} {P : Nat} {f : Nat → Int} {a a' : Option Addr} {d bf bt : Nat} {S : List Int} {g C : Nat → Int}
    (hb : (bf = b1 ∧ bt = b2) ∨ (bf = b2 ∧ bt = b1)) (ha : 0 < n → a = some ⟨bf, 0, none⟩ ∧ a' = some ⟨bt, 0, none⟩) (hS : Srt.Stab (Srt.part lo.toNat d) (lst n f) S)
    (hC : ∀ j, j < P * 256 → d ≤ j / 256 → C j = hist lo.toNat f n j) (hg : Srt.Placed (Srt.dig lo.toNat d) S n g) (hM : M w bf bt n lo P (nxt lo.toNat S d n C) (fun t => S.getD t 0) g wr) :
    Loop3 w b1 b2 n lo P f a' a (d + 1) wr := by
  have hl : S.length = n := by rw [Srt.Stab_length hS, lst_length]
  refine ⟨bt, bf, Srt.flat (Srt.dig lo.toNat d) S 256, _, _, by omega, fun hn => ⟨(ha hn).2, (ha hn).1⟩, Srt.Stab_step hS, ?_, ⟨hM.low, hM.cnt, hM.t2.congr fun t ht => ?_, hM.t1, hM.kept.swap, hM.size⟩⟩
  · intro j hj hdj
    unfold nxt
    rw [if_neg (by omega)]
    exact hC j hj (by omega)
  · rw [← hl] at hg
    exact Srt.Placed_end hg (Srt.dig_lt _ _) t (by omega)

set_option maxHeartbeats 1000000 in
set_option maxRecDepth 100000 in
theorem radix (a1 a2 : Option Addr) (c1 c2 b1 b2 n P : Nat) (lo hi : Int) (f g : Nat → Int) (w : World)
    (ha1 : 0 < n → a1 = some ⟨b1, 0, none⟩) (ha2 : 0 < n → a2 = some ⟨b2, 0, none⟩) (hT : Two w b1 b2 n) (t1 : Tab w b1 n f) (t2 : Tab w b2 n g)
    (hn : n ≤ 4096) (hlo : 0 ≤ lo) (hlo2 : lo ≤ 256) (hhi : -65536 ≤ hi) (hhi2 : hi ≤ 256) (hp0 : 0 ≤ hi - lo + 8 - 1) (hPe : (hi - lo + 8 - 1) / 8 = (P : Int)) (hP2 : P ≤ 32) :
    Calls Try.prog 22 #[.slice a1 n c1, .slice a2 n c2, .int .i64 lo, .int .i64 hi] w (Post w b1 b2 n (Srt.part lo.toNat P) f) := by
  have hmk := make_counts P (by omega)
  have hM := M_start w b1 b2 n lo P f g t1 t2
  have hM0 : M w b1 b2 n lo P (hist lo.toNat f 0) f g ((w.alloc (.cells #[.int .i64 lo] 3)).alloc (.cells (zz (P * 256)) 43)) := hM.congr fun j _ => by simp [hist, lst, Srt.cnt]
  clear hM
  go_enter Try.func22, Try.ntmps22
  go_wp2_with fail
  rw [hPe]
  clear hPe
  go_loopw [38] (fun iv wr => ∃ i : Nat, i ≤ n ∧ iv = .int .i64 i ∧ M w b1 b2 n lo P (hist lo.toNat f i) f g wr) (fun iv _ => n - (intOf iv).toNat)
  case atStart => exact ⟨0, Nat.zero_le _, rfl, hM0⟩
  case round =>
    obtain ⟨i, hi1, rfl, hM⟩ := hrel
    clear hM0 hmk
    by_cases hlt : i < n
    · have hcell := hM.t1.cell hlt
      obtain rfl := ha1 (by omega)
      have hH : M w b1 b2 n lo P (hist2 lo.toNat f i 0) f g wr := hM.congr fun j _ => by simp [hist2]
      clear hM
      go_wp2_with fail
      go_loopw [44] (fun dv wr => ∃ d : Nat, d ≤ P ∧ dv = .int .i64 d ∧ M w b1 b2 n lo P (hist2 lo.toNat f i d) f g wr) (fun dv _ => P - (intOf dv).toNat)
      case atStart => exact ⟨0, Nat.zero_le _, rfl, hH⟩
      case round =>
        obtain ⟨d, hd1, rfl, hM⟩ := hrel
        clear hH hcell
        by_cases hdl : d < P
        · obtain ⟨v, hv⟩ : ∃ v, v = Srt.dig lo.toNat d (f i) := ⟨_, rfl⟩
          have hv256 : v < 256 := by rw [hv]; exact Srt.dig_lt _ _ _
          have hlow := hM.low.cell (i := 0) (by omega)
          have hcc := hM.cnt.cell (i := d * 256 + v) (by omega)
          have hcf := hM.cnt.free (i := d * 256 + v) (by omega)
          have hob := hist_bound lo.toNat f i d (d * 256 + v) n hlt
          obtain ⟨o, ho⟩ : ∃ o, o = hist2 lo.toNat f i d (d * 256 + v) := ⟨_, rfl⟩
          rw [← ho] at hcc hob
          have hMn : M w b1 b2 n lo P (hist2 lo.toNat f i (d + 1)) f g (wr.setCell ⟨w.heap.size + 1, d * 256 + v, none⟩ (.int .i64 (o + 1))) :=
            (hM.setC hT (d * 256 + v) (o + 1)).congr fun j _ => by rw [ho, hv]; exact hist_step lo.toNat f i d j
          have HV : Hid (v = Srt.dig lo.toNat (d : Int).toNat (f i)) := by rw [Int.toNat_natCast]; exact hv
          obtain ⟨hob1, hob2⟩ := hob
          clear ho hv hM t1 t2
          go_wp2_with fail
          go_region_with (go_at_call 23; refine (dig_at (f i) lo d w.heap.size v _ hlo hlo2 (by omega) (by omega) (by exact hlow) HV).mono ?_; rintro e w' ⟨rfl, rfl⟩)
          have ew : IntKind.i64.wrap (o + 1) = o + 1 := by rw [IntKind.wrap_i64]; omega
          rw [ew]
          have hMd := hMn.drew
          clear hMn ew
          go_wp2
          go_roundw
          case rel => exact ⟨d + 1, by omega, by go_num, hMd⟩
          case measure => simp [intOf]; omega
        · have hMn : M w b1 b2 n lo P (hist lo.toNat f (i + 1)) f g wr := hM.congr fun j hj => by
            have : j / 256 < d := by omega
            simp [hist2, this]
          clear hM
          go_wp2
          go_roundw
          case rel => exact ⟨i + 1, by omega, by go_num, hMn⟩
          case measure => simp [intOf]; omega
    · obtain rfl : i = n := by omega
      clear t1 t2
      have HL := loop3_start ha1 ha2 hM
      clear hM ha1 ha2
      go_wp2_with fail
      go_loopw [16, 17, 65] (fun fv tv dv wr => ∃ (a a' : Option Addr) (c c' d : Nat), d ≤ P ∧ fv = .slice a i c ∧ tv = .slice a' i c' ∧ dv = .int .i64 d ∧ Loop3 w b1 b2 i lo P f a a' d wr) (fun _ _ dv _ => P - (intOf dv).toNat)
      case atStart => exact ⟨_, _, _, _, 0, Nat.zero_le _, rfl, rfl, rfl, HL⟩
      case round =>
        obtain ⟨a, a', c, c', d, hdP, rfl, rfl, rfl, hL⟩ := hrel
        clear HL
        by_cases hdl : d < P
        · obtain ⟨bf, bt, S, g4, C, hb, ha, hS, hC, hM⟩ := hL
          have hT' : Two w bf bt i := by
            rcases hb with ⟨rfl, rfl⟩ | ⟨rfl, rfl⟩
            · exact hT
            · exact hT.swap
          have hSl : S.length = i := by rw [Srt.Stab_length hS, lst_length]
          have hM4 := hM.congr (plc_start (Srt.Stab_perm hS) hC)
          have HC : Hid (∀ j, j < P * 256 → d ≤ j / 256 → C j = hist lo.toNat f i j) := hC
          have HB : Hid ((bf = b1 ∧ bt = b2) ∨ (bf = b2 ∧ bt = b1)) := hb
          have HSl : Hid (S.length = i) := hSl
          clear hM hC hb hSl
          go_wp2_with fail
          go_loopw [20, 72] (fun pv vv wr => ∃ v : Nat, v ≤ 256 ∧ vv = .int .i64 v ∧ pv = .int .i64 ((Srt.pre (Srt.dig lo.toNat d) S v : Nat) : Int) ∧ M w bf bt i lo P (plc lo.toNat S d v C) (fun t => S.getD t 0) g4 wr) (fun _ vv _ => 256 - (intOf vv).toNat)
          case atStart => exact ⟨0, by omega, rfl, rfl, hM4⟩
          case round =>
            obtain ⟨v, hv, rfl, rfl, hM⟩ := hrel
            clear hM4
            by_cases hvl : v < 256
            · have hcc := hM.cnt.cell (i := d * 256 + v) (by omega)
              rw [plc_at _ _ _ _ hvl] at hcc
              have hcf := hM.cnt.free (i := d * 256 + v) (by omega)
              have hpre : Srt.pre (Srt.dig lo.toNat d) S v + Srt.cnt (Srt.dig lo.toNat d) S v ≤ i := by
                have := Srt.pre_le (Srt.dig lo.toNat d) S (v + 1)
                rw [HSl.out] at this
                simpa [Srt.pre] using this
              have hMn := (hM.setC hT' (d * 256 + v) (Srt.pre (Srt.dig lo.toNat d) S v : Nat)).congr (fun j _ => plc_step lo.toNat S d v hvl C j)
              have hsucc : Hid (((Srt.pre (Srt.dig lo.toNat d) S v : Nat) : Int) + ((Srt.cnt (Srt.dig lo.toNat d) S v : Nat) : Int) = ((Srt.pre (Srt.dig lo.toNat d) S (v + 1) : Nat) : Int)) := by
                show _ = _
                simp [Srt.pre]
              generalize Srt.pre (Srt.dig lo.toNat d) S v = p at *
              generalize Srt.cnt (Srt.dig lo.toNat d) S v = q at *
              clear hM
              go_wp2_with fail
              go_quiet (fail)
              go_wp2
              go_roundw
              case rel => exact ⟨v + 1, by omega, by go_num, by rw [hsucc.out], hMn.drewN _⟩
              case measure => simp [intOf]; omega
            · have hM5 : M w bf bt i lo P (nxt lo.toNat S d 0 C) (fun t => S.getD t 0) g4 wr := hM.congr fun j _ => by
                have e : v = 256 := by omega
                rw [e]; exact nxt_zero lo.toNat S d C j
              have hdv : decide ((v : Int) < 256) = false := decide_eq_false (by omega)
              have hpl := Srt.Placed_zero (Srt.dig lo.toNat d) S g4
              clear hM
              go_wp2_with fail
              go_loopw [89] (fun kv wr => ∃ (k : Nat) (g5 : Nat → Int), k ≤ i ∧ kv = .int .i64 k ∧ Srt.Placed (Srt.dig lo.toNat d) S k g5 ∧ M w bf bt i lo P (nxt lo.toNat S d k C) (fun t => S.getD t 0) g5 wr) (fun kv _ => i - (intOf kv).toNat)
              case atStart => exact ⟨0, g4, by omega, rfl, hpl, hM5⟩
              case round =>
                obtain ⟨k, g5, hk, rfl, hpl5, hM⟩ := hrel
                clear hM5 hpl
                by_cases hkl : k < i
                · obtain ⟨rfl, rfl⟩ := ha (by omega)
                  have hT2 := hT' (by omega)
                  have hcx := hM.t1.cell hkl
                  have hlow := hM.low.cell (i := 0) (by omega)
                  have hkS : k < S.length := by rw [HSl.out]; exact hkl
                  have hpos := Srt.place_lt (Srt.dig lo.toNat d) S k hkS
                  rw [HSl.out] at hpos
                  obtain ⟨x, hx⟩ : ∃ x, x = S.getD k 0 := ⟨_, rfl⟩
                  obtain ⟨v, hv⟩ : ∃ v, v = Srt.dig lo.toNat d x := ⟨_, rfl⟩
                  have hv256 : v < 256 := by rw [hv]; exact Srt.dig_lt _ _ _
                  have hcc := hM.cnt.cell (i := d * 256 + v) (by omega)
                  rw [nxt_at _ _ _ _ _ hv256] at hcc
                  have hcf := hM.cnt.free (i := d * 256 + v) (by omega)
                  have hst := nxt_step lo.toNat S d k hkS C
                  have hps := Srt.Placed_step hpl5 hkS
                  rw [← hx, ← hv] at hpos hst hps
                  rw [nxt_at _ _ _ _ _ hv256] at hst
                  rw [← hx] at hcx
                  generalize hp : Srt.pre (Srt.dig lo.toNat d) S v + Srt.cnt (Srt.dig lo.toNat d) (S.take k) v = p at *
                  have hbc := hM.t2.cell hpos
                  have hbf := hM.t2.free hpos
                  have hM6 := hM.set2 hT' (by omega) p x
                  have hcc6 := hM6.cnt.cell (i := d * 256 + v) (by omega)
                  rw [nxt_at _ _ _ _ _ hv256, hp] at hcc6
                  have hcf6 := hM6.cnt.free (i := d * 256 + v) (by omega)
                  have hM7 := (hM6.setC hT' (d * 256 + v) ((p : Int) + 1)).congr (fun j _ => hst j)
                  have hpl7 := hps (upd g5 p x) (fun q => rfl)
                  have HV : Hid (v = Srt.dig lo.toNat (d : Int).toNat x) := by rw [Int.toNat_natCast]; exact hv
                  clear hst hps hM hM6 hv hx hpl5 hp
                  go_wp2_with (go_at_call 23; refine (dig_at x lo d w.heap.size v _ hlo hlo2 (by omega) (by omega) (by exact hlow) HV).mono ?_; rintro e w' ⟨rfl, rfl⟩)
                  clear hlow hcx hcf hcc hbc hbf
                  rename_i w'
                  generalize w'.setCell ⟨bt, p, none⟩ (.int .i64 x) = w6 at *
                  go_region
                  have hMd := hM7.drew
                  clear hM7
                  go_wp2
                  go_roundw
                  case rel => exact ⟨k + 1, _, by omega, by go_num, hpl7, hMd⟩
                  case measure => simp [intOf]; omega
                · obtain rfl : k = i := by omega
                  have hN := pass_end HB.out ha hS HC.out hpl5 hM
                  clear hM hpl5
                  go_wp2
                  go_roundw
                  case rel => exact ⟨_, _, _, _, d + 1, by omega, rfl, rfl, by go_num, hN⟩
                  case measure => simp [intOf]; omega
        · obtain rfl : d = P := by omega
          go_wp2
          go_ret2
          exact loop3_end _ _ hL
end Go.Proofs.Qxb6000725a.Rad
