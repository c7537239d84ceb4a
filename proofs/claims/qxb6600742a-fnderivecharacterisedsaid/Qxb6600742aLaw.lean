/-
  FnDeriveCharacterised (3): its walk.
-/
import Derived.Test.Qxb6600742aOffers
import Derived.Test.Qxb6600742aDerive
namespace Go.Proofs.Qxb6600742a.DMem
open Go.ChangeShapes Go.WideShapes Go.ChangeAt Go.RowKit
open Go.Proofs.Qxb6600742a.Der

/-- Has one of the first i offers the level h? -/
def seenTo (g : Nat → Int) (h : Int) : Nat → Bool
  | 0 => false
  | i + 1 => if g i = h then true else seenTo g h i
theorem seenTo_of (g : Nat → Int) (h : Int) : ∀ n i, i < n → g i = h → seenTo g h n = true := by
  intro n
  induction n with
  | zero => intro i hi; omega
  | succ n ih =>
    intro i hi e
    simp only [seenTo]
    by_cases e2 : g n = h
    · rw [if_pos e2]
    · rw [if_neg e2]
      refine ih i ?_ e
      have : i ≠ n := fun q => e2 (q ▸ e)
      omega

/-- The memory of the law: the offers in block O, the map in block M, the row of bools in block R. -/
structure LM (w : World) (O M R n : Nat) (f g : Nat → Int) (ks : List Int) (tf : Nat → Bool) (wr : World) : Prop where
  off : Off wr O n f g
  map : MapIs wr M ks
  row : TabB wr R n tf
  below : Below w.heap.size w wr
theorem LM.drewN {w : World} {O M R n : Nat} {f g : Nat → Int} {ks : List Int} {tf : Nat → Bool} {wr : World} (h : LM w O M R n f g ks tf wr) (q : Nat) : LM w O M R n f g ks tf (wr.drewN q) :=
  ⟨h.off, h.map, h.row, ⟨h.below.os, h.below.tape, h.below.output, h.below.size, h.below.block⟩⟩
theorem LM.set {w : World} {O M R n : Nat} {f g : Nat → Int} {ks : List Int} {tf : Nat → Bool} {wr : World} (h : LM w O M R n f g ks tf wr) (hO : O ≠ R) (hM : M ≠ R) (hR : w.heap.size ≤ R) (j : Nat) (v : Bool) :
    LM w O M R n f g ks (updB tf j v) (wr.setCell ⟨R, j, none⟩ (.bool v)) := by
  have ne : ∀ i, (wr.setCell ⟨R, j, none⟩ (.bool v)).cell? ⟨O, i, none⟩ = wr.cell? ⟨O, i, none⟩ := fun i => World.cell?_setCell_other _ _ _ _ (by intro e; apply hO; injection e with e1 _; exact e1.symm)
  exact ⟨fun i hi => ⟨(ne _).trans (h.off i hi).1, (ne _).trans (h.off i hi).2⟩, h.map.same (Below.heap_setCell _ _ _ _ hM), h.row.set j v, h.below.setCell hR _⟩
theorem LM.congr {w : World} {O M R n : Nat} {f g : Nat → Int} {ks : List Int} {tf tf' : Nat → Bool} {wr : World} (h : LM w O M R n f g ks tf wr) (e : ∀ i, i < n → tf i = tf' i) : LM w O M R n f g ks tf' wr :=
  ⟨h.off, h.map, h.row.congr e, h.below⟩

theorem LM_start {w wr : World} {O M n : Nat} {f g : Nat → Int} {ks : List Int} (h1 : Off wr O n f g) (hO : O < wr.heap.size) (h2 : MapIs wr M ks) (h3 : Below w.heap.size w wr) (e : ∀ i, i < n → false = (fun t => if t < 0 then topTo g t n else false) i) :
    LM w O M wr.heap.size n f g ks (fun t => if t < 0 then topTo g t n else false) (wr.alloc (.cells (zb n) 4)) := by
  refine LM.congr (tf := fun _ => false) ⟨fun i hi => ⟨?_, ?_⟩, h2.alloc _, TabB_made wr n, h3.alloc h3.size _⟩ e
  · rw [World.cell?_alloc_past _ _ _ hO]; exact (h1 i hi).1
  · rw [World.cell?_alloc_past _ _ _ hO]; exact (h1 i hi).2

theorem tf_next (g : Nat → Int) (n i : Nat) : ∀ t, updB (fun t => if t < i then topTo g t n else false) i (topTo g i n) t = (fun t => if t < i + 1 then topTo g t n else false) t := by
  intro t
  unfold updB
  by_cases e : t = i
  · subst e; simp
  · by_cases e2 : t < i
    · simp [e, e2, show t < i + 1 by omega]
    · simp [e, e2, show ¬ t < i + 1 by omega]

theorem bytes_ok (a0 a1 : Option Addr) (n0 c0 n1 c1 : Nat) (w : World) (h0 : n0 ≤ 4096) (h1 : n1 ≤ 4096) : Calls Try.prog 8 #[.slice a0 n0 c0, .slice a1 n1 c1] w fun e w' => e = .returned (.bool true) ∧ w = w' := by
  go_enter Try.func8, Try.ntmps8
  go_wp2
  go_ret
  exact ⟨rfl, rfl⟩

theorem nil_map (M : Nat) (w : World) : (binOp .eql 29 (.map (some M)) (.map none)).run Try.prog w = .ok (.bool false) w := by
  have := run_eql_map_nil (P := Try.prog) w 29 2 4 (some M) Try.underlying29
  simpa using this

set_option maxRecDepth 100000 in
set_option maxHeartbeats 4000000 in
theorem law_low (a0 a1 : Option Addr) (n0 c0 n1 c1 n : Nat) (f g : Nat → Int) (w : World) (hn0 : n0 ≤ 4096) (hn1 : n1 ≤ 4096) (hn : n = min n0 n1) (h0 : Src .i64 w a0 n f) (h1 : Src .i8 w a1 n g)
    (hg : ∀ i, i < n → -128 ≤ g i ∧ g i ≤ 127) (hf : ∀ i, i < n → (Lit.int .i64 (f i)).wf = true) (hlow : mx g n ≤ 0) :
    Calls Try.prog 3 #[.slice a0 n0 c0, .slice a1 n1 c1] w fun e w' => e = .returned (.bool true) ∧ Below w.heap.size w w' := by
  have hn4 : n ≤ 4096 := by omega
  have hmk := make_bools n (by omega)
  have hd0 : decide ((4096 : Int) < (n0 : Int)) = false := decide_eq_false (by omega)
  have hd1 : decide ((4096 : Int) < (n1 : Int)) = false := decide_eq_false (by omega)
  have HG : Hid (∀ i, i < n → -128 ≤ g i ∧ g i ≤ 127) := hg
  have HF : Hid (∀ i, i < n → (Lit.int .i64 (f i)).wf = true) := hf
  have HN : Hid (n = min n0 n1) := hn
  clear hg hf hn
  go_enter Try.func3, Try.ntmps3
  go_wp2_with (go_at_call 8; refine (bytes_ok _ _ _ _ _ _ _ (by omega) (by omega)).mono ?_; rintro e w' ⟨rfl, rfl⟩)
  refine (offers_any a0 a1 n0 c0 n1 c1 n f g w hn0 hn1 HN.out h0 h1).mono ?_
  rintro e w1 ⟨rfl, ho1, hb1, hz1⟩
  go_wp2_with fail
  refine (derive_any w.heap.size n f g w1 (by omega) hn4 ho1 HG.out HF.out).mono ?_
  rintro e w2 ⟨M, rfl, hM, hm2, hb2⟩
  have ho2 := ho1.below hb2 (by omega)
  have hnil := nil_map M
  have hB2 : Below w.heap.size w w2 := hb1.trans (hb2.mono (by omega))
  have hzz : w1.heap.size ≤ w2.heap.size := hb2.size
  have hMl := hm2.lt
  have hge := mx_ge g n
  have hbd := mx_bd g n (fun i hi => (HG.out i hi).2)
  have HLE : Hid (∀ i, i < n → g i ≤ mx g n) := mx_le g n
  have HHIT : Hid (mx g n = -1 ∨ ∃ i, i < n ∧ g i = mx g n) := mx_hit g n
  have HWANT : Hid (∀ i, wantTo f (fun k => topTo g k n) i n = (keys f g (mx g n) n).contains (f i)) := want_keys f g n
  have HCNT : Hid (cntTo f g n n = sz (keys f g (mx g n) n)) := cnt_of f g n sz sz_nil sz_snoc n (Nat.le_refl _)
  have HFST : Hid (∀ i, i < n → topTo g i n = true → firstTo f (fun k => topTo g k n) i n = !(keys f g (mx g n) i).contains (f i)) := fun i hi _ => first_keys f g n i hi
  generalize hks : keys f g (mx g n) n = ks at *
  clear hks HFST hb1 hb2 ho1
  have HL : Hid ((if mx g n = -1 then (-1 : Int) else mx g n - 1) = -1) := by
    show _ = _
    split <;> omega
  rw [HL.out]
  clear HL
  go_wp2_with fail
  go_loop [10] (fun iv => ∃ i : Nat, i ≤ n ∧ iv = .int .i64 i) (fun iv => n - (intOf iv).toNat)
  case atStart => exact ⟨0, Nat.zero_le _, rfl⟩
  case round =>
    obtain ⟨i, hi, rfl⟩ := hrel
    by_cases hlt : i < n
    · have hy := ho2.lv hlt
      have hle := HLE.out i hlt
      have hgb := HG.out i hlt
      have hno : g i < 1 := by omega
      clear hle
      go_wp2
      go_round
      case rel => exact ⟨i + 1, by omega, by go_num⟩
      case measure => simp [intOf]; omega
    · go_wp2_with fail
      have hL := LM_start (w := w) ho2 (by omega) hm2 hB2 (fun t _ => by simp)
      have hOR : w.heap.size ≠ w2.heap.size := by omega
      have hMR : M ≠ w2.heap.size := by omega
      have hRw : w.heap.size ≤ w2.heap.size := by omega
      clear ho2 hm2 hB2 h0 h1 hmk HHIT HLE HN hnil
      generalize w2.alloc (.cells (zb n) 4) = w3 at *
      generalize w2.heap.size = R at *
      go_loopw [15] (fun iv wr => ∃ p : Nat, p ≤ n ∧ iv = .int .i64 p ∧ LM w w.heap.size M R n f g ks (fun t => if t < p then topTo g t n else false) wr) (fun iv _ => n - (intOf iv).toNat)
      case atStart => exact ⟨0, Nat.zero_le _, rfl, hL⟩
      case round =>
        clear hL
        obtain ⟨p, hp, rfl, hR⟩ := hrel
        by_cases hpl : p < n
        · have hy := hR.off.lv hpl
          have hgp := HG.out p hpl
          go_wp2_with fail
          go_loopw [16, 17] (fun tv jv wr => ∃ j : Nat, j ≤ n ∧ jv = .int .i64 j ∧ tv = .bool (topTo g p j) ∧ LM w w.heap.size M R n f g ks (fun t => if t < p then topTo g t n else false) wr) (fun _ jv _ => n - (intOf jv).toNat)
          case atStart => exact ⟨0, Nat.zero_le _, rfl, rfl, hR⟩
          case round =>
            clear hR hy
            obtain ⟨j, hj, rfl, rfl, hR⟩ := hrel
            by_cases hjl : j < n
            · have hy1 := hR.off.lv hjl
              have hy2 := hR.off.lv hpl
              have hgj := HG.out j hjl
              have hjn : (j : Int) < (n : Int) := by omega
              have hpn : (p : Int) < (n : Int) := by omega
              by_cases hc : g p < g j
              · have HS : Hid (topTo g p (j + 1) = false) := if_pos hc
                go_wp2
                go_quiet (fail)
                go_wp2
                go_roundw
                case rel => exact ⟨j + 1, by omega, by go_num, by rw [HS.out], hR.drewN _⟩
                case measure => simp [intOf]; omega
              · have HS : Hid (topTo g p (j + 1) = topTo g p j) := if_neg hc
                go_wp2
                go_quiet (fail)
                go_wp2
                go_roundw
                case rel => exact ⟨j + 1, by omega, by go_num, by rw [HS.out], hR.drewN _⟩
                case measure => simp [intOf]; omega
            · obtain rfl : j = n := by omega
              have hc1 := hR.row.cell hpl
              have hf1 := hR.row.free hpl
              have hN := (hR.set hOR hMR hRw p (topTo g p j)).congr (fun t _ => tf_next g j p t)
              clear hR
              go_wp2
              go_roundw
              case rel => exact ⟨p + 1, by omega, by go_num, hN⟩
              case measure => simp [intOf]; omega
        · have hR5 : LM w w.heap.size M R n f g ks (fun t => topTo g t n) wr := hR.congr (fun t ht => by
            have : t < p := by omega
            simp [this])
          clear hR
          go_wp2_with fail
          go_loopw [18, 19] (fun cv iv wr => ∃ q : Nat, q ≤ n ∧ iv = .int .i64 q ∧ cv = .int .i64 ((cntTo f g n q : Nat) : Int) ∧ LM w w.heap.size M R n f g ks (fun t => topTo g t n) wr) (fun _ iv _ => n - (intOf iv).toNat)
          case atStart => exact ⟨0, Nat.zero_le _, rfl, rfl, hR5⟩
          case round =>
            clear hR5
            obtain ⟨q, hq, rfl, rfl, hR⟩ := hrel
            have hcl := cntTo_le f g n q
            by_cases hql : q < n
            · have HCS : Hid (cntTo f g n (q + 1) = cntTo f g n q + if topTo g q n = true ∧ firstTo f (fun k => topTo g k n) q n = true then 1 else 0) := rfl
              generalize cntTo f g n q = C at *
              go_wp2_with fail
              go_loopw [20, 21, 22] (fun wv fv kv wr => ∃ k : Nat, k ≤ n ∧ kv = .int .i64 k ∧ wv = .bool (wantTo f (fun k => topTo g k n) q k) ∧ fv = .bool (firstTo f (fun k => topTo g k n) q k) ∧ LM w w.heap.size M R n f g ks (fun t => topTo g t n) wr) (fun _ _ kv _ => n - (intOf kv).toNat)
              case atStart => exact ⟨0, Nat.zero_le _, rfl, rfl, rfl, hR⟩
              case round =>
                clear hR
                obtain ⟨k, hk, rfl, rfl, rfl, hR⟩ := hrel
                by_cases hkl : k < n
                · have hx1 := hR.off.id hkl
                  have hx2 := hR.off.id hql
                  have hr1 := hR.row.cell hkl
                  have hkn : (k : Int) < (n : Int) := by omega
                  have hqn : (q : Int) < (n : Int) := by omega
                  have HW : Hid (wantTo f (fun k => topTo g k n) q (k + 1) = if f k = f q ∧ topTo g k n = true then true else wantTo f (fun k => topTo g k n) q k) := rfl
                  have HFi : Hid (firstTo f (fun k => topTo g k n) q (k + 1) = if (f k = f q ∧ topTo g k n = true) ∧ k < q then false else firstTo f (fun k => topTo g k n) q k) := rfl
                  generalize wantTo f (fun k => topTo g k n) q k = Wk at *
                  generalize firstTo f (fun k => topTo g k n) q k = Fk at *
                  cases hqe : (f k == f q) with
                  | true =>
                    have he : f k = f q := eq_of_beq hqe
                    cases ht : topTo g k n with
                    | true =>
                      by_cases hkq : k < q
                      · have HW1 : Hid (wantTo f (fun k => topTo g k n) q (k + 1) = true) := HW.out.trans (if_pos ⟨he, ht⟩)
                        have HF1 : Hid (firstTo f (fun k => topTo g k n) q (k + 1) = false) := HFi.out.trans (if_pos ⟨⟨he, ht⟩, hkq⟩)
                        clear HW HFi he
                        rw [ht] at hr1
                        clear ht
                        go_wp2
                        go_quiet (fail)
                        go_wp2
                        go_roundw
                        case rel => exact ⟨k + 1, by omega, by go_num, by rw [HW1.out], by rw [HF1.out], hR.drewN _⟩
                        case measure => simp [intOf]; omega
                      · have HW1 : Hid (wantTo f (fun k => topTo g k n) q (k + 1) = true) := HW.out.trans (if_pos ⟨he, ht⟩)
                        have HF1 : Hid (firstTo f (fun k => topTo g k n) q (k + 1) = Fk) := HFi.out.trans (if_neg (fun h => hkq h.2))
                        clear HW HFi he
                        rw [ht] at hr1
                        clear ht
                        go_wp2
                        go_quiet (fail)
                        go_wp2
                        go_roundw
                        case rel => exact ⟨k + 1, by omega, by go_num, by rw [HW1.out], by rw [HF1.out], hR.drewN _⟩
                        case measure => simp [intOf]; omega
                    | false =>
                      have HW1 : Hid (wantTo f (fun k => topTo g k n) q (k + 1) = Wk) := HW.out.trans (if_neg (fun h => by rw [ht] at h; exact absurd h.2 (by decide)))
                      have HF1 : Hid (firstTo f (fun k => topTo g k n) q (k + 1) = Fk) := HFi.out.trans (if_neg (fun h => by rw [ht] at h; exact absurd h.1.2 (by decide)))
                      clear HW HFi he
                      rw [ht] at hr1
                      clear ht
                      go_wp2
                      go_quiet (fail)
                      go_wp2
                      go_roundw
                      case rel => exact ⟨k + 1, by omega, by go_num, by rw [HW1.out], by rw [HF1.out], hR.drewN _⟩
                      case measure => simp [intOf]; omega
                  | false =>
                    have he : ¬ f k = f q := by simpa using hqe
                    have HW1 : Hid (wantTo f (fun k => topTo g k n) q (k + 1) = Wk) := HW.out.trans (if_neg (fun h => he h.1))
                    have HF1 : Hid (firstTo f (fun k => topTo g k n) q (k + 1) = Fk) := HFi.out.trans (if_neg (fun h => he h.1.1))
                    clear HW HFi he
                    go_wp2
                    go_quiet (fail)
                    go_wp2
                    go_roundw
                    case rel => exact ⟨k + 1, by omega, by go_num, by rw [HW1.out], by rw [HF1.out], hR.drewN _⟩
                    case measure => simp [intOf]; omega
                · obtain rfl : k = n := by omega
                  have hx2 := hR.off.id hql
                  have hr2 := hR.row.cell hql
                  have hlk := hR.map.look (HF.out q hql)
                  rw [HWANT.out q]
                  generalize ks.contains (f q) = B at *
                  have hBB : (B != B) = false := by simp
                  generalize firstTo f (fun k_1 => topTo g k_1 k) q k = Fq at *
                  cases ht : topTo g q k with
                  | true =>
                    rw [ht] at hr2 HCS
                    cases hfq : Fq with
                    | true =>
                      rw [hfq] at HCS
                      have HC1 : Hid (cntTo f g k (q + 1) = C + 1) := HCS.out.trans (by simp)
                      clear ht hfq HCS
                      go_wp2
                      go_roundw
                      case rel => exact ⟨q + 1, by omega, by go_num, by rw [HC1.out]; go_num, hR⟩
                      case measure => simp [intOf]; omega
                    | false =>
                      rw [hfq] at HCS
                      have HC1 : Hid (cntTo f g k (q + 1) = C) := HCS.out.trans (by simp)
                      clear ht hfq HCS
                      go_wp2
                      go_roundw
                      case rel => exact ⟨q + 1, by omega, by go_num, by rw [HC1.out], hR⟩
                      case measure => simp [intOf]; omega
                  | false =>
                    rw [ht] at hr2 HCS
                    have HC1 : Hid (cntTo f g k (q + 1) = C) := HCS.out.trans (by simp)
                    clear ht HCS
                    go_wp2
                    go_roundw
                    case rel => exact ⟨q + 1, by omega, by go_num, by rw [HC1.out], hR⟩
                    case measure => simp [intOf]; omega
            · obtain rfl : q = n := by omega
              have hlen := fun ty => hR.map.len ty
              rw [HCNT.out]
              have hss : (((sz ks : Nat) : Int) == ((sz ks : Nat) : Int)) = true := by simp
              have hfin := hR.below
              clear hR hcl
              generalize sz ks = Z at *
              go_wp2
              go_ret
              exact ⟨rfl, hfin⟩

set_option maxRecDepth 100000 in
set_option maxHeartbeats 4000000 in
theorem law_high (a0 a1 : Option Addr) (n0 c0 n1 c1 n : Nat) (f g : Nat → Int) (w : World) (hn0 : n0 ≤ 4096) (hn1 : n1 ≤ 4096) (hn : n = min n0 n1) (h0 : Src .i64 w a0 n f) (h1 : Src .i8 w a1 n g)
    (hg : ∀ i, i < n → -128 ≤ g i ∧ g i ≤ 127) (hf : ∀ i, i < n → (Lit.int .i64 (f i)).wf = true) (hhigh : 1 ≤ mx g n) :
    Calls Try.prog 3 #[.slice a0 n0 c0, .slice a1 n1 c1] w fun e w' => e = .returned (.bool true) ∧ Below w.heap.size w w' := by
  have hn4 : n ≤ 4096 := by omega
  have hmk := make_bools n (by omega)
  have hd0 : decide ((4096 : Int) < (n0 : Int)) = false := decide_eq_false (by omega)
  have hd1 : decide ((4096 : Int) < (n1 : Int)) = false := decide_eq_false (by omega)
  have HG : Hid (∀ i, i < n → -128 ≤ g i ∧ g i ≤ 127) := hg
  have HF : Hid (∀ i, i < n → (Lit.int .i64 (f i)).wf = true) := hf
  have HN : Hid (n = min n0 n1) := hn
  clear hg hf hn
  go_enter Try.func3, Try.ntmps3
  go_wp2_with (go_at_call 8; refine (bytes_ok _ _ _ _ _ _ _ (by omega) (by omega)).mono ?_; rintro e w' ⟨rfl, rfl⟩)
  refine (offers_any a0 a1 n0 c0 n1 c1 n f g w hn0 hn1 HN.out h0 h1).mono ?_
  rintro e w1 ⟨rfl, ho1, hb1, hz1⟩
  go_wp2_with fail
  refine (derive_any w.heap.size n f g w1 (by omega) hn4 ho1 HG.out HF.out).mono ?_
  rintro e w2 ⟨M, rfl, hM, hm2, hb2⟩
  have ho2 := ho1.below hb2 (by omega)
  have hnil := nil_map M
  have hB2 : Below w.heap.size w w2 := hb1.trans (hb2.mono (by omega))
  have hzz : w1.heap.size ≤ w2.heap.size := hb2.size
  have hMl := hm2.lt
  have hge := mx_ge g n
  have hbd := mx_bd g n (fun i hi => (HG.out i hi).2)
  have HLE : Hid (∀ i, i < n → g i ≤ mx g n) := mx_le g n
  have HHIT : Hid (mx g n = -1 ∨ ∃ i, i < n ∧ g i = mx g n) := mx_hit g n
  have HWANT : Hid (∀ i, wantTo f (fun k => topTo g k n) i n = (keys f g (mx g n) n).contains (f i)) := want_keys f g n
  have HCNT : Hid (cntTo f g n n = sz (keys f g (mx g n) n)) := cnt_of f g n sz sz_nil sz_snoc n (Nat.le_refl _)
  have HFST : Hid (∀ i, i < n → topTo g i n = true → firstTo f (fun k => topTo g k n) i n = !(keys f g (mx g n) i).contains (f i)) := fun i hi _ => first_keys f g n i hi
  generalize hks : keys f g (mx g n) n = ks at *
  clear hks HFST hb1 hb2 ho1
  obtain ⟨l, hl⟩ : ∃ l, mx g n = l + 1 := ⟨mx g n - 1, by omega⟩
  have HL : Hid ((if mx g n = -1 then (-1 : Int) else mx g n - 1) = l) := by
    show _ = _
    split <;> omega
  rw [HL.out]
  have hl0 : 0 ≤ l := by omega
  have hl1 : l ≤ 126 := by omega
  have HLE2 : Hid (∀ i, i < n → g i ≤ l + 1) := fun i hi => by have := HLE.out i hi; omega
  have HSN : Hid (seenTo g (l + 1) n = true) := by
    rcases HHIT.out with h | ⟨i, hi, h⟩
    · omega
    · exact seenTo_of g (l + 1) n i hi (by omega)
  clear HL hl hhigh hge hbd
  go_wp2_with fail
  go_loop [11, 12] (fun sv iv => ∃ i : Nat, i ≤ n ∧ iv = .int .i64 i ∧ sv = .bool (seenTo g (l + 1) i)) (fun _ iv => n - (intOf iv).toNat)
  case atStart => exact ⟨0, Nat.zero_le _, rfl, rfl⟩
  case round =>
    obtain ⟨i, hi, rfl, rfl⟩ := hrel
    by_cases hlt : i < n
    · have hy := ho2.lv hlt
      have hle := HLE2.out i hlt
      have hgb := HG.out i hlt
      have HS : Hid (seenTo g (l + 1) (i + 1) = if g i = l + 1 then true else seenTo g (l + 1) i) := rfl
      cases hc : (g i == l + 1) with
      | true =>
        have HS1 : Hid (seenTo g (l + 1) (i + 1) = true) := HS.out.trans (if_pos (eq_of_beq hc))
        clear HS
        go_wp2
        go_round
        case rel => exact ⟨i + 1, by omega, by go_num, by rw [HS1.out]⟩
        case measure => simp [intOf]; omega
      | false =>
        have HS1 : Hid (seenTo g (l + 1) (i + 1) = seenTo g (l + 1) i) := HS.out.trans (if_neg (by simpa using hc))
        clear HS
        go_wp2
        go_round
        case rel => exact ⟨i + 1, by omega, by go_num, by rw [HS1.out]⟩
        case measure => simp [intOf]; omega
    · have hin : i = n := by omega
      have HSi : Hid (seenTo g (l + 1) i = true) := by rw [hin]; exact HSN.out
      clear hin
      rw [HSi.out]
      go_wp2_with fail
      have hL := LM_start (w := w) ho2 (by omega) hm2 hB2 (fun t _ => by simp)
      have hOR : w.heap.size ≠ w2.heap.size := by omega
      have hMR : M ≠ w2.heap.size := by omega
      have hRw : w.heap.size ≤ w2.heap.size := by omega
      clear ho2 hm2 hB2 h0 h1 hmk HHIT HLE HN hnil
      generalize w2.alloc (.cells (zb n) 4) = w3 at *
      generalize w2.heap.size = R at *
      go_loopw [15] (fun iv wr => ∃ p : Nat, p ≤ n ∧ iv = .int .i64 p ∧ LM w w.heap.size M R n f g ks (fun t => if t < p then topTo g t n else false) wr) (fun iv _ => n - (intOf iv).toNat)
      case atStart => exact ⟨0, Nat.zero_le _, rfl, hL⟩
      case round =>
        clear hL
        obtain ⟨p, hp, rfl, hR⟩ := hrel
        by_cases hpl : p < n
        · have hy := hR.off.lv hpl
          have hgp := HG.out p hpl
          go_wp2_with fail
          go_loopw [16, 17] (fun tv jv wr => ∃ j : Nat, j ≤ n ∧ jv = .int .i64 j ∧ tv = .bool (topTo g p j) ∧ LM w w.heap.size M R n f g ks (fun t => if t < p then topTo g t n else false) wr) (fun _ jv _ => n - (intOf jv).toNat)
          case atStart => exact ⟨0, Nat.zero_le _, rfl, rfl, hR⟩
          case round =>
            clear hR hy
            obtain ⟨j, hj, rfl, rfl, hR⟩ := hrel
            by_cases hjl : j < n
            · have hy1 := hR.off.lv hjl
              have hy2 := hR.off.lv hpl
              have hgj := HG.out j hjl
              have hjn : (j : Int) < (n : Int) := by omega
              have hpn : (p : Int) < (n : Int) := by omega
              by_cases hc : g p < g j
              · have HS : Hid (topTo g p (j + 1) = false) := if_pos hc
                go_wp2
                go_quiet (fail)
                go_wp2
                go_roundw
                case rel => exact ⟨j + 1, by omega, by go_num, by rw [HS.out], hR.drewN _⟩
                case measure => simp [intOf]; omega
              · have HS : Hid (topTo g p (j + 1) = topTo g p j) := if_neg hc
                go_wp2
                go_quiet (fail)
                go_wp2
                go_roundw
                case rel => exact ⟨j + 1, by omega, by go_num, by rw [HS.out], hR.drewN _⟩
                case measure => simp [intOf]; omega
            · obtain rfl : j = n := by omega
              have hc1 := hR.row.cell hpl
              have hf1 := hR.row.free hpl
              have hN := (hR.set hOR hMR hRw p (topTo g p j)).congr (fun t _ => tf_next g j p t)
              clear hR
              go_wp2
              go_roundw
              case rel => exact ⟨p + 1, by omega, by go_num, hN⟩
              case measure => simp [intOf]; omega
        · have hR5 : LM w w.heap.size M R n f g ks (fun t => topTo g t n) wr := hR.congr (fun t ht => by
            have : t < p := by omega
            simp [this])
          clear hR
          go_wp2_with fail
          go_loopw [18, 19] (fun cv iv wr => ∃ q : Nat, q ≤ n ∧ iv = .int .i64 q ∧ cv = .int .i64 ((cntTo f g n q : Nat) : Int) ∧ LM w w.heap.size M R n f g ks (fun t => topTo g t n) wr) (fun _ iv _ => n - (intOf iv).toNat)
          case atStart => exact ⟨0, Nat.zero_le _, rfl, rfl, hR5⟩
          case round =>
            clear hR5
            obtain ⟨q, hq, rfl, rfl, hR⟩ := hrel
            have hcl := cntTo_le f g n q
            by_cases hql : q < n
            · have HCS : Hid (cntTo f g n (q + 1) = cntTo f g n q + if topTo g q n = true ∧ firstTo f (fun k => topTo g k n) q n = true then 1 else 0) := rfl
              generalize cntTo f g n q = C at *
              go_wp2_with fail
              go_loopw [20, 21, 22] (fun wv fv kv wr => ∃ k : Nat, k ≤ n ∧ kv = .int .i64 k ∧ wv = .bool (wantTo f (fun k => topTo g k n) q k) ∧ fv = .bool (firstTo f (fun k => topTo g k n) q k) ∧ LM w w.heap.size M R n f g ks (fun t => topTo g t n) wr) (fun _ _ kv _ => n - (intOf kv).toNat)
              case atStart => exact ⟨0, Nat.zero_le _, rfl, rfl, rfl, hR⟩
              case round =>
                clear hR
                obtain ⟨k, hk, rfl, rfl, rfl, hR⟩ := hrel
                by_cases hkl : k < n
                · have hx1 := hR.off.id hkl
                  have hx2 := hR.off.id hql
                  have hr1 := hR.row.cell hkl
                  have hkn : (k : Int) < (n : Int) := by omega
                  have hqn : (q : Int) < (n : Int) := by omega
                  have HW : Hid (wantTo f (fun k => topTo g k n) q (k + 1) = if f k = f q ∧ topTo g k n = true then true else wantTo f (fun k => topTo g k n) q k) := rfl
                  have HFi : Hid (firstTo f (fun k => topTo g k n) q (k + 1) = if (f k = f q ∧ topTo g k n = true) ∧ k < q then false else firstTo f (fun k => topTo g k n) q k) := rfl
                  generalize wantTo f (fun k => topTo g k n) q k = Wk at *
                  generalize firstTo f (fun k => topTo g k n) q k = Fk at *
                  cases hqe : (f k == f q) with
                  | true =>
                    have he : f k = f q := eq_of_beq hqe
                    cases ht : topTo g k n with
                    | true =>
                      by_cases hkq : k < q
                      · have HW1 : Hid (wantTo f (fun k => topTo g k n) q (k + 1) = true) := HW.out.trans (if_pos ⟨he, ht⟩)
                        have HF1 : Hid (firstTo f (fun k => topTo g k n) q (k + 1) = false) := HFi.out.trans (if_pos ⟨⟨he, ht⟩, hkq⟩)
                        clear HW HFi he
                        rw [ht] at hr1
                        clear ht
                        go_wp2
                        go_quiet (fail)
                        go_wp2
                        go_roundw
                        case rel => exact ⟨k + 1, by omega, by go_num, by rw [HW1.out], by rw [HF1.out], hR.drewN _⟩
                        case measure => simp [intOf]; omega
                      · have HW1 : Hid (wantTo f (fun k => topTo g k n) q (k + 1) = true) := HW.out.trans (if_pos ⟨he, ht⟩)
                        have HF1 : Hid (firstTo f (fun k => topTo g k n) q (k + 1) = Fk) := HFi.out.trans (if_neg (fun h => hkq h.2))
                        clear HW HFi he
                        rw [ht] at hr1
                        clear ht
                        go_wp2
                        go_quiet (fail)
                        go_wp2
                        go_roundw
                        case rel => exact ⟨k + 1, by omega, by go_num, by rw [HW1.out], by rw [HF1.out], hR.drewN _⟩
                        case measure => simp [intOf]; omega
                    | false =>
                      have HW1 : Hid (wantTo f (fun k => topTo g k n) q (k + 1) = Wk) := HW.out.trans (if_neg (fun h => by rw [ht] at h; exact absurd h.2 (by decide)))
                      have HF1 : Hid (firstTo f (fun k => topTo g k n) q (k + 1) = Fk) := HFi.out.trans (if_neg (fun h => by rw [ht] at h; exact absurd h.1.2 (by decide)))
                      clear HW HFi he
                      rw [ht] at hr1
                      clear ht
                      go_wp2
                      go_quiet (fail)
                      go_wp2
                      go_roundw
                      case rel => exact ⟨k + 1, by omega, by go_num, by rw [HW1.out], by rw [HF1.out], hR.drewN _⟩
                      case measure => simp [intOf]; omega
                  | false =>
                    have he : ¬ f k = f q := by simpa using hqe
                    have HW1 : Hid (wantTo f (fun k => topTo g k n) q (k + 1) = Wk) := HW.out.trans (if_neg (fun h => he h.1))
                    have HF1 : Hid (firstTo f (fun k => topTo g k n) q (k + 1) = Fk) := HFi.out.trans (if_neg (fun h => he h.1.1))
                    clear HW HFi he
                    go_wp2
                    go_quiet (fail)
                    go_wp2
                    go_roundw
                    case rel => exact ⟨k + 1, by omega, by go_num, by rw [HW1.out], by rw [HF1.out], hR.drewN _⟩
                    case measure => simp [intOf]; omega
                · obtain rfl : k = n := by omega
                  have hx2 := hR.off.id hql
                  have hr2 := hR.row.cell hql
                  have hlk := hR.map.look (HF.out q hql)
                  rw [HWANT.out q]
                  generalize ks.contains (f q) = B at *
                  have hBB : (B != B) = false := by simp
                  generalize firstTo f (fun k_1 => topTo g k_1 k) q k = Fq at *
                  cases ht : topTo g q k with
                  | true =>
                    rw [ht] at hr2 HCS
                    cases hfq : Fq with
                    | true =>
                      rw [hfq] at HCS
                      have HC1 : Hid (cntTo f g k (q + 1) = C + 1) := HCS.out.trans (by simp)
                      clear ht hfq HCS
                      go_wp2
                      go_roundw
                      case rel => exact ⟨q + 1, by omega, by go_num, by rw [HC1.out]; go_num, hR⟩
                      case measure => simp [intOf]; omega
                    | false =>
                      rw [hfq] at HCS
                      have HC1 : Hid (cntTo f g k (q + 1) = C) := HCS.out.trans (by simp)
                      clear ht hfq HCS
                      go_wp2
                      go_roundw
                      case rel => exact ⟨q + 1, by omega, by go_num, by rw [HC1.out], hR⟩
                      case measure => simp [intOf]; omega
                  | false =>
                    rw [ht] at hr2 HCS
                    have HC1 : Hid (cntTo f g k (q + 1) = C) := HCS.out.trans (by simp)
                    clear ht HCS
                    go_wp2
                    go_roundw
                    case rel => exact ⟨q + 1, by omega, by go_num, by rw [HC1.out], hR⟩
                    case measure => simp [intOf]; omega
            · obtain rfl : q = n := by omega
              have hlen := fun ty => hR.map.len ty
              rw [HCNT.out]
              have hss : (((sz ks : Nat) : Int) == ((sz ks : Nat) : Int)) = true := by simp
              have hfin := hR.below
              clear hR hcl
              generalize sz ks = Z at *
              go_wp2
              go_ret
              exact ⟨rfl, hfin⟩
end Go.Proofs.Qxb6600742a.DMem
