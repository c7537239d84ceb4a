/-
  Nodes (21); Size (5).
-/
import Derived.Test.Qxb6002397aIter2
import Derived.Handy
namespace Go.Proofs.Qxb6002397a.Iter
open Go.ChangeShapes Go.WideShapes Go.ChangeAt Go.RowKit Go.Shelf
attribute [local go_sem] Oper.semAt_some

theorem nodes_any (T : Nat) (v : Value) (nc y : Int) (w : World) (hT : T < w.heap.size) (h : SB T v nc y w) (h0 : 0 ≤ nc) (h1 : nc ≤ 1000000) :
    Calls Try.prog 21 #[.pointer (some ⟨T, 0, none⟩)] w fun e w' => e = .returned (.func (.func 22) #[] #[.pointer (some ⟨w.heap.size, 0, none⟩)]) ∧
      SB T v (nc + 1) y w' ∧ w'.cell? ⟨w.heap.size, 0, none⟩ = some (.pointer (some ⟨T, 0, none⟩)) ∧ w'.heap.size = w.heap.size + 1 ∧ G T w w' := by
  have hc1 := h.c1
  have hf1 := h.f1
  have hS := h.set1 (nc + 1)
  clear h
  go_enter Try.func21, Try.ntmps21
  go_wp2
  go_ret
  refine ⟨rfl, hS.same (Below.heap_alloc _ _ _ (by simpa using hT)), ?_, by simp, ((G.refl T w).setCell _ _ (.inl rfl)).alloc _⟩
  rw [World.cell?_alloc_at _ _ _ _ (by simp)]; rfl

/-- The loop's record. -/
def mkRec (fn : FuncId) (tmps : Array Value) (ps : Array Tmp) (assign body : Code) (D : Nat) (st : LoopState) : Loop :=
  { state := st, pending := none, fn := fn, tmps := tmps, params := ps, assign := assign, body := body, defers := D }

/-- 'for .. := range g { .. }', at the wide fence, down to the one call. -/
theorem range_one {P : Program} {n : Nat} {g : Operand} {ps : Array Tmp} {assign body : Code} {Q : Exit → Act → World → Prop} {a : Act} {w : World} {gf : Nat} {lb : Array Value}
    (hg : a.eval g = .func (.func gf) #[] lb) (eg : ∀ args w, (callFunc gf args).run P w = .ok (.enter gf args) w)
    (h : ∀ fn, CallsIn Fence.wide (n - 1) P gf (#[.func (.yield (w.heap.size + 1)) #[] #[]] ++ lb) ((w.alloc (.deferred (some []))).alloc (.loop (mkRec fn a.tmps ps assign body w.heap.size .ready)))
      (rangePost Fence.wide n P (w.heap.size + 1) Q { a with defers := [{ target := .collected w.heap.size, args := #[] }] ++ a.defers })) :
    (Code.rangeFunc g ps assign body).wpIn Fence.wide n P Q a w := by
  refine wpIn_rangeFunc ?_
  intro fn _
  have hro : Fence.wide.round = none := rfl
  rw [hro]
  have hf := h fn
  clear h
  obtain ⟨W1, hW1⟩ : ∃ W1, (w.alloc (.deferred (some []))).alloc (.loop (mkRec fn a.tmps ps assign body w.heap.size .ready)) = W1 := ⟨_, rfl⟩
  rw [hW1] at hf
  have he : (Instr.enterLoop fn a.tmps ps assign body none).run P w = .ok (w.heap.size + 1, [{ target := .collected w.heap.size, args := #[] }]) W1 := by
    rw [← hW1]; exact run_enterLoop_outer _ _ _ _ _
  clear hW1
  refine ⟨w.heap.size + 1, [{ target := .collected w.heap.size, args := #[] }], W1, { target := .fn (.func gf) lb, args := #[.func (.yield (w.heap.size + 1)) #[] #[]] }, W1, gf,
    #[.func (.yield (w.heap.size + 1)) #[] #[]] ++ lb, W1, ?_, ?_, ?_, ?_, ?_, ?_⟩
  · exact he
  · simp only [resolve, hg]
    simp [go_sem]
  · intro f' _; trivial
  · simp [invoke, go_sem, eg]
  · intro hd; simp [Fence.wide] at hd
  · exact hf

theorem foldl_one (t : Array Value) (v : Value) : Array.foldl (fun tmps x => tmps.setIfInBounds x.fst x.snd) t ((#[6] : Array Tmp).zip #[v]) = t.setIfInBounds 6 v := by simp

def SizePost (T n : Nat) (v : Value) (nc y : Int) (w : World) (e : Ending) (w' : World) : Prop :=
  e = .returned (.int .i64 n) ∧ SB T v (nc + 1) (y + n) w' ∧ G T w w'

set_option maxRecDepth 100000 in
set_option maxHeartbeats 2000000 in
theorem size_any (T n cap : Nat) (a : Option Addr) (nc y : Int) (w : World) (hT : T < w.heap.size) (hn : n ≤ 131072) (hy0 : 0 ≤ y) (hy1 : y ≤ 1000000000) (h0 : 0 ≤ nc) (h1 : nc ≤ 1000000) (hSB : SB T (.slice a n cap) nc y w) (hrow : Row T w a n) :
    Calls Try.prog 5 #[.iface 24 (.pointer (some ⟨T, 0, none⟩))] w (SizePost T n (.slice a n cap) nc y w) := by
  refine (callsIn_wide (n := 5)).1 ?_
  refine callsIn_of_wp_marks Try.func5 rfl trivial ?_ rfl
  simp only [Try.ntmps5, List.size_toArray, List.length_cons, List.length_nil, Nat.reduceAdd, Nat.reduceSub, Array.replicate_succ, Array.replicate_zero, List.push_toArray, List.append_toArray, List.nil_append, List.cons_append]
  refine wpIn_wide.2 ?_
  go_wp2_with fail
  have hW1 : SB T (.slice a n cap) nc y (w.alloc (.cells #[.int .i64 0] 3)) := hSB.same (Below.heap_alloc _ _ _ hT)
  refine (nodes_any T (.slice a n cap) nc y _ (by simp; omega) hW1 h0 h1).mono ?_
  rintro e W2 ⟨rfl, hs2, hb2, hz2, hg2⟩
  have hcn : W2.cell? ⟨w.heap.size, 0, none⟩ = some (.int .i64 0) := by
    rw [cell_of_same (hg2.block w.heap.size (by simp) (by omega)), World.cell?_alloc_at _ _ _ _ rfl]; rfl
  have hfn : W2.frozen? ⟨w.heap.size, 0, none⟩ = false := by
    rw [frozen_of_same (hg2.block w.heap.size (by simp) (by omega)), World.frozen?_alloc_at _ _ _ _ rfl]
  rw [World.size_alloc] at hb2 hz2 ⊢
  have hG : G T w W2 := ((G.refl T w).alloc _).trans ⟨hg2.os, hg2.tape, hg2.output, hg2.size, hg2.block⟩
  clear hW1 hg2
  go_wp2
  refine (wpIn_wide (n := 5)).1 ?_
  refine range_one (gf := 22) (lb := #[.pointer (some ⟨w.heap.size + 1, 0, none⟩)]) rfl (enters_of Try.func22 (by kernel_rfl) rfl) ?_
  intro fn
  rw [hz2]
  have eN : w.heap.size + 1 + 1 = w.heap.size + 2 := rfl
  have eN3 : w.heap.size + 1 + 1 + 1 = w.heap.size + 3 := rfl
  simp only [eN, eN3] at hz2 ⊢
  generalize hB : Code.block 1 _ = B
  generalize hTm : (#[Value.iface 24 _, _, _, _, _, _, _, _, _, _] : Array Value) = tm
  have hSt0 : St T w (.slice a n cap) (nc + 1) (mkRec fn tm #[6] Code.skip B (w.heap.size + 2) .ready) 0 y ((W2.alloc (.deferred (some []))).alloc (.loop (mkRec fn tm #[6] Code.skip B (w.heap.size + 2) .ready))) := by
    have e : ∀ k, k < w.heap.size + 2 → ((W2.alloc (.deferred (some []))).alloc (.loop (mkRec fn tm #[6] Code.skip B (w.heap.size + 2) .ready))).heap[k]? = W2.heap[k]? := fun k hk =>
      (Below.heap_alloc _ _ k (by simp; omega)).trans (Below.heap_alloc _ _ k (by omega))
    have hd := World.alloc_heap_new W2 (.deferred (some []))
    have hl := World.alloc_heap_new (W2.alloc (.deferred (some []))) (.loop (mkRec fn tm #[6] Code.skip B (w.heap.size + 2) .ready))
    rw [World.size_alloc, hz2] at hl
    rw [hz2] at hd
    exact ⟨(cell_of_same (e _ (by omega))).trans hcn, (frozen_of_same (e _ (by omega))).trans hfn, (cell_of_same (e _ (by omega))).trans hb2, hs2.same (e _ (by omega)),
      (Below.heap_alloc _ _ _ (by simp; omega)).trans hd, hl, (hG.alloc _).alloc _⟩
  clear hs2 hb2 hcn hfn hG hz2 eN eN3
  generalize (W2.alloc (.deferred (some []))).alloc (.loop (mkRec fn tm #[6] Code.skip B (w.heap.size + 2) .ready)) = W3 at *
  have hY : ∀ (c yl x : Int) (W : World), St T w (.slice a n cap) (nc + 1) (mkRec fn tm #[6] Code.skip B (w.heap.size + 2) .ready) c yl W → 0 ≤ c → c < n → YieldAt Fence.wide (4 - 1) Try.prog (w.heap.size + 3) #[.int .i64 x] W fun e W' => e = .returned (.bool true) ∧ St T w (.slice a n cap) (nc + 1) (mkRec fn tm #[6] Code.skip B (w.heap.size + 2) .ready) (c + 1) yl W' := by
    intro c yl x W hS hc0 hcn
    refine ⟨_, _, _, _, run_yield hS.lp rfl, ?_⟩
    refine roundIn_of_wpIn trivial ?_
    have hbr : (Instr.beginRound (w.heap.size + 3)).run Try.prog W = .ok () (W.putObj (w.heap.size + 3) (.loop (mkRec fn tm #[6] Code.skip B (w.heap.size + 2) .busy))) := run_beginRound hS.lp rfl
    have hSb := hS.put hT (mkRec fn tm #[6] Code.skip B (w.heap.size + 2) .busy)
    generalize W.putObj (w.heap.size + 3) (.loop (mkRec fn tm #[6] Code.skip B (w.heap.size + 2) .busy)) = Wb at *
    have hcnb := hSb.cn
    have hfnb := hSb.fn
    have hfin : ∀ Wc, St T w (.slice a n cap) (nc + 1) (mkRec fn tm #[6] Code.skip B (w.heap.size + 2) .busy) (c + 1) yl Wc →
        roundPost Try.prog (w.heap.size + 3) (fun e W' => e = Ending.returned (Value.bool true) ∧ St T w (.slice a n cap) (nc + 1) (mkRec fn tm #[6] Code.skip B (w.heap.size + 2) .ready) (c + 1) yl W') .normal { tmps := tm, defers := [] } Wc := by
      intro Wc hWc
      exact ⟨_, _, run_endRound none hWc.lp, rfl, hWc.put hT _⟩
    have hSn := hSb.setN hT (c + 1)
    have HF := hfin _ hSn
    have HFh : Hid (∀ tt dd, roundPost Try.prog (w.heap.size + 3) (fun e W' => e = Ending.returned (Value.bool true) ∧ St T w (.slice a n cap) (nc + 1) (mkRec fn tm #[6] Code.skip B (w.heap.size + 2) .ready) (c + 1) yl W') .normal { tmps := tt, defers := dd } (Wb.setCell ⟨w.heap.size, 0, none⟩ (.int .i64 (c + 1)))) := fun _ _ => HF
    clear hfin HF hSn hSb hSt0 hrow hSB hS
    generalize (fun (e : Ending) (W' : World) => e = Ending.returned (Value.bool true) ∧ St T w (.slice a n cap) (nc + 1) (mkRec fn tm #[6] Code.skip B (w.heap.size + 2) .ready) (c + 1) yl W') = RR at *
    subst hTm hB
    dsimp only [mkRec]
    gi_wp2
    refine ⟨Wb, hbr, ?_⟩
    clear hbr
    rw [foldl_one]
    simp only [List.setIfInBounds_toArray, List.set_cons_succ, List.set_cons_zero]
    gi_wp2
    exact HFh.out _ _
  refine (iter_in 4 T n cap a w W3 (nc + 1) y _ hT hn hy0 hy1 hrow hY hSt0).mono ?_
  rintro e W4 ⟨⟨v, rfl⟩, hS⟩
  clear hY hSt0
  have hSe := hS.put hT (mkRec fn tm #[6] Code.skip B (w.heap.size + 2) .exhausted)
  refine ⟨none, W4.putObj (w.heap.size + 3) (.loop (mkRec fn tm #[6] Code.skip B (w.heap.size + 2) .exhausted)), run_endLoop hS.lp (by simp [mkRec]), ?_⟩
  generalize W4.putObj (w.heap.size + 3) (.loop (mkRec fn tm #[6] Code.skip B (w.heap.size + 2) .exhausted)) = W5 at *
  clear hS
  have hcn5 := hSe.cn
  dsimp only
  subst hTm
  go_wp2
  refine ⟨by simp, .inl ⟨_, _, rfl, run_takeDeferred hSe.df, ?_⟩⟩
  refine ⟨_, results_tmp rfl _ _ _, rfl, hSe.sb.same (World.putObj_heap_other (by omega)), hSe.g.putObj _ _ (by omega)⟩
end Go.Proofs.Qxb6002397a.Iter
