import Derived.Test.Qxb6603898aS2
import Derived.Test.Qxb6603898aS4
namespace Go.Proofs.Qxb6603898a
open Go.RowKit

/-- What a walk finds of a fresh struct of three ints behind a call that keeps it. -/
theorem kept3 {w w1 : World} {t : TypeId} {x y z : Value} (hb : Below (w.alloc (.cells #[x, y, z] t)).heap.size (w.alloc (.cells #[x, y, z] t)) w1) :
    w1.heap[w.heap.size]? = some (.cells #[x, y, z] t (0, 0)) ∧ w.heap.size < w1.heap.size ∧ Below w.heap.size w w1 := by
  have hs : (w.alloc (.cells #[x, y, z] t)).heap.size = w.heap.size + 1 := by simp
  refine ⟨?_, ?_, ((Below.refl _ _).alloc (Nat.le_refl _) _).trans (hb.mono (by omega))⟩
  · rw [hb.block _ (by omega)]; exact heap_alloc_new w _
  · have := hb.size; omega
theorem cells3 {W : World} {B : Nat} {t : TypeId} {x y z : Value} (h : W.heap[B]? = some (.cells #[x, y, z] t (0, 0))) :
    W.cell? ⟨B, 0, none⟩ = some x ∧ W.cell? ⟨B, 1, none⟩ = some y ∧ W.cell? ⟨B, 2, none⟩ = some z ∧ ∀ k, W.frozen? ⟨B, k, none⟩ = false := by
  refine ⟨?_, ?_, ?_, fun k => Lib.frozen_of_heap h k⟩ <;> (rw [Lib.cell_of_heap h]; rfl)

theorem put3 {w1 : World} {B : Nat} {t : TypeId} {x y z : Value} (h : w1.heap[B]? = some (.cells #[x, y, z] t (0, 0))) (p q r : Value) (o : Obj) (hB : B < w1.heap.size) :
    ((((w1.setCell ⟨B, 0, none⟩ p).setCell ⟨B, 1, none⟩ q).setCell ⟨B, 2, none⟩ r).alloc o).heap[B]? = some (.cells #[p, q, r] t (0, 0)) := by
  rw [Below.heap_alloc _ _ _ (by simpa [World.setCell] using hB)]
  simp [World.setCell, Array.getElem?_modify, h]
theorem ret15 {R : Ending → World → Prop} {a : Act} {W : World} {B : Nat} {x y z : Int} (hq : W.heap[B]? = some (.cells #[.int .i64 x, .int .i64 y, .int .i64 z] 28 (0, 0))) (h2 : a.tmps[2]?.getD undef = .pointer (some ⟨B, 0, none⟩)) (hd : a.defers = [])
    (hR : R (.returned (.agg #[.int .i64 x, .int .i64 y, .int .i64 z])) W) : bodyPost Try.prog Try.f15 R Exit.ret a W := by
  obtain ⟨c0, c1, c2, _⟩ := cells3 hq
  exact bodyPost_ret (v := .agg #[.int .i64 x, .int .i64 y, .int .i64 z]) (by simp only [results, Try.results15]; simp [h2, go_sem, c0, c1, c2]) hd hR

set_option maxHeartbeats 1000000 in
theorem zzShape_any (a : Option Addr) (n cap : Nat) (zs : List Int) (w : World) (h : RowB w a n zs) (hn : n ≤ 1048576) :
    Calls Try.prog 15 #[.slice a n cap] w fun e w' => ∃ N E D : Nat, shp 0 0 0 [] false (clsf 0 zs) = (N, E, D) ∧ e = .returned (.agg #[.int .i64 N, .int .i64 E, .int .i64 D]) ∧ Below w.heap.size w w' := by
  go_enter Try.func15, Try.ntmps15
  go_wp2_with fail
  refine (shape_any a n cap zs _ (h.below ((Below.refl _ _).alloc (Nat.le_refl _) _)) hn).mono ?_
  rintro e w1 ⟨N, E, D, hs, rfl, hb⟩
  obtain ⟨hq, hlt, hb1⟩ := kept3 hb
  obtain ⟨c0, c1, c2, hf⟩ := cells3 hq
  have HS : Hid (shp 0 0 0 [] false (clsf 0 zs) = (N, E, D)) := hs
  have HQ : Hid (w1.heap[w.heap.size]? = some (.cells #[.int .i64 0, .int .i64 0, .int .i64 0] 28 (0, 0))) := hq
  clear hs hb hq
  go_wp2
  have q0 := put3 HQ.out (.int .i64 N) (.int .i64 E) (.int .i64 D) (.cells #[.int .i64 N, .int .i64 E, .int .i64 D] 42) hlt
  have hbf : Below w.heap.size w _ := (((hb1.setCell (p := ⟨w.heap.size, 0, none⟩) (Nat.le_refl _) (.int .i64 N)).setCell (p := ⟨w.heap.size, 1, none⟩) (Nat.le_refl _) (.int .i64 E)).setCell (p := ⟨w.heap.size, 2, none⟩) (Nat.le_refl _) (.int .i64 D)).alloc (by simp [World.setCell]; omega) (.cells #[.int .i64 N, .int .i64 E, .int .i64 D] 42)
  exact ret15 q0 rfl rfl ⟨N, E, D, HS.out, rfl, hbf⟩

/-! ### THE LAW -/
set_option maxHeartbeats 1000000 in
theorem shape_law (a : Option Addr) (n cap : Nat) (zs : List Int) (w : World) (h : RowB w a n zs) (hcap : a = none → cap = 0) (hm : n ≤ maxLen) :
    Calls Try.prog 5 #[.slice a n cap] w fun e w' => e = .returned (.bool true) ∧ Below w.heap.size w w' := by
  have HM : Hid (n ≤ maxLen) := hm
  unfold maxLen at hm
  go_enter Try.func5, Try.ntmps5
  go_wp2_with fail
  refine (bytes14 a n cap w HM.out).mono ?_
  rintro e w' ⟨⟨b, rfl⟩, hw⟩
  obtain rfl : w = w' := hw.symm
  cases b
  · go_wp2
    go_ret
    exact ⟨rfl, Below.refl _ _⟩
  by_cases g1 : n ≤ 1048576
  rotate_left
  · go_wp2
    go_ret
    exact ⟨rfl, Below.refl _ _⟩
  go_wp2_with fail
  refine (copy_any a n cap zs w hcap h g1).mono ?_
  rintro e W ⟨a', c', rfl, hc', hr, hb⟩
  go_wp2_with fail
  refine (zzShape_any a' n c' zs W hr g1).mono ?_
  rintro e W1 ⟨N, E, D, hs, rfl, hb1⟩
  have hr1 := (hr.below hb1).below ((Below.refl _ _).alloc (Nat.le_refl _) (.cells #[.int .i64 N, .int .i64 E, .int .i64 D] 28))
  have HS : Hid (shp 0 0 0 [] false (clsf 0 zs) = (N, E, D)) := hs
  clear hs
  go_wp2_with fail
  refine (model_shape a' n c' zs _ hr1 g1).mono ?_
  rintro e w2 ⟨⟨N', E', D', e1, e2, rfl⟩, hb2⟩
  have hq := shp_eq (clsf 0 zs) 0 0 0 [] false (by simp) (by simp) (by simp)
  rw [HS.out] at hq
  simp only [List.length_nil, pend, List.nil_append, e2, e1, Prod.mk.injEq] at hq
  obtain ⟨rfl, rfl, rfl⟩ := hq
  clear e1 e2
  obtain ⟨hq, hlt, hb3⟩ := kept3 hb2
  obtain ⟨c0, c1, c2, _⟩ := cells3 hq
  clear hq hb2
  go_wp2
  go_ret
  exact ⟨rfl, hb.trans ((hb1.trans (hb3.mono hb1.size)).mono hb.size)⟩
end Go.Proofs.Qxb6603898a
