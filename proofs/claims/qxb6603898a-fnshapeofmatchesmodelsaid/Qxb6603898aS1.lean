import Derived.Test.Qxb6603898aW3
import Derived.Test.Qxb6603898aShapeP
import Derived.Lib.Builder
import Derived.RegionTactic
import Derived.ChangeAlike
import Derived.Deep.Draws
namespace Go.Proofs.Qxb6603898a
open Go.RowKit

theorem Try.info3 : (Try.prog.info? 3).map (fun i => (i.zero, i.size, i.bytes)) = some (some (.int .i64 0), 1, 8) := by kernel_rfl

/-- The counts on the stack as cells: the innermost last. -/
def stkC (stk : List Nat) : List Value := stk.reverse.map (fun n : Nat => Value.int .i64 (n : Int))
theorem stkC_length (stk : List Nat) : (stkC stk).length = stk.length := by simp [stkC]
theorem stkC_push (stk : List Nat) : stkC stk ++ [.int .i64 0] = stkC (0 :: stk) := by simp [stkC]
theorem stkC_bump (t : Nat) (s : List Nat) : (stkC (t :: s)).set s.length (.int .i64 ((t : Int) + 1)) = stkC ((t + 1) :: s) := by
  simp only [stkC, List.reverse_cons, List.map_append]
  rw [List.set_append_right _ _ (by simp)]
  simp
theorem stkC_top (t : Nat) (s : List Nat) : (stkC (t :: s))[s.length]? = some (.int .i64 (t : Int)) := by
  simp only [stkC, List.reverse_cons, List.map_append]
  rw [List.getElem?_append_right (by simp)]
  simp
theorem stkC_pop (t : Nat) (s : List Nat) : (stkC (t :: s)).take s.length = stkC s := by
  simp only [stkC, List.reverse_cons, List.map_append]
  rw [List.take_append_of_le_length (by simp), List.take_of_length_le (by simp)]

/-- shapeOf's memory: its result variable (block B), 'shape' (block B + 1), and the row of the slice v, which holds the stack. -/
structure SInv (w : World) (B : Nat) (wr : World) (v : Value) (nest ent wid : Nat) (stk : List Nat) : Prop where
  res : wr.heap[B]? = some (.cells #[.int .i64 0, .int .i64 0, .int .i64 0] 42 (0, 0))
  shape : wr.heap[B + 1]? = some (.cells #[.int .i64 nest, .int .i64 ent, .int .i64 wid] 42 (0, 0))
  own : wr.ownsRow (B + 2) 3 1 v stk.length (stkC stk)
  bel : Below B w wr
  size : B + 2 ≤ wr.heap.size

theorem SInv.drewN {w : World} {B : Nat} {wr : World} {v : Value} {nest ent wid : Nat} {stk : List Nat} (h : SInv w B wr v nest ent wid stk) (q : Nat) : SInv w B (wr.drewN q) v nest ent wid stk :=
  ⟨h.res, h.shape, h.own, ⟨h.bel.os, h.bel.tape, h.bel.output, h.bel.size, h.bel.block⟩, h.size⟩
theorem set_other {wr : World} {b k : Nat} {o : Nat} {u : Value} (hne : k ≠ b) : (wr.setCell ⟨b, o, none⟩ u).heap[k]? = wr.heap[k]? := Below.heap_setCell _ _ _ _ hne
theorem own_other {wr : World} {B : Nat} {v : Value} {n : Nat} {xs : List Value} {b o : Nat} {u : Value} (h : wr.ownsRow (B + 2) 3 1 v n xs) (hb : b < B + 2) : (wr.setCell ⟨b, o, none⟩ u).ownsRow (B + 2) 3 1 v n xs :=
  ownsRow_setCell_below h (a := ⟨b, o, none⟩) hb u
theorem SInv.nest' {w : World} {B : Nat} {wr : World} {v : Value} {nest ent wid : Nat} {stk : List Nat} (h : SInv w B wr v nest ent wid stk) (m : Nat) : SInv w B (wr.setCell ⟨B + 1, 0, none⟩ (.int .i64 m)) v m ent wid stk :=
  ⟨by rw [set_other (by omega)]; exact h.res, by simp [World.setCell, Array.getElem?_modify, h.shape], own_other h.own (by omega), h.bel.setCell (p := ⟨B + 1, 0, none⟩) (by simp) _, by simpa [World.setCell] using h.size⟩
theorem SInv.ent' {w : World} {B : Nat} {wr : World} {v : Value} {nest ent wid : Nat} {stk : List Nat} (h : SInv w B wr v nest ent wid stk) (m : Nat) : SInv w B (wr.setCell ⟨B + 1, 1, none⟩ (.int .i64 m)) v nest m wid stk :=
  ⟨by rw [set_other (by omega)]; exact h.res, by simp [World.setCell, Array.getElem?_modify, h.shape], own_other h.own (by omega), h.bel.setCell (p := ⟨B + 1, 1, none⟩) (by simp) _, by simpa [World.setCell] using h.size⟩
theorem SInv.wid' {w : World} {B : Nat} {wr : World} {v : Value} {nest ent wid : Nat} {stk : List Nat} (h : SInv w B wr v nest ent wid stk) (m : Nat) : SInv w B (wr.setCell ⟨B + 1, 2, none⟩ (.int .i64 m)) v nest ent m stk :=
  ⟨by rw [set_other (by omega)]; exact h.res, by simp [World.setCell, Array.getElem?_modify, h.shape], own_other h.own (by omega), h.bel.setCell (p := ⟨B + 1, 2, none⟩) (by simp) _, by simpa [World.setCell] using h.size⟩
theorem SInv.top {w : World} {B : Nat} {wr : World} {v : Value} {nest ent wid t : Nat} {s : List Nat} (h : SInv w B wr v nest ent wid (t :: s)) :
    ∃ g cap, v = .slice (some ⟨g, 0, none⟩) (s.length + 1) cap ∧ B + 2 ≤ g ∧ s.length + 1 ≤ cap ∧ wr.cell? ⟨g, s.length, none⟩ = some (.int .i64 (t : Int)) ∧ wr.frozen? ⟨g, s.length, none⟩ = false := by
  have hown := h.own
  rcases hown.2 with ⟨_, h0⟩ | ⟨g, cap, cur, hv, hg, _, hle, _⟩
  · simp at h0
  · rw [hv] at hown
    refine ⟨g, cap, hv, hg, hle, ?_, hown.frozenAt _⟩
    rw [hown.cellAt _ (by simp)]
    exact stkC_top t s
theorem SInv.bump' {w : World} {B : Nat} {wr : World} {nest ent wid t g cap : Nat} {s : List Nat} (h : SInv w B wr (.slice (some ⟨g, 0, none⟩) (s.length + 1) cap) nest ent wid (t :: s)) (hg : B + 2 ≤ g) :
    SInv w B (wr.setCell ⟨g, s.length, none⟩ (.int .i64 ((t : Int) + 1))) (.slice (some ⟨g, 0, none⟩) (s.length + 1) cap) nest ent wid ((t + 1) :: s) := by
  have hs := (World.ownsRow.stored h.own s.length (.int .i64 ((t : Int) + 1))).1
  rw [stkC_bump] at hs
  exact ⟨by rw [set_other (by omega)]; exact h.res, by rw [set_other (by omega)]; exact h.shape, hs, h.bel.setCell (p := ⟨g, s.length, none⟩) (by simp; omega) _, by simpa [World.setCell] using h.size⟩
theorem SInv.pop' {w : World} {B : Nat} {wr : World} {nest ent wid t g cap : Nat} {s : List Nat} (h : SInv w B wr (.slice (some ⟨g, 0, none⟩) (s.length + 1) cap) nest ent wid (t :: s)) :
    SInv w B wr (.slice (some ⟨g, 0, none⟩) s.length cap) nest ent wid s := by
  refine ⟨h.res, h.shape, ?_, h.bel, h.size⟩
  have hown := h.own
  refine ⟨by simp [stkC_length], ?_⟩
  rcases hown.2 with ⟨hv, _⟩ | ⟨g', cap', cur, hv, hg, hh, hle, hm, hcs, ht⟩
  · cases hv
  · cases hv
    refine .inr ⟨g, cap, cur, rfl, hg, hh, by simp only [List.length_cons] at hle; omega, hm, hcs, ?_⟩
    rw [← stkC_pop t s, ← ht, List.take_take]
    congr 1
    simp
theorem SInv.push' {w : World} {B : Nat} {wr w1 : World} {v v' : Value} {o : Obj} {nest ent wid : Nat} {stk : List Nat} (h : SInv w B wr v nest ent wid stk)
    (hown : w1.ownsRow (B + 2) 3 1 v' (stk.length + 1) (stkC stk ++ [.int .i64 0])) (hg : (wr.alloc o).grownBy w1 v.ownBlock) : SInv w B w1 v' nest ent wid (0 :: stk) := by
  have hlt : ∀ k, v.ownBlock = some k → B + 2 ≤ k := fun k hk => (h.own.lt k hk).1
  have hs := h.size
  have old : ∀ k, k < B + 2 → w1.heap[k]? = wr.heap[k]? := fun k hk => by
    rw [hg.block k (by simp; omega) (fun e => by have := hlt k e.symm; omega), Below.heap_alloc _ _ _ (by omega)]
  refine ⟨by rw [old B (by omega)]; exact h.res, by rw [old (B + 1) (by omega)]; exact h.shape, by rw [← stkC_push]; exact hown, (h.bel.alloc (by omega) o).grown hg (by simp; omega) (fun k hk => by have := hlt k hk; omega), ?_⟩
  have := hg.size
  simp at this
  omega
theorem SInv.val {w : World} {B : Nat} {wr : World} {v : Value} {nest ent wid : Nat} {stk : List Nat} (h : SInv w B wr v nest ent wid stk) : ∃ ao cap, v = .slice ao stk.length cap := by
  rcases h.own.2 with ⟨hv, h0⟩ | ⟨g, cap, cur, hv, _⟩
  · exact ⟨none, 0, by rw [hv, h0]⟩
  · exact ⟨_, _, hv⟩

theorem cell_new1 (w : World) (b : Nat) (hb : b = w.heap.size) (v : Value) (e : TypeId) : ∀ i u, [v][i]? = some u → (w.alloc (.cells #[v] e)).cell? ((⟨b, 0, none⟩ : Addr).add i) = some u := by
  subst hb
  intro i u hi
  match i, hi with
  | 0, hi => simp at hi; subst hi; simp [Addr.add]
theorem SInv_start (w : World) : SInv w w.heap.size ((w.alloc (.cells #[.int .i64 0, .int .i64 0, .int .i64 0] 42)).alloc (.cells #[.int .i64 0, .int .i64 0, .int .i64 0] 42)) (.slice none 0 0) 0 0 0 [] := by
  refine ⟨?_, ?_, World.ownsRow_nil _ _ _ _, ((Below.refl _ _).alloc (Nat.le_refl _) _).alloc (by simp) _, by simp⟩
  · rw [Below.heap_alloc _ _ _ (by simp)]
    exact heap_alloc_new w _
  · have := heap_alloc_new (w.alloc (.cells #[.int .i64 0, .int .i64 0, .int .i64 0] 42)) (.cells #[.int .i64 0, .int .i64 0, .int .i64 0] 42)
    simpa using this

theorem SInv.close {w : World} {B : Nat} {wr : World} {nest ent wid t g cap : Nat} {s : List Nat} (h : SInv w B wr (.slice (some ⟨g, 0, none⟩) (s.length + 1) cap) nest ent wid (t :: s)) (m : Nat) :
    SInv w B ((wr.setCell ⟨B + 1, 1, none⟩ (.int .i64 ((ent : Int) + (t : Int)))).setCell ⟨B + 1, 2, none⟩ (.int .i64 (m : Int))).drew.drew (.slice (some ⟨g, 0, none⟩) s.length cap) nest (ent + t) m s := by
  have := (((h.ent' (ent + t)).wid' m).pop').drewN 2
  rw [Int.natCast_add] at this
  exact this
/-- What a walk reads of the two structs. -/
theorem SInv.cells {w : World} {B : Nat} {wr : World} {v : Value} {nest ent wid : Nat} {stk : List Nat} (h : SInv w B wr v nest ent wid stk) :
    wr.cell? ⟨B + 1, 0, none⟩ = some (.int .i64 nest) ∧ wr.cell? ⟨B + 1, 1, none⟩ = some (.int .i64 ent) ∧ wr.cell? ⟨B + 1, 2, none⟩ = some (.int .i64 wid) ∧
    wr.cell? ⟨B, 0, none⟩ = some (.int .i64 0) ∧ wr.cell? ⟨B, 1, none⟩ = some (.int .i64 0) ∧ wr.cell? ⟨B, 2, none⟩ = some (.int .i64 0) ∧
    (∀ k, wr.frozen? ⟨B + 1, k, none⟩ = false) ∧ (∀ k, wr.frozen? ⟨B, k, none⟩ = false) := by
  refine ⟨?_, ?_, ?_, ?_, ?_, ?_, fun k => Lib.frozen_of_heap h.shape k, fun k => Lib.frozen_of_heap h.res k⟩
  · rw [Lib.cell_of_heap h.shape]; rfl
  · rw [Lib.cell_of_heap h.shape]; rfl
  · rw [Lib.cell_of_heap h.shape]; rfl
  · rw [Lib.cell_of_heap h.res]; rfl
  · rw [Lib.cell_of_heap h.res]; rfl
  · rw [Lib.cell_of_heap h.res]; rfl
theorem SInv.pushed {w : World} {B : Nat} {wr : World} {v : Value} {nest ent wid : Nat} {stk : List Nat} (h : SInv w B wr v nest ent wid (0 :: stk)) : ∃ g cp, v = .slice (some ⟨g, 0, none⟩) (stk.length + 1) cp := by
  obtain ⟨g, cp, e, _⟩ := h.top
  exact ⟨g, cp, e⟩

/-- The struct copied into the result variable. -/
theorem SInv.final {w : World} {B : Nat} {W : World} {v : Value} {N E D : Nat} {stk : List Nat} (h : SInv w B W v N E D stk) (x y z : Int) :
    (((W.setCell ⟨B, 0, none⟩ (.int .i64 x)).setCell ⟨B, 1, none⟩ (.int .i64 y)).setCell ⟨B, 2, none⟩ (.int .i64 z)).heap[B]? = some (.cells #[.int .i64 x, .int .i64 y, .int .i64 z] 42 (0, 0)) ∧
      Below B w (((W.setCell ⟨B, 0, none⟩ (.int .i64 x)).setCell ⟨B, 1, none⟩ (.int .i64 y)).setCell ⟨B, 2, none⟩ (.int .i64 z)) := by
  refine ⟨?_, ((h.bel.setCell (p := ⟨B, 0, none⟩) (Nat.le_refl _) _).setCell (p := ⟨B, 1, none⟩) (Nat.le_refl _) _).setCell (p := ⟨B, 2, none⟩) (Nat.le_refl _) _⟩
  simp [World.setCell, Array.getElem?_modify, h.res]

/-- shapeOf's end: its result variable is handed back. -/
theorem ret29 {R : Ending → World → Prop} {a : Act} {W : World} {B : Nat} {x y z : Int} (hq : W.heap[B]? = some (.cells #[.int .i64 x, .int .i64 y, .int .i64 z] 42 (0, 0))) (h2 : a.tmps[2]?.getD undef = .pointer (some ⟨B, 0, none⟩)) (hd : a.defers = [])
    (hR : R (.returned (.agg #[.int .i64 x, .int .i64 y, .int .i64 z])) W) : bodyPost Try.prog Try.f29 R Exit.ret a W := by
  have c0 : W.cell? ⟨B, 0, none⟩ = some (.int .i64 x) := by rw [Lib.cell_of_heap hq]; rfl
  have c1 : W.cell? ⟨B, 1, none⟩ = some (.int .i64 y) := by rw [Lib.cell_of_heap hq]; rfl
  have c2 : W.cell? ⟨B, 2, none⟩ = some (.int .i64 z) := by rw [Lib.cell_of_heap hq]; rfl
  exact bodyPost_ret (v := .agg #[.int .i64 x, .int .i64 y, .int .i64 z]) (by simp only [results, Try.results29]; simp [h2, go_sem, c0, c1, c2]) hd hR

/-! ### one pass, step by step -/
theorem shp_skip (nest ent wid : Nat) (stk : List Nat) (f : Bool) (c : Int) (r : List Int) (h1 : c ≠ 1) (h2 : c ≠ 2) (h3 : c ≠ 3) (h4 : c ≠ 4) : shp nest ent wid stk f (c :: r) = shp nest ent wid stk f r := by
  simp only [shp, if_neg h1, if_neg h2, if_neg h3, if_neg h4]
theorem shp_fives (nest ent wid : Nat) (stk : List Nat) (f : Bool) (k : Nat) (r : List Int) : shp nest ent wid stk f (List.replicate k 5 ++ r) = shp nest ent wid stk f r := by
  induction k with
  | zero => simp
  | succ k ih => rw [List.replicate_succ, List.cons_append, shp_skip _ _ _ _ _ 5 _ (by decide) (by decide) (by decide) (by decide), ih]
theorem shp_comma (nest ent wid : Nat) (stk : List Nat) (f : Bool) (r : List Int) : shp nest ent wid stk f (1 :: r) = shp nest ent wid stk (!stk.isEmpty) r := by simp only [shp, if_true]
theorem shp_close0 (nest ent wid : Nat) (f : Bool) (r : List Int) : shp nest ent wid [] f (3 :: r) = shp nest ent wid [] false r := by simp only [shp, show ¬ (3 : Int) = 1 by decide, if_false, if_true]
theorem shp_close1 (nest ent wid t : Nat) (s : List Nat) (f : Bool) (r : List Int) : shp nest ent wid (t :: s) f (3 :: r) = shp nest (ent + t) (max wid t) s false r := by simp only [shp, show ¬ (3 : Int) = 1 by decide, if_false, if_true]
theorem shp_value (nest ent wid : Nat) (stk : List Nat) (f : Bool) (r : List Int) : shp nest ent wid stk f (4 :: r) = shp nest ent wid (bump f stk) false r := by
  simp only [shp, show ¬ (4 : Int) = 1 by decide, show ¬ (4 : Int) = 3 by decide, if_false, if_true]
theorem shp_open (nest ent wid : Nat) (stk : List Nat) (f : Bool) (r : List Int) : shp nest ent wid stk f (2 :: r) =
    if max nest (stk.length + 1) > 64 then (max nest (stk.length + 1), ent, wid) else shp (max nest (stk.length + 1)) ent wid (0 :: bump f stk) true r := by
  simp only [shp, show ¬ (2 : Int) = 1 by decide, show ¬ (2 : Int) = 3 by decide, show ¬ (2 : Int) = 4 by decide, if_false, if_true]

theorem shp_val (c : Int) (r : List Int) (h1 : c ≠ 32) (h2 : c ≠ 9) (h3 : c ≠ 13) (h4 : c ≠ 10) (h5 : c ≠ 58) (h6 : c ≠ 44) (h7 : c ≠ 91) (h8 : c ≠ 123) (h9 : c ≠ 93) (h10 : c ≠ 125) (h11 : c ≠ 34)
    (nest ent wid : Nat) (stk : List Nat) (f : Bool) : shp nest ent wid stk f (clsf 0 (c :: r)) = shp nest ent wid (bump f stk) false (clsf 0 r) := by
  have e : cl c = 4 := by simp [cl, h1, h2, h3, h4, h5, h6, h7, h8, h9, h10]
  rw [clsf, e, if_neg h11, shp_value]
theorem shp_quote (r : List Int) (nest ent wid : Nat) (stk : List Nat) (f : Bool) : shp nest ent wid stk f (clsf 0 (34 :: r)) = shp nest ent wid (bump f stk) false (clsf 0 (r.drop (sE false r))) := by
  have e : clsf 0 (34 :: r) = 4 :: clsf 1 r := by simp [clsf, cl]
  rw [e, shp_value, clsf_str, shp_fives]
theorem shp_openC (c : Int) (hc : c = 91 ∨ c = 123) (r : List Int) (nest ent wid : Nat) (stk : List Nat) (f : Bool) : shp nest ent wid stk f (clsf 0 (c :: r)) =
    if max nest (stk.length + 1) > 64 then (max nest (stk.length + 1), ent, wid) else shp (max nest (stk.length + 1)) ent wid (0 :: bump f stk) true (clsf 0 r) := by
  have e : clsf 0 (c :: r) = 2 :: clsf 0 r := by rcases hc with rfl | rfl <;> simp [clsf, cl]
  rw [e, shp_open]
theorem shp_stop {c : Int} (hc : c = 91 ∨ c = 123) {r : List Int} {nest ent wid : Nat} {stk : List Nat} {f : Bool} (h1 : nest ≤ stk.length + 1) (h2 : 64 < stk.length + 1) : shp nest ent wid stk f (clsf 0 (c :: r)) = (stk.length + 1, ent, wid) := by
  rw [shp_openC c hc, Nat.max_eq_right h1, if_pos h2]
theorem shp_deeper {c : Int} (hc : c = 91 ∨ c = 123) {r : List Int} {nest ent wid : Nat} {stk : List Nat} {f : Bool} (h1 : nest ≤ stk.length + 1) (h2 : ¬ 64 < stk.length + 1) : shp nest ent wid stk f (clsf 0 (c :: r)) = shp (stk.length + 1) ent wid (0 :: bump f stk) true (clsf 0 r) := by
  rw [shp_openC c hc, Nat.max_eq_right h1, if_neg h2]
theorem shp_within {c : Int} (hc : c = 91 ∨ c = 123) {r : List Int} {nest ent wid : Nat} {stk : List Nat} {f : Bool} (h1 : stk.length + 1 ≤ nest) (h2 : nest ≤ 64) : shp nest ent wid stk f (clsf 0 (c :: r)) = shp nest ent wid (0 :: bump f stk) true (clsf 0 r) := by
  rw [shp_openC c hc, Nat.max_eq_left h1, if_neg (by omega)]
end Go.Proofs.Qxb6603898a
