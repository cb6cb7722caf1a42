import Derived.Test.Qxb6603897aW1
import Derived.Deep.RegionHeld3
import Derived.StillTactics
namespace Go.Proofs.Qxb6603897a
open Go.RowKit

/-- A pointer that came in. -/
def ArgP (w : World) (p : Option Addr) : Prop := p = none ∨ ∃ b o f, p = some ⟨b, o, none⟩ ∧ w.cell? ⟨b, o, none⟩ = some (.float .f64 f) ∧ w.frozen? ⟨b, o, none⟩ = false

theorem run_store_float (w : World) (a : Addr) (m : Mode) (f : Nat) : (store a (.float .f64 f) m).run Try.prog w = stored Try.prog w a (.float .f64 f) m := run_store Try.prog w a _ m rfl

set_option maxHeartbeats 1000000 in
theorem copy_any (p q : Option Addr) (w : World) (h : ArgP w p) (k : ArgP w q) :
    Calls Try.prog 4 #[.pointer p, .pointer q] w fun e w' => ∃ p' q' m n, e = .returned (.tuple #[.pointer p', .pointer q']) ∧ End w' p' m ∧ End w' q' n ∧ Below w.heap.size w w' := by
  have hst := run_store_float
  rcases h with rfl | ⟨b, o, f, rfl, hc, hf⟩ <;> rcases k with rfl | ⟨b', o', f', rfl, hc', hf'⟩
  · go_enter Try.func4, Try.ntmps4
    go_wp2
    go_ret2
    exact ⟨none, none, none, none, rfl, .inl ⟨rfl, rfl⟩, .inl ⟨rfl, rfl⟩, Below.refl _ _⟩
  · go_enter Try.func4, Try.ntmps4
    go_wp2
    go_ret2
    exact ⟨none, _, none, _, rfl, .inl ⟨rfl, rfl⟩, .inr ⟨w.heap.size, 0, f', rfl, rfl, by simp⟩, (Below.refl _ _).alloc (Nat.le_refl _) _⟩
  · go_enter Try.func4, Try.ntmps4
    go_wp2
    go_ret2
    exact ⟨_, none, _, none, rfl, .inr ⟨w.heap.size, 0, f, rfl, rfl, by simp⟩, .inl ⟨rfl, rfl⟩, (Below.refl _ _).alloc (Nat.le_refl _) _⟩
  · have hb := (Below.refl w.heap.size w).alloc (Nat.le_refl _) (.cells #[.float .f64 f] 23)
    have hcx := (hb.cell (cell_lt hc)).trans hc
    have hcx' := (hb.cell (cell_lt hc')).trans hc'
    obtain ⟨r, nq, heq⟩ := eql_ptr_any (w.alloc (.cells #[.float .f64 f] 23)) ⟨b', o', none⟩ ⟨b, o, none⟩ _ _ hcx' hcx ((hb.frozen (cell_lt hc')).trans hf')
    have hbN : Below w.heap.size w ((w.alloc (.cells #[.float .f64 f] 23)).drewN nq) := ⟨hb.os, hb.tape, hb.output, hb.size, hb.block⟩
    cases r
    · go_enter Try.func4, Try.ntmps4
      go_wp2
      go_ret2
      exact ⟨_, _, _, _, rfl, .inr ⟨w.heap.size, 0, f, rfl, rfl, by rw [World.cell?_alloc_past _ _ _ (by simp)]; simp⟩, .inr ⟨w.heap.size + 1, 0, f', rfl, rfl, by rw [World.cell?_alloc_at _ _ _ _ (by simp)]; rfl⟩, hbN.alloc (by simp) _⟩
    · go_enter Try.func4, Try.ntmps4
      go_wp2
      go_ret2
      exact ⟨_, _, _, _, rfl, .inr ⟨w.heap.size, 0, f, rfl, rfl, by simp⟩, .inr ⟨w.heap.size, 0, f, rfl, rfl, by simp⟩, hbN⟩

theorem neq_same (w : World) (p : Option Addr) : (binOp .neq 22 (.pointer p) (.pointer p)).run Try.prog w = .ok (.bool false) w := by
  obtain ⟨j, hj, hjs⟩ := Option.map_eq_some_iff.1 info23
  cases p with
  | none => kernel_rfl
  | some a => exact Lib.run_neq_ptr_same (P := Try.prog) w a Try.underlying22 hj

theorem End.alloc {w : World} {p : Option Addr} {m : Option Nat} (h : End w p m) (o : Obj) : End (w.alloc o) p m := h.below ((Below.refl _ _).alloc (Nat.le_refl _) _)
theorem End.drew {w : World} {p : Option Addr} {m : Option Nat} (h : End w p m) : End w.drew p m := h

set_option maxHeartbeats 1000000 in
theorem law (p q : Option Addr) (x y : Bool) (v : Nat) (w : World) (h : ArgP w p) (k : ArgP w q) :
    Calls Try.prog 3 #[.pointer p, .pointer q, .bool x, .bool y, .float .f64 v] w fun e w' => e = .returned (.bool true) ∧ Below w.heap.size w w' := by
  have hle := run_leq
  have hge := run_geq
  have hnq := neq_same
  go_enter Try.func3, Try.ntmps3
  go_wp2_with fail
  refine (copy_any p q w h k).mono ?_
  rintro e W ⟨p', q', m, n, rfl, hp, hq, hb⟩
  go_wp2_with fail
  refine (bounds_any p' q' x y W).mono ?_
  rintro e w' ⟨rfl, rfl⟩
  go_wp2_with fail
  refine (zz_any p' q' m x y _ (hp.below (((Below.refl _ _).alloc (Nat.le_refl _) _).alloc (by simp) _))).mono ?_
  rintro e w' ⟨rfl, c1, c2, c3, c4, rfl⟩
  rcases hp with ⟨rfl, rfl⟩ | ⟨b, o, f, rfl, rfl, hc⟩
  · simp only [cut]
    cases x
    · cases e0 : geF v 0
      · go_wp2
        go_ret
        exact ⟨rfl, hb.trans (Below.mono (by repeat (first | exact Below.refl _ _ | apply Below.drew | refine Below.alloc ?_ (by simp <;> omega) _)) hb.size)⟩
      · go_wp2
        go_region_held3 (fun w' => w'.cell? ⟨W.heap.size + 1, 0, none⟩ = some (.pointer none) ∧ w'.cell? ⟨W.heap.size + 1, 1, none⟩ = some (.pointer q') ∧ w'.cell? ⟨W.heap.size + 1, 2, none⟩ = some (.bool false) ∧ w'.cell? ⟨W.heap.size + 1, 3, none⟩ = some (.bool y) ∧ w'.cell? ⟨W.heap.size + 1 + 1 + 1 + 1 + 1 + 1, 0, none⟩ = some (.pointer none) ∧ w'.cell? ⟨W.heap.size + 1 + 1 + 1 + 1 + 1 + 1, 1, none⟩ = some (.pointer q') ∧ w'.cell? ⟨W.heap.size + 1 + 1 + 1 + 1 + 1 + 1, 2, none⟩ = some (.bool false) ∧ w'.cell? ⟨W.heap.size + 1 + 1 + 1 + 1 + 1 + 1, 3, none⟩ = some (.bool y)) (simp [go_sem, World.cell?_alloc_past])
          (first
            | (go_at_call 7; refine (admits_any none q' none n false y v _ (.inl ⟨rfl, rfl⟩) ?_).mono ?_; rotate_left; rintro e w' ⟨rfl, rfl⟩; rotate_left; repeat (first | with_reducible exact hq | with_reducible apply End.drew | with_reducible apply End.alloc)))
        go_wp2
        go_ret
        exact ⟨rfl, hb.trans (Below.mono (by repeat (first | exact Below.refl _ _ | apply Below.drew | refine Below.alloc ?_ (by simp <;> omega) _)) hb.size)⟩
    · go_wp2
      go_ret
      exact ⟨rfl, hb.trans (Below.mono (by repeat (first | exact Below.refl _ _ | apply Below.drew | refine Below.alloc ?_ (by simp <;> omega) _)) hb.size)⟩
  · have hE : End W (some ⟨b, o, none⟩) (some f) := .inr ⟨b, o, f, rfl, rfl, hc⟩
    have hcx : ∀ o1 o2 o3 o4 o5 o6 o7, (((((((W.alloc o1).alloc o2).alloc o3).alloc o4).alloc o5).alloc o6).alloc o7).cell? ⟨b, o, none⟩ = some (.float .f64 f) := fun o1 o2 o3 o4 o5 o6 o7 => by
      rw [← hc]
      refine Below.cell (B := W.heap.size) ?_ (cell_lt hc)
      repeat (first | exact Below.refl _ _ | refine Below.alloc ?_ (by simp <;> omega) _)
    cases e1 : leF f 0
    · have ec : cut (some ⟨b, o, none⟩) (some f) = some ⟨b, o, none⟩ := by simp [cut, e1]
      rw [ec]
      clear ec
      cases x
      · cases e0 : geF v 0
        · go_wp2
          go_ret
          exact ⟨rfl, hb.trans (Below.mono (by repeat (first | exact Below.refl _ _ | apply Below.drew | refine Below.alloc ?_ (by simp <;> omega) _)) hb.size)⟩
        · go_wp2
          go_region_held3 (fun w' => w'.cell? ⟨W.heap.size + 1, 0, none⟩ = some (.pointer (some ⟨b, o, none⟩)) ∧ w'.cell? ⟨W.heap.size + 1, 1, none⟩ = some (.pointer q') ∧ w'.cell? ⟨W.heap.size + 1, 2, none⟩ = some (.bool false) ∧ w'.cell? ⟨W.heap.size + 1, 3, none⟩ = some (.bool y) ∧ w'.cell? ⟨W.heap.size + 1 + 1 + 1 + 1 + 1 + 1, 0, none⟩ = some (.pointer (some ⟨b, o, none⟩)) ∧ w'.cell? ⟨W.heap.size + 1 + 1 + 1 + 1 + 1 + 1, 1, none⟩ = some (.pointer q') ∧ w'.cell? ⟨W.heap.size + 1 + 1 + 1 + 1 + 1 + 1, 2, none⟩ = some (.bool false) ∧ w'.cell? ⟨W.heap.size + 1 + 1 + 1 + 1 + 1 + 1, 3, none⟩ = some (.bool y)) (simp [go_sem, World.cell?_alloc_past])
            (first
              | (go_at_call 7; refine (admits_any (some ⟨b, o, none⟩) q' (some f) n false y v _ ?_ ?_).mono ?_; rotate_left; rotate_left; rintro e w' ⟨rfl, rfl⟩; rotate_left; (repeat (first | with_reducible exact hE | with_reducible apply End.drew | with_reducible apply End.alloc)); repeat (first | with_reducible exact hq | with_reducible apply End.drew | with_reducible apply End.alloc)))
          go_wp2
          go_ret
          exact ⟨rfl, hb.trans (Below.mono (by repeat (first | exact Below.refl _ _ | apply Below.drew | refine Below.alloc ?_ (by simp <;> omega) _)) hb.size)⟩
      · go_wp2
        go_ret
        exact ⟨rfl, hb.trans (Below.mono (by repeat (first | exact Below.refl _ _ | apply Below.drew | refine Below.alloc ?_ (by simp <;> omega) _)) hb.size)⟩
    · have ec : cut (some ⟨b, o, none⟩) (some f) = none := by simp [cut, e1]
      rw [ec]
      clear ec
      cases x
      · cases e0 : geF v 0
        · go_wp2
          go_ret
          exact ⟨rfl, hb.trans (Below.mono (by repeat (first | exact Below.refl _ _ | apply Below.drew | refine Below.alloc ?_ (by simp <;> omega) _)) hb.size)⟩
        · have ea : adm (some f) n false y v = adm none n false y v := by simp [adm, ge_of_le_zero f v e1 e0]
          go_wp2
          go_region_held3 (fun w' => w'.cell? ⟨W.heap.size + 1, 0, none⟩ = some (.pointer (some ⟨b, o, none⟩)) ∧ w'.cell? ⟨W.heap.size + 1, 1, none⟩ = some (.pointer q') ∧ w'.cell? ⟨W.heap.size + 1, 2, none⟩ = some (.bool false) ∧ w'.cell? ⟨W.heap.size + 1, 3, none⟩ = some (.bool y) ∧ w'.cell? ⟨W.heap.size + 1 + 1 + 1 + 1 + 1 + 1, 0, none⟩ = some (.pointer none) ∧ w'.cell? ⟨W.heap.size + 1 + 1 + 1 + 1 + 1 + 1, 1, none⟩ = some (.pointer q') ∧ w'.cell? ⟨W.heap.size + 1 + 1 + 1 + 1 + 1 + 1, 2, none⟩ = some (.bool false) ∧ w'.cell? ⟨W.heap.size + 1 + 1 + 1 + 1 + 1 + 1, 3, none⟩ = some (.bool y)) (simp [go_sem, World.cell?_alloc_past])
            (first
              | (go_at_call_of 7 (Value.pointer none); refine (admits_any none q' none n false y v _ (.inl ⟨rfl, rfl⟩) ?_).mono ?_; rotate_left; rintro e w' ⟨rfl, rfl⟩; rotate_left; repeat (first | with_reducible exact hq | with_reducible apply End.drew | with_reducible apply End.alloc))
              | (go_at_call 7; refine (admits_any (some ⟨b, o, none⟩) q' (some f) n false y v _ ?_ ?_).mono ?_; rotate_left; rotate_left; rintro e w' ⟨rfl, rfl⟩; rotate_left; (repeat (first | with_reducible exact hE | with_reducible apply End.drew | with_reducible apply End.alloc)); repeat (first | with_reducible exact hq | with_reducible apply End.drew | with_reducible apply End.alloc)))
          go_wp2
          go_ret
          exact ⟨rfl, hb.trans (Below.mono (by repeat (first | exact Below.refl _ _ | apply Below.drew | refine Below.alloc ?_ (by simp <;> omega) _)) hb.size)⟩
      · go_wp2
        go_ret
        exact ⟨rfl, hb.trans (Below.mono (by repeat (first | exact Below.refl _ _ | apply Below.drew | refine Below.alloc ?_ (by simp <;> omega) _)) hb.size)⟩
end Go.Proofs.Qxb6603897a
