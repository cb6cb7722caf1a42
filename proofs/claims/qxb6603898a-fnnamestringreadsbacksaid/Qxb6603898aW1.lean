import Derived.Test.Qxb6603898aRows
import Derived.Test.Qxb6603898aPlain
import Derived.WalkKit
import Derived.WalkSpells
import Derived.WalkLawsBesides
import Derived.Laws.CopyOwn
import Derived.Laws.IdiomCopy
namespace Go.Proofs.Qxb6603898a
open Go.RowKit

theorem ret_i64 {a b : Int} (h : a = b) : Ending.returned (.int .i64 a) = .returned (.int .i64 b) := by rw [h]
theorem Try.info5 : (Try.prog.info? 5).map (fun i => (i.zero, i.size, i.bytes)) = some (some (.int .u8 0), 1, 1) := by kernel_rfl
theorem cell_lt {w : World} {a : Addr} {v : Value} (h : w.cell? a = some v) : a.block < w.heap.size := by
  unfold World.cell? at h
  by_cases hb : a.block < w.heap.size
  · exact hb
  · rw [Array.getElem?_eq_none (by omega)] at h
    simp at h
def IsBool (e : Ending) : Prop := ∃ b : Bool, e = .returned (.bool b)
theorem nil22 (w : World) (a : Option Addr) (n c n' c' : Nat) : (binOp .eql 22 (.slice a n c) (.slice none n' c')).run Try.prog w = .ok (.bool a.isNone) w := Lib.run_eql_slice_nil w _ _ a n c n' c' Try.underlying22

/-- What the walk is told of a []byte: its bytes, and where they lie. -/
def RowB (w : World) (a : Option Addr) (n : Nat) (zs : List Int) : Prop :=
  zs.length = n ∧ ((a = none ∧ n = 0) ∨ ∃ x, a = some x ∧ ∀ i, i < n → w.cell? (x.add i) = some (.int .u8 (zs.getD i 0)))
theorem RowB.below {w w' : World} {a : Option Addr} {n : Nat} {zs : List Int} (h : RowB w a n zs) (hb : Below w.heap.size w w') : RowB w' a n zs := by
  obtain ⟨h1, h | ⟨x, e, h3⟩⟩ := h
  · exact ⟨h1, .inl h⟩
  · exact ⟨h1, .inr ⟨x, e, fun i hi => (hb.cell (cell_lt (h3 i hi))).trans (h3 i hi)⟩⟩
theorem RowB.cell {w : World} {a : Option Addr} {n : Nat} {zs : List Int} (h : RowB w a n zs) {i : Nat} (hi : i < n) : ∃ x, a = some x ∧ w.cell? (x.add i) = some (.int .u8 (zs.getD i 0)) := by
  obtain ⟨h1, ⟨_, h⟩ | ⟨x, e, h3⟩⟩ := h
  · omega
  · exact ⟨x, e, h3 i hi⟩
theorem RowB.take {w : World} {a : Option Addr} {n : Nat} {zs : List Int} (h : RowB w a n zs) {r : Nat} (hr : r ≤ n) : RowB w a r (zs.take r) := by
  obtain ⟨h1, ⟨e, h⟩ | ⟨x, e, h3⟩⟩ := h
  · exact ⟨by simp; omega, .inl ⟨e, by omega⟩⟩
  · refine ⟨by simp; omega, .inr ⟨x, e, fun i hi => ?_⟩⟩
    rw [h3 i (by omega), List.getD_eq_getElem?_getD, List.getD_eq_getElem?_getD, List.getElem?_take, if_pos hi]
theorem drop_cons (zs : List Int) (k : Nat) (h : k < zs.length) : zs.drop k = zs.getD k 0 :: zs.drop (k + 1) := by
  rw [List.drop_eq_getElem_cons h, List.getD_eq_getElem?_getD, List.getElem?_eq_getElem h, Option.getD_some]

/-! ### zzBytes -/
theorem bytes13 (a : Option Addr) (n c : Nat) (i : Int) (w : World) (hn : n ≤ maxLen) : Calls Try.prog 13 #[.slice a n c, .int .i64 i] w fun e w' => IsBool e ∧ w' = w := by
  unfold maxLen at hn
  go_enter Try.func13, Try.ntmps13
  go_wp2
  all_goals (go_ret; exact ⟨⟨_, rfl⟩, rfl⟩)
theorem bytes9 (a : Option Addr) (n c : Nat) (i : Int) (w : World) (hn : n ≤ maxLen) : Calls Try.prog 9 #[.slice a n c, .int .i64 i] w fun e w' => IsBool e ∧ w' = w := by
  unfold maxLen at hn
  go_enter Try.func9, Try.ntmps9
  go_wp2
  all_goals (go_ret; exact ⟨⟨_, rfl⟩, rfl⟩)
theorem bytes14 (a : Option Addr) (n c : Nat) (w : World) (hn : n ≤ maxLen) : Calls Try.prog 14 #[.slice a n c] w fun e w' => IsBool e ∧ w' = w := by
  unfold maxLen at hn
  go_enter Try.func14, Try.ntmps14
  go_wp2
  all_goals (go_ret; exact ⟨⟨_, rfl⟩, rfl⟩)

/-! ### zzCopyBytes -/
/-- 'make([]T, n)', T of one cell: the new block holds n zero values. -/
theorem run_make_flat {P : Program} (w : World) (t e : TypeId) (z : Value) (bytes n : Nat) (ht : P.underlying t = some (.slice e))
    (hI : (P.info? e).map (fun i => (i.zero, i.size, i.bytes)) = some (some z, 1, bytes)) (hz : z.cells = #[z]) (hb : bytes * n ≤ 281474976710656) (hn : n ≤ 281474976710656) :
    (Instr.makeSlice t (.int .i64 n) (.int .i64 n)).run P w = .ok (.slice (some ⟨w.heap.size, 0, none⟩) n n) (w.alloc (.cells (List.replicate n z).toArray e)) := by
  obtain ⟨i0, hi, hz0, hz1, hz2⟩ := info_parts hI
  clear hI
  subst hz2
  have hb' : (i0.bytes : Int) * (n : Int) ≤ 281474976710656 := by
    have h : ((i0.bytes * n : Nat) : Int) ≤ 281474976710656 := by omega
    rwa [Int.natCast_mul] at h
  have := run_make (P := P) w t e i0 z ht hi hz0 .i64 .i64 n n (by omega) (by omega) hb' (by omega)
  rw [this, hz, hz1, ← toList_madeCells_one]
  simp
theorem setRow_new (w : World) (cur cs : Array Value) (e : TypeId) : (w.alloc (.cells cur e)).setRow w.heap.size cs = w.alloc (.cells cs e) := by
  unfold World.setRow World.alloc
  congr 1
  apply Array.ext_getElem?
  intro i
  rw [Array.getElem?_modify, Array.getElem?_push, Array.getElem?_push]
  by_cases h : i = w.heap.size
  · subst h; simp
  · rw [if_neg (fun e => h e.symm), if_neg h, if_neg h]
theorem cells_new (w : World) (cs : List Value) (e : TypeId) : ∀ j u, cs[j]? = some u → (w.alloc (.cells cs.toArray e)).cell? ((⟨w.heap.size, 0, none⟩ : Addr).add j) = some u := fun j u hj => by
  by_cases e0 : j = 0
  · subst e0; simp [Addr.add, hj]
  · simp [Addr.add, e0, hj]

theorem copy_eq (x : Addr) (n cap : Nat) (zs : List Int) (w : World) (hz : zs.length = n) (hc : ∀ i, i < n → w.cell? (x.add i) = some (.int .u8 (zs.getD i 0))) (ty : TypeId) :
    (Builtin.copy_ #[22, 22] ty #[.slice (some ⟨w.heap.size, 0, none⟩) n n, .slice (some x) n cap]).run Try.prog (w.alloc (.cells (Array.replicate n (.int .u8 0)) 5)) = .ok (.int .i64 n) (w.alloc (.cells (zs.map (Value.int .u8)).toArray 5)) := by
  have := run_copy_row (P := Try.prog) (w.alloc (.cells (Array.replicate n (.int .u8 0)) 5)) 22 22 ty 5 w.heap.size 0 n n x n cap (Array.replicate n (.int .u8 0)) 5 (zs.map (Value.int .u8)) Try.underlying22 (by kernel_rfl)
    (heap_alloc_new w _) (by simp [hz]) (fun j v hj => ?_) (by simp [hz]) (by intro v hv; obtain ⟨z, _, rfl⟩ := List.mem_map.1 hv; rfl)
  · rw [this, setRow_new]
    simp [goInt, hz]
  · have hj' : j < zs.length := by have := (List.getElem?_eq_some_iff.1 hj).1; simpa using this
    have hcj := hc j (by omega)
    rw [List.getElem?_map, List.getElem?_eq_getElem hj', Option.map_some] at hj
    rw [List.getD_eq_getElem?_getD, List.getElem?_eq_getElem hj', Option.getD_some] at hcj
    rw [← hj, ← hcj]
    exact ((Below.refl w.heap.size w).alloc (Nat.le_refl _) _).cell (cell_lt hcj)

set_option maxHeartbeats 400000 in
theorem copy_some (x : Addr) (n cap : Nat) (zs : List Int) (w : World) (hz : zs.length = n) (hn : n ≤ 1048576) (hc : ∀ i, i < n → w.cell? (x.add i) = some (.int .u8 (zs.getD i 0))) :
    Calls Try.prog 10 #[.slice (some x) n cap] w fun e w' => e = .returned (.slice (some ⟨w.heap.size, 0, none⟩) n n) ∧ w' = w.alloc (.cells (zs.map (Value.int .u8)).toArray 5) := by
  have hq := nil22
  have hmk := fun w => run_make_flat (P := Try.prog) w 22 5 (.int .u8 0) 1 n Try.underlying22 Try.info5 rfl (by omega) (by omega)
  have hcp := copy_eq x n cap zs w hz hc
  go_enter Try.func10, Try.ntmps10
  go_wp2
  go_ret
  exact ⟨rfl, rfl⟩
theorem copy_nil (w : World) : Calls Try.prog 10 #[.slice none 0 0] w fun e w' => e = .returned (.slice none 0 0) ∧ w' = w := by
  have hq := nil22
  go_enter Try.func10, Try.ntmps10
  go_wp2
  go_ret
  exact ⟨rfl, rfl⟩
/-- zzCopyBytes: the same bytes, in memory of its own. -/
theorem copy_any (a : Option Addr) (n cap : Nat) (zs : List Int) (w : World) (hcap : a = none → cap = 0) (h : RowB w a n zs) (hn : n ≤ 1048576) :
    Calls Try.prog 10 #[.slice a n cap] w fun e w' => ∃ a' c', e = .returned (.slice a' n c') ∧ n ≤ c' ∧ RowB w' a' n zs ∧ Below w.heap.size w w' := by
  obtain ⟨h1, ⟨rfl, rfl⟩ | ⟨x, rfl, h3⟩⟩ := h
  · rw [hcap rfl]
    refine (copy_nil w).mono ?_
    rintro e w' ⟨rfl, rfl⟩
    exact ⟨none, 0, rfl, Nat.le_refl _, ⟨h1, .inl ⟨rfl, rfl⟩⟩, Below.refl _ _⟩
  · refine (copy_some x n cap zs w h1 hn h3).mono ?_
    rintro e w' ⟨rfl, rfl⟩
    refine ⟨_, _, rfl, Nat.le_refl _, ⟨h1, .inr ⟨⟨w.heap.size, 0, none⟩, rfl, fun i hi => ?_⟩⟩, (Below.refl _ _).alloc (Nat.le_refl _) _⟩
    exact cells_new w (zs.map (.int .u8)) 5 i _ (by rw [List.getElem?_map, List.getElem?_eq_getElem (by omega), Option.map_some, List.getD_eq_getElem?_getD, List.getElem?_eq_getElem (by omega), Option.getD_some])
end Go.Proofs.Qxb6603898a
