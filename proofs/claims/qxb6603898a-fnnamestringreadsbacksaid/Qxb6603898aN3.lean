import Derived.Test.Qxb6603898aN2
import Derived.Laws.CopyRow
import Derived.RegionTactic
import Derived.ChangeAlike
namespace Go.Proofs.Qxb6603898a
open Go.RowKit

/-! ### pairs in a row of cells -/
def flat : List Pair → List Value
  | [] => []
  | p :: ps => .string p.1 :: .string p.2 :: flat ps
theorem flat_length (ps : List Pair) : (flat ps).length = ps.length * 2 := by
  induction ps with
  | nil => rfl
  | cons p ps ih => simp [flat, ih]; omega
theorem flat_append (ps qs : List Pair) : flat (ps ++ qs) = flat ps ++ flat qs := by
  induction ps with
  | nil => rfl
  | cons p ps ih => simp [flat, ih]
theorem flat_even (ps : List Pair) (i : Nat) (h : i < ps.length) : (flat ps)[i * 2]? = some (.string (ps.getD i nopair).1) := by
  induction ps generalizing i with
  | nil => simp at h
  | cons p ps ih =>
    cases i with
    | zero => simp [flat]
    | succ i =>
      have := ih i (by simpa using h)
      rw [show (i + 1) * 2 = (i * 2 + 1) + 1 by omega]
      simpa [flat] using this
theorem flat_odd (ps : List Pair) (i : Nat) (h : i < ps.length) : (flat ps)[i * 2 + 1]? = some (.string (ps.getD i nopair).2) := by
  induction ps generalizing i with
  | nil => simp at h
  | cons p ps ih =>
    cases i with
    | zero => simp [flat]
    | succ i =>
      have := ih i (by simpa using h)
      rw [show (i + 1) * 2 + 1 = (i * 2 + 1 + 1) + 1 by omega]
      simpa [flat] using this
/-- A block that holds the pairs, told as RowP. -/
theorem flat_row (w : World) (ps : List Pair) (t : TypeId) (hz : ∀ p ∈ ps, p.1.size ≤ maxLen ∧ p.2.size ≤ maxLen) : RowP (w.alloc (.cells (flat ps).toArray t)) (some ⟨w.heap.size, 0, none⟩) ps.length ps := by
  refine ⟨rfl, hz, .inr ⟨_, rfl, fun i hi => ⟨cells_new w _ t _ _ (flat_even ps i hi), ?_⟩⟩⟩
  have h := cells_new w _ t (i * 2 + 1) _ (flat_odd ps i hi)
  have e : (⟨((⟨w.heap.size, 0, none⟩ : Addr).add (i * 2)).block, ((⟨w.heap.size, 0, none⟩ : Addr).add (i * 2)).off + 1, none⟩ : Addr) = (⟨w.heap.size, 0, none⟩ : Addr).add (i * 2 + 1) := by
    unfold Addr.add
    by_cases h0 : i * 2 = 0
    · rw [if_pos h0, if_neg (by omega), h0]
    · rw [if_neg h0, if_neg (by omega)]
      simp
  rw [e]; exact h
theorem made2 (z : Value) (n : Nat) : madeCells #[z, z] n = (List.replicate n z).toArray := by
  apply Array.ext
  · simp [madeCells]
  · intro i h1 h2
    have : i % 2 < 2 := Nat.mod_lt _ (by decide)
    simp [madeCells]
    rcases (by omega : i % 2 = 0 ∨ i % 2 = 1) with e | e <;> simp [e]
/-- 'make([]T, n)', T of two cells of one zero value. -/
theorem run_make_two {P : Program} (w : World) (t e : TypeId) (z : Value) (y : Value) (bytes n : Nat) (ht : P.underlying t = some (.slice e))
    (hI : (P.info? e).map (fun i => (i.zero, i.size, i.bytes)) = some (some z, 2, bytes)) (hz : z.cells = #[y, y]) (hb : bytes * n ≤ 281474976710656) (hn : n ≤ 281474976710656) :
    (Instr.makeSlice t (.int .i64 n) (.int .i64 n)).run P w = .ok (.slice (some ⟨w.heap.size, 0, none⟩) n n) (w.alloc (.cells (List.replicate (n * 2) y).toArray e)) := by
  obtain ⟨i0, hi, hz0, hz1, hz2⟩ := info_parts hI
  clear hI
  subst hz2
  have hb' : (i0.bytes : Int) * (n : Int) ≤ 281474976710656 := by
    have h : ((i0.bytes * n : Nat) : Int) ≤ 281474976710656 := by omega
    rwa [Int.natCast_mul] at h
  have := run_make (P := P) w t e i0 z ht hi hz0 .i64 .i64 n n (by omega) (by omega) hb' (by omega)
  rw [this, hz, hz1, made2]
  simp
/-- 'copy' of elements of two cells. -/
theorem run_copy_two {P : Program} (w : World) (dT sT ty elem : TypeId) (g o dLen dCap : Nat) (a : Addr) (sLen sCap : Nat) (cur : Array Value) (t : TypeId) (cs : List Value)
    (hu : P.underlying dT = some (.slice elem)) (hs : (P.info? elem).map (·.size) = some 2)
    (hg : w.heap[g]? = some (.cells cur t (0, 0))) (hn : cs.length = Nat.min sLen dLen * 2)
    (hsrc : ∀ j v, cs[j]? = some v → w.cell? (a.add j) = some v) (hfit : o + cs.length ≤ cur.size) (h1 : ∀ v ∈ cs, v.oneCell' = true) :
    (Builtin.copy_ #[dT, sT] ty #[.slice (some ⟨g, o, none⟩) dLen dCap, .slice (some a) sLen sCap]).run P w =
      .ok (goInt (Nat.min sLen dLen)) (w.setRow g (cur.toList.take o ++ cs ++ cur.toList.drop (o + cs.length)).toArray) := by
  have hl := run_loadCells_list (P := P) w a cs hsrc
  have hst := run_storeCells_at P g o t cs 0 cur w hg (by simpa using hfit) h1
  cases hq : P.info? elem with
  | none => simp [hq] at hs
  | some i =>
    have hi : i.size = 2 := by simpa [hq] using hs
    simp [Builtin.copy_, run_underlying hu, Builtin.lenOf, Builtin.firstCells, sizeOf, typeInfo, hq, hi, ← hn, hl, hst]

theorem Try.info36 : (Try.prog.info? 36).map (fun i => (i.zero, i.size, i.bytes)) = some (some (.agg #[.string ⟨#[]⟩, .string ⟨#[]⟩]), 2, 32) := by kernel_rfl
theorem Try.info48 : (Try.prog.info? 48).map (fun i => (i.zero, i.size, i.bytes)) = some (some (.agg #[.string ⟨#[]⟩, .string ⟨#[]⟩]), 2, 32) := by kernel_rfl
theorem nil32 (w : World) (a : Option Addr) (n c n' c' : Nat) : (binOp .eql 32 (.slice a n c) (.slice none n' c')).run Try.prog w = .ok (.bool a.isNone) w := Lib.run_eql_slice_nil w _ _ a n c n' c' Try.underlying32

/-! ### zzCopyPairs -/
theorem RowP.cells {w : World} {x : Addr} {n : Nat} {ps : List Pair} (h : RowP w (some x) n ps) : ∀ j v, (flat ps)[j]? = some v → w.cell? (x.add j) = some v := by
  obtain ⟨h1, h2, ⟨h, _⟩ | ⟨x', e, h3⟩⟩ := h
  · cases h
  · obtain rfl := Option.some.inj e
    intro j v hj
    have hl : j < ps.length * 2 := by rw [← flat_length]; exact (List.getElem?_eq_some_iff.1 hj).1
    obtain ⟨i, rfl | rfl⟩ : ∃ i, j = i * 2 ∨ j = i * 2 + 1 := ⟨j / 2, by omega⟩
    · rw [flat_even ps i (by omega)] at hj
      rw [(h3 i (by omega)).1, ← hj]
    · rw [flat_odd ps i (by omega)] at hj
      rw [← hj, ← (h3 i (by omega)).2]
      congr 1
      unfold Addr.add
      rw [if_neg (by omega)]
      by_cases h0 : i * 2 = 0
      · rw [if_pos h0, h0]
      · rw [if_neg h0]; rfl
theorem copy_eq2 (x : Addr) (n cap : Nat) (ps : List Pair) (w : World) (h : RowP w (some x) n ps) (ty : TypeId) :
    (Builtin.copy_ #[32, 32] ty #[.slice (some ⟨w.heap.size, 0, none⟩) n n, .slice (some x) n cap]).run Try.prog (w.alloc (.cells (Array.replicate (n * 2) (.string ⟨#[]⟩)) 36)) = .ok (.int .i64 n) (w.alloc (.cells (flat ps).toArray 36)) := by
  have hl := flat_length ps
  have h1 := h.1
  have := run_copy_two (P := Try.prog) (w.alloc (.cells (Array.replicate (n * 2) (.string ⟨#[]⟩)) 36)) 32 32 ty 36 w.heap.size 0 n n x n cap (Array.replicate (n * 2) (.string ⟨#[]⟩)) 36 (flat ps) Try.underlying32 (by kernel_rfl)
    (heap_alloc_new w _) (by simp [hl, h1]) (fun j v hj => ?_) (by simp [hl, h1]) (by
      intro v hv
      obtain ⟨j, hj⟩ := List.mem_iff_getElem?.1 hv
      have hj2 : j < ps.length * 2 := by rw [← flat_length]; exact (List.getElem?_eq_some_iff.1 hj).1
      obtain ⟨i, rfl | rfl⟩ : ∃ i, j = i * 2 ∨ j = i * 2 + 1 := ⟨j / 2, by omega⟩
      · rw [flat_even ps i (by omega)] at hj; cases hj; rfl
      · rw [flat_odd ps i (by omega)] at hj; cases hj; rfl)
  · rw [this, setRow_new]
    simp [goInt, hl, h1]
  · have hcj := h.cells j v hj
    rw [← hcj]
    exact ((Below.refl w.heap.size w).alloc (Nat.le_refl _) _).cell (cell_lt hcj)
set_option maxHeartbeats 400000 in
theorem pairs_some (x : Addr) (n cap : Nat) (ps : List Pair) (w : World) (hn : n ≤ 1048576) (h : RowP w (some x) n ps) :
    Calls Try.prog 19 #[.slice (some x) n cap] w fun e w' => e = .returned (.slice (some ⟨w.heap.size, 0, none⟩) n n) ∧ w' = w.alloc (.cells (flat ps).toArray 36) := by
  have hq := nil32
  have hmk := fun w => run_make_two (P := Try.prog) w 32 36 _ (.string ⟨#[]⟩) 32 n Try.underlying32 Try.info36 rfl (by omega) (by omega)
  have hcp := copy_eq2 x n cap ps w h
  clear h
  go_enter Try.func19, Try.ntmps19
  go_wp2
  go_ret
  exact ⟨rfl, rfl⟩
theorem pairs_nil (w : World) : Calls Try.prog 19 #[.slice none 0 0] w fun e w' => e = .returned (.slice none 0 0) ∧ w' = w := by
  have hq := nil32
  go_enter Try.func19, Try.ntmps19
  go_wp2
  go_ret
  exact ⟨rfl, rfl⟩
/-- zzCopyPairs: the same pairs, in memory of its own. -/
theorem pairs_any (a : Option Addr) (n cap : Nat) (ps : List Pair) (w : World) (hcap : a = none → cap = 0) (h : RowP w a n ps) (hn : n ≤ 1048576) :
    Calls Try.prog 19 #[.slice a n cap] w fun e w' => ∃ a' c', e = .returned (.slice a' n c') ∧ n ≤ c' ∧ (a' = none → c' = 0) ∧ RowP w' a' n ps ∧ Below w.heap.size w w' := by
  have h' := h
  obtain ⟨h1, h2, ⟨rfl, rfl⟩ | ⟨x, rfl, h3⟩⟩ := h
  · rw [hcap rfl]
    refine (pairs_nil w).mono ?_
    rintro e w' ⟨rfl, rfl⟩
    exact ⟨none, 0, rfl, Nat.le_refl _, fun _ => rfl, h', Below.refl _ _⟩
  · refine (pairs_some x n cap ps w hn h').mono ?_
    rintro e w' ⟨rfl, rfl⟩
    refine ⟨_, _, rfl, Nat.le_refl _, (fun h => by cases h), ?_, (Below.refl _ _).alloc (Nat.le_refl _) _⟩
    have := flat_row w ps 36 h2
    rwa [h1] at this
end Go.Proofs.Qxb6603898a
