import Derived.Test.Qxb6603860aRows
import Derived.WalkKit
import Derived.WalkSpells
import Derived.WalkLawsBesides
import Derived.Maps.OwnSet
namespace Go.Proofs.Qxb6603860a
open Go.RowKit

theorem ret_bool {a b : Bool} (h : a = b) : Ending.returned (.bool a) = .returned (.bool b) := by rw [h]
theorem Try.info9 : (Try.prog.info? 9).map (fun i => (i.zero, i.size, i.bytes)) = some (some (.string ByteArray.empty), 1, 16) := by kernel_rfl
theorem Try.info3 : (Try.prog.info? 3).map (fun i => (i.zero, i.size, i.bytes)) = some (some (.int .i64 0), 1, 8) := by kernel_rfl

theorem cell_lt {w : World} {a : Addr} {v : Value} (h : w.cell? a = some v) : a.block < w.heap.size := by
  unfold World.cell? at h
  by_cases hb : a.block < w.heap.size
  · exact hb
  · rw [Array.getElem?_eq_none (by omega)] at h
    simp at h

theorem notin_snoc (zs : List Int) (k : Nat) (n : Int) (h : k < zs.length) (h0 : (zs.take k).contains n = false) (h1 : (zs[k] == n) = false) : (zs.take (k + 1)).contains n = false := by
  have h0' : n ∉ zs.take k := by simpa using h0
  have h1' : zs[k] ≠ n := by simpa using h1
  have : n ∉ zs.take (k + 1) := by
    rw [List.take_succ_eq_append_getElem h, List.mem_append, List.mem_singleton]
    exact fun hc => hc.elim h0' (fun e => h1' e.symm)
  simpa using this

/-! ### hasLengthB1 -/
set_option maxHeartbeats 400000 in
theorem hasLen_some (x : Addr) (len cap : Nat) (zs : List Int) (n : Int) (w : World) (hz : zs.length = len) (hm : len ≤ 65536)
    (hc : ∀ i, i < len → w.cell? (x.add i) = some (.int .i64 (zs.getD i 0))) :
    Calls Try.prog 11 #[.slice (some x) len cap, .int .i64 n] w fun e w' => e = .returned (.bool (zs.contains n)) ∧ w' = w := by
  have HZ : Hid (zs.length = len) := hz
  go_enter Try.func11, Try.ntmps11
  go_wp2
  go_loop [5] (fun i => ∃ k : Nat, k ≤ len ∧ i = .int .i64 k ∧ (zs.take k).contains n = false) (fun i => len - (intOf i).toNat)
  case atStart => exact ⟨0, Nat.zero_le _, rfl, by simp⟩
  case round =>
    obtain ⟨k, hk, rfl, hn⟩ := hrel
    by_cases hlt : k < len
    · have hcell := hc k (by omega)
      go_wp2
      · go_ret
        refine ⟨ret_bool ?_, rfl⟩
        have h1 : (zs[k] == n) = true := by assumption
        symm
        simp at h1 ⊢
        rw [← h1]
        exact List.getElem_mem _
      · have h1 : (zs[k] == n) = false := by assumption
        go_round
        case rel =>
          exact ⟨k + 1, by omega, by go_num, notin_snoc zs k n (by omega) hn h1⟩
        case measure => simp [intOf]; omega
    · go_wp2
      go_ret
      refine ⟨ret_bool ?_, rfl⟩
      rw [List.take_of_length_le (by omega)] at hn
      simp at hn ⊢
      exact hn

theorem hasLen_nil (n : Int) (w : World) :
    Calls Try.prog 11 #[.slice none 0 0, .int .i64 n] w fun e w' => e = .returned (.bool false) ∧ w' = w := by
  go_enter Try.func11, Try.ntmps11
  go_wp2
  go_loop [5] (fun i => i = .int .i64 0) (fun _ => 0)
  case atStart => rfl
  case round =>
    subst hrel
    go_wp2
    go_ret
    exact ⟨rfl, rfl⟩


/-! ### cloneStringsB1, cloneIntsB1 -/
theorem nil22 (w : World) (a : Option Addr) (n c n' c' : Nat) : (binOp .eql 22 (.slice a n c) (.slice none n' c')).run Try.prog w = .ok (.bool a.isNone) w := Lib.run_eql_slice_nil w _ _ a n c n' c' Try.underlying22
theorem nil23 (w : World) (a : Option Addr) (n c n' c' : Nat) : (binOp .eql 23 (.slice a n c) (.slice none n' c')).run Try.prog w = .ok (.bool a.isNone) w := Lib.run_eql_slice_nil w _ _ a n c n' c' Try.underlying23
theorem nil34 (w : World) (a : Option Addr) (n c n' c' : Nat) : (binOp .eql 34 (.slice a n c) (.slice none n' c')).run Try.prog w = .ok (.bool a.isNone) w := Lib.run_eql_slice_nil w _ _ a n c n' c' Try.underlying34

theorem clone_str_nil (w : World) : Calls Try.prog 5 #[.slice none 0 0] w fun e w' => e = .returned (.slice none 0 0) ∧ w' = w := by
  have hq := nil22
  go_enter Try.func5, Try.ntmps5
  go_wp2
  go_ret
  exact ⟨rfl, rfl⟩
theorem clone_int_nil (w : World) : Calls Try.prog 6 #[.slice none 0 0] w fun e w' => e = .returned (.slice none 0 0) ∧ w' = w := by
  have hq := nil23
  go_enter Try.func6, Try.ntmps6
  go_wp2
  go_ret
  exact ⟨rfl, rfl⟩

/-- The first k of 'vs' laid over cells of 'z'. -/
def laid (vs : List Value) (z : Value) (k : Nat) : List Value := vs.take k ++ List.replicate (vs.length - k) z
theorem laid_zero (vs : List Value) (z : Value) : laid vs z 0 = List.replicate vs.length z := by simp [laid]
theorem laid_full (vs : List Value) (z : Value) : laid vs z vs.length = vs := by simp [laid]
theorem laid_length (vs : List Value) (z : Value) (k : Nat) (h : k ≤ vs.length) : (laid vs z k).length = vs.length := by simp [laid]; omega
theorem laid_step (vs : List Value) (z : Value) (k : Nat) (h : k < vs.length) : (laid vs z k).set k vs[k] = laid vs z (k + 1) := by
  unfold laid
  rw [List.set_append_right _ _ (by simp; omega), List.take_succ_eq_append_getElem h]
  have : vs.length - k = (vs.length - (k + 1)) + 1 := by omega
  rw [this, List.replicate_succ]
  simp only [List.length_take, show k - min k vs.length = 0 by omega, List.set_cons_zero, List.append_assoc, List.singleton_append]

/-- 'make([]T, n)', T of one cell: the new block holds n zero values. -/
theorem run_make_flat {P : Program} (w : World) (t e : TypeId) (z : Value) (bytes n : Nat) (ht : P.underlying t = some (.slice e))
    (hI : (P.info? e).map (fun i => (i.zero, i.size, i.bytes)) = some (some z, 1, bytes)) (hz : z.cells = #[z]) (hb : bytes * n ≤ 281474976710656) (hn : n ≤ 281474976710656) :
    (Instr.makeSlice t (.int .i64 n) (.int .i64 n)).run P w = .ok (.slice (some ⟨w.heap.size, 0, none⟩) n n) (w.alloc (.cells (List.replicate n z).toArray e)) := by
  obtain ⟨i0, hi, hz0, hz1, hz2⟩ := info_parts hI
  clear hI
  subst hz2
  have hb' : (i0.bytes : Int) * (n : Int) ≤ 281474976710656 := by
    have h : ((i0.bytes * n : Nat) : Int) ≤ 281474976710656 := by omega
    rwa [Int.natCast_mul] at h
  have := run_make (P := P) w t e i0 z ht hi hz0 .i64 .i64 n n (by omega) (by omega) hb' (by omega)
  rw [this, hz, hz1, ← toList_madeCells_one]
  simp

theorem laid_at (vs : List Value) (z : Value) (k : Nat) (h : k < vs.length) : ∃ v0, (laid vs z k)[k]? = some v0 :=
  ⟨_, List.getElem?_eq_getElem (by rw [laid_length vs z k (by omega)]; exact h)⟩

set_option maxHeartbeats 400000 in
theorem clone_str (x : Addr) (len cap : Nat) (ss : List ByteArray) (w : World) (hz : ss.length = len) (hm : len ≤ 65536)
    (hc : ∀ i, i < len → w.cell? (x.add i) = some (Value.string (ss.getD i ByteArray.empty))) :
    Calls Try.prog 5 #[.slice (some x) len cap] w fun e w' => e = .returned (.slice (some ⟨w.heap.size, 0, none⟩) len len) ∧ w' = w.alloc (.cells (ss.map (Value.string)).toArray 9) := by
  have HZ : Hid (ss.length = len) := hz
  have hq := nil22
  have hmk := fun w => run_make_flat (P := Try.prog) w 22 9 (Value.string ByteArray.empty) 16 len Try.underlying22 Try.info9 rfl (by omega) (by omega)
  go_enter Try.func5, Try.ntmps5
  go_wp2
  go_loopw [4] (fun i wr => ∃ k : Nat, k ≤ len ∧ i = .int .i64 k ∧ wr = w.alloc (.cells (laid (ss.map (Value.string)) (Value.string ByteArray.empty) k).toArray 9)) (fun i _ => len - (intOf i).toNat)
  case atStart => exact ⟨0, Nat.zero_le _, rfl, by rw [laid_zero]; simp [hz]⟩
  case round =>
    obtain ⟨k, hk, rfl, rfl⟩ := hrel
    by_cases hlt : k < len
    · have hcell := hc k (by omega)
      have hcx : ∀ o, (w.alloc o).cell? (x.add k) = some (Value.string (ss.getD k ByteArray.empty)) := fun o => by rw [← hcell]; exact (((Below.refl w.heap.size w).alloc (Nat.le_refl _) o).cell (cell_lt hcell))
      obtain ⟨v0, hv0⟩ := laid_at (ss.map (Value.string)) (Value.string ByteArray.empty) k (by simpa [hz] using hlt)
      go_wp2
      go_roundw
      case rel =>
        refine ⟨k + 1, by omega, by go_num, ?_⟩
        rw [← laid_step _ _ k (by simpa [hz] using hlt)]
        simp
      case measure => simp [intOf]; omega
    · obtain rfl : k = len := by omega
      go_wp2
      go_ret
      refine ⟨rfl, ?_⟩
      have : k = (ss.map (Value.string)).length := by simp [HZ.out]
      rw [this, laid_full]

set_option maxHeartbeats 400000 in
theorem clone_int (x : Addr) (len cap : Nat) (ss : List Int) (w : World) (hz : ss.length = len) (hm : len ≤ 65536)
    (hc : ∀ i, i < len → w.cell? (x.add i) = some (Value.int .i64 (ss.getD i 0))) :
    Calls Try.prog 6 #[.slice (some x) len cap] w fun e w' => e = .returned (.slice (some ⟨w.heap.size, 0, none⟩) len len) ∧ w' = w.alloc (.cells (ss.map (Value.int .i64)).toArray 3) := by
  have HZ : Hid (ss.length = len) := hz
  have hq := nil23
  have hmk := fun w => run_make_flat (P := Try.prog) w 23 3 (Value.int .i64 0) 8 len Try.underlying23 Try.info3 rfl (by omega) (by omega)
  go_enter Try.func6, Try.ntmps6
  go_wp2
  go_loopw [4] (fun i wr => ∃ k : Nat, k ≤ len ∧ i = .int .i64 k ∧ wr = w.alloc (.cells (laid (ss.map (Value.int .i64)) (Value.int .i64 0) k).toArray 3)) (fun i _ => len - (intOf i).toNat)
  case atStart => exact ⟨0, Nat.zero_le _, rfl, by rw [laid_zero]; simp [hz]⟩
  case round =>
    obtain ⟨k, hk, rfl, rfl⟩ := hrel
    by_cases hlt : k < len
    · have hcell := hc k (by omega)
      have hcx : ∀ o, (w.alloc o).cell? (x.add k) = some (Value.int .i64 (ss.getD k 0)) := fun o => by rw [← hcell]; exact (((Below.refl w.heap.size w).alloc (Nat.le_refl _) o).cell (cell_lt hcell))
      obtain ⟨v0, hv0⟩ := laid_at (ss.map (Value.int .i64)) (Value.int .i64 0) k (by simpa [hz] using hlt)
      go_wp2
      go_roundw
      case rel =>
        refine ⟨k + 1, by omega, by go_num, ?_⟩
        rw [← laid_step _ _ k (by simpa [hz] using hlt)]
        simp
      case measure => simp [intOf]; omega
    · obtain rfl : k = len := by omega
      go_wp2
      go_ret
      refine ⟨rfl, ?_⟩
      have : k = (ss.map (Value.int .i64)).length := by simp [HZ.out]
      rw [this, laid_full]

end Go.Proofs.Qxb6603860a
