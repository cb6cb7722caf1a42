import Derived.Test.Qxb6603898aN1
import Derived.Test.Qxb6603898aBuild
import Derived.Test.Qxb6603898aShelf
namespace Go.Proofs.Qxb6603898a
open Go.RowKit

/-! ### THE PLAIN PART: what an object name reads -/
abbrev Str := List UInt8
/-- One property, with the comma ahead of it unless it is the first. -/
def seg (ps : List Pair) (i : Nat) : Str := (if i = 0 then [] else [44]) ++ ((ps.getD i nopair).1.data.toList ++ ([61] ++ (ps.getD i nopair).2.data.toList))
def part (ps : List Pair) : Nat → Str
  | 0 => []
  | i + 1 => part ps i ++ seg ps i
/-- The name of a domain and its first n properties. -/
def name (s : ByteArray) (ps : List Pair) (n : Nat) : Str := s.data.toList ++ ([58] ++ part ps n)
theorem part_len (ps : List Pair) (n : Nat) (h : n ≤ ps.length) : (part ps n).length ≤ szs (ps.take n) + 2 * n := by
  induction n with
  | zero => simp [part]
  | succ n ih =>
    have := szs_take ps n (by omega) (k := (ps.getD n nopair).1) (v := (ps.getD n nopair).2) rfl
    have h2 := ih (by omega)
    have e : ∀ b : ByteArray, b.data.size = b.size := fun _ => rfl
    rw [part, List.length_append, seg]
    split <;> simp [e] at * <;> omega
theorem name_len (s : ByteArray) (ps : List Pair) (n : Nat) (h : n ≤ ps.length) : (name s ps n).length ≤ s.size + 1 + szs (ps.take n) + 2 * n := by
  have := part_len ps n h
  have e : ∀ b : ByteArray, b.data.size = b.size := fun _ => rfl
  simp [name, e]; omega
theorem szs_take_le (ps : List Pair) (n : Nat) : szs (ps.take n) ≤ szs ps := by
  conv => rhs; rw [← List.take_append_drop n ps]
  rw [szs, szs, List.map_append, List.sum_append]
  omega

/-! ### objectName.String -/
theorem cells_str (l : Str) (s : ByteArray) : Lib.byteCells l ++ Lib.strCells s = Lib.byteCells (l ++ s.data.toList) := by rw [Lib.byteCells_append, Lib.strCells_eq]
theorem cells_byte (l : Str) (c : UInt8) {k : Int} (h : k = c.toNat) : Lib.byteCells l ++ [.int .u8 k] = Lib.byteCells (l ++ [c]) := by rw [Lib.byteCells_append, h]; rfl

theorem RowP.below {w w' : World} {a : Option Addr} {n : Nat} {ps : List Pair} (h : RowP w a n ps) (hb : Below w.heap.size w w') : RowP w' a n ps := by
  obtain ⟨h1, h2, h | ⟨x, e, h3⟩⟩ := h
  · exact ⟨h1, h2, .inl h⟩
  · exact ⟨h1, h2, .inr ⟨x, e, fun i hi => ⟨(hb.cell (cell_lt (h3 i hi).1)).trans (h3 i hi).1, (hb.cell (cell_lt (h3 i hi).2)).trans (h3 i hi).2⟩⟩⟩
theorem bld_world (w : World) (s : ByteArray) (a : Option Addr) (n c : Nat) :
    ∃ W : World, W = ((w.alloc (.cells #[.string s, .slice a n c] 50)).alloc (.cells #[.pointer none, .slice none 0 0] 55)) ∧ W.heap.size = w.heap.size + 2 ∧
      W.cell? ⟨w.heap.size, 1, none⟩ = some (.slice a n c) ∧ Below w.heap.size w W ∧ Lib.IsBuilderF 55 5 (w.heap.size + 1) (w.heap.size + 1) (Lib.byteCells []) W := by
  refine ⟨_, rfl, by simp, ?_, ((Below.refl _ _).alloc (Nat.le_refl _) _).alloc (by simp) _, ?_⟩
  · rw [World.cell?_alloc_past _ _ _ (by simp), World.cell?_alloc_at _ _ _ _ (by simp)]
    rfl
  · have h := Lib.IsBuilderF.of (Lib.fresh_isBuilder 55 5 (w.alloc (.cells #[.string s, .slice a n c] 50)))
    have e : (w.alloc (.cells #[.string s, .slice a n c] 50)).heap.size = w.heap.size + 1 := by simp
    rw [e] at h
    exact h

/-- A property's block stays as a Builder writes. -/
theorem kept48 {b g : Nat} {w w' : World} {cs : Array Value} (h : w.heap[g]? = some (.cells cs 48)) (hk : Lib.OthersKept 5 (some b) w w') (hg : g ≠ b) : w'.heap[g]? = some (.cells cs 48) :=
  hk g _ h (fun e => hg (Option.some.inj e)) (fun c fz e => by injection e with _ e2; exact absurd e2 (by decide))

set_option maxHeartbeats 1000000 in
theorem string_any (s : ByteArray) (a : Option Addr) (n c : Nat) (ps : List Pair) (w : World) (hb : s.size + 32 * n + szs ps ≤ 1048576) (h : RowP w a n ps) :
    Calls Try.prog 31 #[.agg #[.string s, .slice a n c]] w fun e w' => e = .returned (.string ⟨(name s ps n).toArray⟩) ∧ Below w.heap.size w w' := by
  have HR : Hid (RowP w a n ps) := h
  have HL : Hid (ps.length = n) := h.1
  clear h
  go_enter Try.func31, Try.ntmps31
  go_wp2_with fail
  obtain ⟨W, hW, hWs, hWc, hWb, hWB⟩ := bld_world w s a n c
  rw [← hW]
  clear hW
  refine (Bld.writeString _ _ _ _ _ hWB (by simp [Lib.byteCells]; omega) (by omega)).mono ?_
  rintro e w1 ⟨rfl, h1, hb1, _⟩
  rw [cells_str] at h1
  have hb1s := hb1.size
  go_wp2_with fail
  refine (Bld.writeByte _ _ _ _ _ (.inr h1) (by rw [Lib.byteCells_length]; simp; omega) (by omega)).mono ?_
  rintro e w2 ⟨rfl, h2, hb2, _⟩
  rw [cells_byte _ 58 (k := 58) rfl] at h2
  have hb2s := hb2.size
  have hcs : w2.cell? ⟨w.heap.size, 1, none⟩ = some (.slice a n c) := ((hb1.trans hb2).cell (by simp)).trans hWc
  go_wp2_with fail
  have hIB : Lib.IsBuilderF 55 5 (w.heap.size + 1) (w.heap.size + 1) (Lib.byteCells (name s ps 0)) w2 := .inr (by simpa [name, part] using h2)
  have hbw := hb1.trans hb2
  clear h1 h2 hWB hcs hb1 hb2 hb1s hb2s hWc
  go_loopw [13] (fun i wr => ∃ j : Nat, j ≤ n ∧ i = .int .i64 j ∧ Lib.IsBuilderF 55 5 (w.heap.size + 1) (w.heap.size + 1) (Lib.byteCells (name s ps j)) wr ∧ Below (w.heap.size + 1) W wr) (fun i _ => n - (intOf i).toNat)
  case atStart => exact ⟨0, Nat.zero_le _, rfl, hIB, hbw⟩
  case round =>
    clear hIB hbw
    obtain ⟨j, hj, rfl, hI, hbw⟩ := hrel
    have hws := hbw.size
    have hnl : (name s ps j).length ≤ s.size + 1 + szs ps + 2 * j := Nat.le_trans (name_len s ps j (by rw [HL.out]; exact hj)) (by have := szs_take_le ps j; omega)
    by_cases hlt : j < n
    · obtain ⟨x, k, v, rfl, E, _, _, c1, c2⟩ := (HR.out.below (hWb.trans (hbw.mono (by omega)))).at hlt
      have HE : Hid (_ = _) := E
      have hkv := szs_le ps j (by rw [HL.out]; exact hlt) E
      clear E
      go_wp2_with fail
      all_goals
        obtain ⟨V, hV⟩ : ∃ V : World, V = wr.alloc (.cells #[.string k, .string v] 48) := ⟨_, rfl⟩
        rw [← hV]
        have hVI : Lib.IsBuilderF 55 5 (w.heap.size + 1) (w.heap.size + 1) (Lib.byteCells (name s ps j)) V := by rw [hV]; exact hI.alloc _
        have hbV : Below (w.heap.size + 1) W V := by rw [hV]; exact hbw.alloc (by omega) _
        have hVp : V.heap[wr.heap.size]? = some (.cells #[.string k, .string v] 48) := by rw [hV]; exact heap_alloc_new wr _
        have hVs : V.heap.size = wr.heap.size + 1 := by rw [hV]; simp
        clear hV hI hbw c1 c2
      · refine (Bld.writeByte _ _ _ _ _ hVI (by rw [Lib.byteCells_length]; omega) (by omega)).mono ?_
        rintro e w1 ⟨rfl, h1, hb1, hk1⟩
        rw [cells_byte _ 44 (k := 44) rfl] at h1
        have hb1s := hb1.size
        have p1 := kept48 hVp hk1 (by omega)
        have q1 : w1.cell? ⟨wr.heap.size, 0, none⟩ = some (.string k) := by rw [Lib.cell_of_heap p1]; rfl
        go_wp2_with fail
        refine (Bld.writeString _ _ _ _ _ (.inr h1) (by rw [Lib.byteCells_length]; simp; omega) (by omega)).mono ?_
        rintro e w2 ⟨rfl, h2, hb2, hk2⟩
        rw [cells_str] at h2
        have hb2s := hb2.size
        have p2 := kept48 p1 hk2 (by omega)
        go_wp2_with fail
        refine (Bld.writeByte _ _ _ _ _ (.inr h2) (by rw [Lib.byteCells_length]; simp; omega) (by omega)).mono ?_
        rintro e w3 ⟨rfl, h3, hb3, hk3⟩
        rw [cells_byte _ 61 (k := 61) rfl] at h3
        have hb3s := hb3.size
        have p3 := kept48 p2 hk3 (by omega)
        have q3 : w3.cell? ⟨wr.heap.size, 1, none⟩ = some (.string v) := by rw [Lib.cell_of_heap p3]; rfl
        go_wp2_with fail
        refine (Bld.writeString _ _ _ _ _ (.inr h3) (by rw [Lib.byteCells_length]; simp; omega) (by omega)).mono ?_
        rintro e w4 ⟨rfl, h4, hb4, hk4⟩
        rw [cells_str] at h4
        go_wp2_with fail
        go_roundw
        case rel =>
          refine ⟨j + 1, by omega, by go_num, .inr ?_, hbV.trans (hb1.trans (hb2.trans (hb3.trans hb4)))⟩
          have e : name s ps (j + 1) = ((name s ps j ++ [44]) ++ k.data.toList) ++ [61] ++ v.data.toList := by
            rw [name, part, seg, HE.out, if_neg (by omega)]; simp [name]
          rw [e]; exact h4
        case measure => simp [intOf]; omega
      · refine (Bld.writeString _ _ _ _ _ hVI (by rw [Lib.byteCells_length]; omega) (by omega)).mono ?_
        rintro e w2 ⟨rfl, h2, hb2, hk2⟩
        rw [cells_str] at h2
        have hb2s := hb2.size
        have p2 := kept48 hVp hk2 (by omega)
        go_wp2_with fail
        refine (Bld.writeByte _ _ _ _ _ (.inr h2) (by rw [Lib.byteCells_length]; simp; omega) (by omega)).mono ?_
        rintro e w3 ⟨rfl, h3, hb3, hk3⟩
        rw [cells_byte _ 61 (k := 61) rfl] at h3
        have hb3s := hb3.size
        have p3 := kept48 p2 hk3 (by omega)
        have q3 : w3.cell? ⟨wr.heap.size, 1, none⟩ = some (.string v) := by rw [Lib.cell_of_heap p3]; rfl
        go_wp2_with fail
        refine (Bld.writeString _ _ _ _ _ (.inr h3) (by rw [Lib.byteCells_length]; simp; omega) (by omega)).mono ?_
        rintro e w4 ⟨rfl, h4, hb4, hk4⟩
        rw [cells_str] at h4
        go_wp2_with fail
        go_roundw
        case rel =>
          refine ⟨j + 1, by omega, by go_num, .inr ?_, hbV.trans (hb2.trans (hb3.trans hb4))⟩
          have e : name s ps (j + 1) = (name s ps j ++ k.data.toList) ++ [61] ++ v.data.toList := by
            rw [name, part, seg, HE.out, if_pos (by omega)]; simp [name]
          rw [e]; exact h4
        case measure => simp [intOf]; omega
    · obtain rfl : j = n := by omega
      go_wp2_with fail
      refine (Try.Builder_String_any_k _ _ _ _ hI (by omega)).mono ?_
      rintro e w1 ⟨rfl, _, hb1, _⟩
      go_wp2
      go_ret
      exact ⟨rfl, hWb.trans ((hbw.trans hb1).mono (by omega))⟩
end Go.Proofs.Qxb6603898a
