import Derived.Test.Qxb6603860aW2
import Derived.Lib.AppendStr
import Derived.Lib.FrozenHead2
import Derived.Lib.OthersKept
namespace Go.Proofs.Qxb6603860a
open Go.RowKit Go.Maps

/-! ### THE PLAIN PART: marks and what is written -/
/-- 'B' marks just those places below n of which P holds. -/
def Marks (P : Nat → Prop) (n : Nat) (B : List Bool) : Prop := B.length = n ∧ ∀ j, j < n → (B.getD j false = true ↔ P j)
theorem Marks.uniq {P Q : Nat → Prop} {n : Nat} {B C : List Bool} (h : Marks P n B) (k : Marks Q n C) (hPQ : ∀ j, j < n → (P j ↔ Q j)) : B = C := by
  apply List.ext_getElem
  · rw [h.1, k.1]
  · intro j h1 h2
    have hj : j < n := by rw [← h.1]; exact h1
    have e1 := h.2 j hj
    have e2 := k.2 j hj
    rw [List.getD_eq_getElem?_getD, List.getElem?_eq_getElem h1, Option.getD_some] at e1
    rw [List.getD_eq_getElem?_getD, List.getElem?_eq_getElem h2, Option.getD_some] at e2
    rw [Bool.eq_iff_iff, e1, e2]
    exact hPQ j hj
theorem Marks.iff {P Q : Nat → Prop} {n : Nat} {B : List Bool} (h : Marks P n B) (hPQ : ∀ j, j < n → (P j ↔ Q j)) : Marks Q n B :=
  ⟨h.1, fun j hj => (h.2 j hj).trans (hPQ j hj)⟩
theorem Marks.none {P : Nat → Prop} {n : Nat} (h : ∀ j, j < n → ¬ P j) : Marks P n (List.replicate n false) := by
  refine ⟨by simp, fun j hj => ?_⟩
  constructor
  · intro e; simp [List.getD_eq_getElem?_getD, hj] at e
  · intro e; exact absurd e (h j hj)
/-- One place more. -/
theorem Marks.set {P : Nat → Prop} {n : Nat} {B : List Bool} (h : Marks P n B) (k : Nat) (_hk : k < n) : Marks (fun j => P j ∨ j = k) n (B.set k true) := by
  refine ⟨by simp [h.1], fun j hj => ?_⟩
  have hB := h.1
  have e1 := h.2 j hj
  rw [List.getD_eq_getElem?_getD] at e1 ⊢
  rw [List.getElem?_set]
  by_cases e : k = j
  · subst e; simp [hB, hj]
  · rw [if_neg e, e1]
    constructor
    · exact .inl
    · rintro (h | h)
      · exact h
      · exact absurd h.symm e

theorem mark_step {P : Nat → Prop} {n j p : Nat} {C : List Bool} (h : Marks (fun r => P r ∨ (j ≤ r ∧ r < p)) n C) (hp : p < n) (hjp : j ≤ p) : Marks (fun r => P r ∨ (j ≤ r ∧ r < p + 1)) n (C.set p true) := by
  refine (h.set p hp).iff (fun r _ => ?_)
  constructor
  · rintro ((h | h) | h)
    · exact .inl h
    · exact .inr (by omega)
    · exact .inr (by omega)
  · rintro (h | h)
    · exact .inl (.inl h)
    · by_cases e : r = p
      · exact .inr e
      · exact .inl (.inr (by omega))

/-- What stands for place i. -/
def piece (t : ByteArray) (B : List Bool) (i : Nat) : List UInt8 :=
  if B.getD i false = false then [t.data.toList.getD i 0] else if i = 0 ∨ B.getD (i - 1) false = false then [120, 120, 120, 120, 120] else []
def rend (t : ByteArray) (B : List Bool) : Nat → List UInt8
  | 0 => []
  | k + 1 => rend t B k ++ piece t B k
theorem piece_le (t : ByteArray) (B : List Bool) (i : Nat) : (piece t B i).length ≤ 5 := by
  unfold piece; split
  · simp
  · split <;> simp
theorem rend_le (t : ByteArray) (B : List Bool) (k : Nat) : (rend t B k).length ≤ 5 * k := by
  induction k with
  | zero => simp [rend]
  | succ k ih => have := piece_le t B k; simp only [rend, List.length_append]; omega
/-- Nothing marked: the text itself. -/
theorem rend_none (t : ByteArray) (n : Nat) (k : Nat) (hk : k ≤ t.size) : rend t (List.replicate n false) k = t.data.toList.take k := by
  induction k with
  | zero => simp [rend]
  | succ k ih =>
    have hl : k < t.data.toList.length := by simp [Array.length_toList]; exact hk
    rw [rend, ih (by omega), List.take_succ_eq_append_getElem hl]
    have : (List.replicate n false).getD k false = false := by
      rw [List.getD_eq_getElem?_getD, List.getElem?_replicate]; split <;> rfl
    rw [piece, if_pos this, List.getD_eq_getElem?_getD, List.getElem?_eq_getElem hl, Option.getD_some]
/-- A marked stretch from i0 up to i: five signs, once. -/
theorem rend_stretch (t : ByteArray) (B : List Bool) (i0 : Nat) (h0 : i0 = 0 ∨ B.getD (i0 - 1) false = false) (d : Nat) (hB : ∀ j, i0 ≤ j → j < i0 + (d + 1) → B.getD j false = true) :
    rend t B (i0 + (d + 1)) = rend t B i0 ++ [120, 120, 120, 120, 120] := by
  induction d with
  | zero =>
    rw [show i0 + (0 + 1) = i0 + 1 from rfl, rend, piece, if_neg (by rw [hB i0 (by omega) (by omega)]; decide), if_pos h0]
  | succ d ih =>
    rw [show i0 + (d + 1 + 1) = (i0 + (d + 1)) + 1 by omega, rend, ih (fun j h1 h2 => hB j h1 (by omega)), piece, if_neg (by rw [hB _ (by omega) (by omega)]; decide), if_neg, List.append_nil]
    rintro (h | h)
    · omega
    · rw [show i0 + (d + 1) - 1 = i0 + d by omega, hB _ (by omega) (by omega)] at h
      exact absurd h (by decide)

theorem rend_byte (t : ByteArray) (B : List Bool) (n : Nat) (hn : n < t.size) (h : B.getD n false = false) : Lib.byteCells (rend t B n) ++ [.int .u8 (t[n].toNat : Int)] = Lib.byteCells (rend t B (n + 1)) := by
  rw [rend, piece, if_pos h]
  have hl : n < t.data.toList.length := by simp [Array.length_toList]; exact hn
  simp [Lib.byteCells, List.getD_eq_getElem?_getD, List.getElem?_eq_getElem hl]
  rfl
theorem rend_xs (t : ByteArray) (B : List Bool) (n : Nat) (h : B.getD n false = true) (h0 : n = 0 ∨ B.getD (n - 1) false = false) : Lib.byteCells (rend t B n) ++ Lib.strCells { data := #[120, 120, 120, 120, 120] } = Lib.byteCells (rend t B (n + 1)) := by
  rw [rend, piece, if_neg (by rw [h]; decide), if_pos h0]
  simp [Lib.byteCells, Lib.strCells]
theorem rend_in (t : ByteArray) (B : List Bool) (n : Nat) (h : B.getD n false = true) (h0 : n ≠ 0) (h1 : B.getD (n - 1) false = true) : rend t B n = rend t B (n + 1) := by
  rw [rend, piece, if_neg (by rw [h]; decide), if_neg, List.append_nil]
  rintro (e | e)
  · exact h0 e
  · rw [h1] at e; exact absurd e (by decide)

/-! ### which places are marked -/
/-- At i a run of m bytes of the set stands in t. -/
def hit (ss : List ByteArray) (t : ByteArray) (m i : Nat) : Prop := i + m ≤ t.size ∧ inSet ss (t.extract i (i + m)) = true
/-- .. by the first k lengths. -/
def covK (ls : List Int) (ss : List ByteArray) (t : ByteArray) (k j : Nat) : Prop := ∃ q, q < k ∧ ∃ i, hit ss t (ls.getD q 0).toNat i ∧ i ≤ j ∧ j < i + (ls.getD q 0).toNat
/-- .. and by length m at the places below i. -/
def covI (ls : List Int) (ss : List ByteArray) (t : ByteArray) (k m i j : Nat) : Prop := covK ls ss t k j ∨ ∃ i', i' < i ∧ hit ss t m i' ∧ i' ≤ j ∧ j < i' + m
/-- The model's: at s the run r stands in t. -/
def stands (t r : ByteArray) (s : Nat) : Prop := s + r.size ≤ t.size ∧ t.extract s (s + r.size) = r
def mcovK (ls : List Int) (ss : List ByteArray) (t : ByteArray) (k j : Nat) : Prop := ∃ q, q < k ∧ (ls.contains ((ss.getD q ByteArray.empty).size : Int) = true) ∧ ∃ s, stands t (ss.getD q ByteArray.empty) s ∧ s ≤ j ∧ j < s + (ss.getD q ByteArray.empty).size
def mcovI (ls : List Int) (ss : List ByteArray) (t : ByteArray) (k : Nat) (r : ByteArray) (s j : Nat) : Prop := mcovK ls ss t k j ∨ ∃ s', s' < s ∧ stands t r s' ∧ s' ≤ j ∧ j < s' + r.size

theorem size_cut (t : ByteArray) (i m : Nat) (h : i + m ≤ t.size) : (t.extract i (i + m)).size = m := by
  simp [ByteArray.size_extract]; omega

/-- THE PLAIN LAW ON THE MARKS: length by length marks what run by run marks. -/
theorem cov_iff (ls : List Int) (ss : List ByteArray) (t : ByteArray) (hn : ∀ n ∈ ls, 0 ≤ n) (j : Nat) : covK ls ss t ls.length j ↔ mcovK ls ss t ss.length j := by
  constructor
  · rintro ⟨q, hq, i, ⟨h1, h2⟩, h3, h4⟩
    have hg : ls.getD q 0 = ls[q] := by rw [List.getD_eq_getElem?_getD, List.getElem?_eq_getElem hq, Option.getD_some]
    rw [hg] at h1 h2 h4
    have hnn := hn _ (List.getElem_mem hq)
    obtain ⟨p, hp, e⟩ := List.mem_iff_getElem.1 ((inSet_iff _ _).1 h2)
    have hs := size_cut t i _ h1
    refine ⟨p, hp, ?_, i, ?_, ?_⟩
    · rw [List.getD_eq_getElem?_getD, List.getElem?_eq_getElem hp, Option.getD_some, e, hs, Int.toNat_of_nonneg hnn]
      rw [List.contains_iff_mem]
      exact List.getElem_mem hq
    · rw [stands, List.getD_eq_getElem?_getD, List.getElem?_eq_getElem hp, Option.getD_some, e, hs]
      exact ⟨h1, rfl⟩
    · rw [List.getD_eq_getElem?_getD, List.getElem?_eq_getElem hp, Option.getD_some, e, hs]
      exact ⟨h3, h4⟩
  · rintro ⟨p, hp, hc, s, ⟨h1, h2⟩, h3, h4⟩
    have hg : ss.getD p ByteArray.empty = ss[p] := by rw [List.getD_eq_getElem?_getD, List.getElem?_eq_getElem hp, Option.getD_some]
    rw [hg] at hc h1 h2 h4
    obtain ⟨q, hq, e⟩ := List.mem_iff_getElem.1 (List.contains_iff_mem.1 hc)
    refine ⟨q, hq, s, ?_, h3, ?_⟩
    · rw [hit, List.getD_eq_getElem?_getD, List.getElem?_eq_getElem hq, Option.getD_some, e, Int.toNat_natCast]
      exact ⟨h1, (inSet_iff _ _).2 (by rw [h2]; exact List.getElem_mem hp)⟩
    · rw [List.getD_eq_getElem?_getD, List.getElem?_eq_getElem hq, Option.getD_some, e, Int.toNat_natCast]
      exact h4
end Go.Proofs.Qxb6603860a
