import Derived.Test.Qxb6603898aN9
namespace Go.Proofs.Qxb6603898a
open Go.RowKit

/-! ### THE PLAIN PART: where the pieces of a name lie -/
/-- What stands ahead of the i-th property's key: the comma with it. -/
def lead (ps : List Pair) (i : Nat) : Str := part ps i ++ (if i = 0 then [] else [44])
def body (ps : List Pair) (i : Nat) : Str := (ps.getD i nopair).1.data.toList ++ (61 :: (ps.getD i nopair).2.data.toList)
theorem part_succ (ps : List Pair) (i : Nat) : part ps (i + 1) = lead ps i ++ body ps i := by simp [part, seg, lead, body]
/-- What follows the i-th property in a name of n. -/
theorem part_split (ps : List Pair) (n i : Nat) (h : i < n) : ∃ T, part ps n = lead ps i ++ (body ps i ++ T) ∧ (i + 1 = n → T = []) ∧ (i + 1 < n → ∃ T', T = 44 :: T') := by
  induction n with
  | zero => omega
  | succ n ih =>
    by_cases e : i = n
    · subst e
      exact ⟨[], by rw [part_succ]; simp, fun _ => rfl, fun h => by omega⟩
    · obtain ⟨T, h1, h2, h3⟩ := ih (by omega)
      refine ⟨T ++ seg ps n, by rw [part, h1]; simp, fun h => by omega, fun _ => ?_⟩
      by_cases e2 : i + 1 = n
      · rw [h2 e2, seg, if_neg (by omega)]
        exact ⟨_, rfl⟩
      · obtain ⟨T', hT⟩ := h3 (by omega)
        exact ⟨T' ++ seg ps n, by rw [hT]; rfl⟩
theorem lead_succ_length (ps : List Pair) (i : Nat) : (lead ps (i + 1)).length = (lead ps i).length + (body ps i).length + 1 := by
  rw [lead, part_succ]; simp; omega
theorem NotIn.append {b : Nat} {l m : Str} (h : NotIn b l) (h' : NotIn b m) : NotIn b (l ++ m) := fun c hc => (List.mem_append.1 hc).elim (h c) (h' c)
theorem NotIn.cons {b : Nat} {c : UInt8} {m : Str} (h : c.toNat ≠ b) (h' : NotIn b m) : NotIn b (c :: m) := fun d hd => by
  rcases List.mem_cons.1 hd with rfl | hd
  · exact h
  · exact h' d hd
theorem body_free {s : ByteArray} {ps : List Pair} {n i : Nat} (h : Free s ps n) (hi : i < n) : NotIn 44 (body ps i) :=
  (h.2 i hi).1.append (NotIn.cons (by decide) (h.2 i hi).2.2)
/-- The first b of x, b, y, if x has none. -/
theorem IdxOf.first {b : Nat} {x y : Str} {c : UInt8} {r : Int} (hc : c.toNat = b) (hx : NotIn b x) (h : IdxOf b (x ++ (c :: y)) r) : r = x.length := by
  rcases h with ⟨x', y', c', h1, h2, h3, h4⟩ | ⟨_, h⟩
  · rw [h1]
    congr 1
    rcases Nat.lt_trichotomy x'.length x.length with hl | hl | hl
    · have := congrArg (fun l : Str => l[x'.length]?) h2
      rw [List.getElem?_append_left hl, List.getElem?_append_right (Nat.le_refl _), Nat.sub_self, List.getElem?_cons_zero] at this
      exact absurd h3 (hx c' (List.mem_of_getElem? this))
    · exact hl
    · have := congrArg (fun l : Str => l[x.length]?) h2
      rw [List.getElem?_append_right (Nat.le_refl _), Nat.sub_self, List.getElem?_cons_zero, List.getElem?_append_left hl] at this
      exact absurd hc (h4 c (List.mem_of_getElem? this.symm))
  · exact absurd hc (h c (by simp))

/-- A text that holds B between A and T. -/
theorem cut_text (R : ByteArray) (A B T : Str) (h : R.data.toList = A ++ (B ++ T)) : (R.extract A.length (A.length + B.length)) = ⟨B.toArray⟩ ∧ A.length + B.length ≤ R.size := by
  have hl : R.data.toList.length = R.size := by simp
  refine ⟨?_, ?_⟩
  · apply ByteArray.ext
    apply Array.toList_inj.1
    rw [ByteArray.data_extract, Array.toList_extract, h]
    simp
  · rw [← hl, h]; simp
theorem at_text (R : ByteArray) (A B T : Str) (h : R.data.toList = A ++ (B ++ T)) (j : Nat) (hj : A.length ≤ j) (hj2 : j < A.length + B.length) : ∃ h0 : j < R.size, R[j] ∈ B := by
  have h0 : j < R.size := Nat.lt_of_lt_of_le hj2 (cut_text R A B T h).2
  refine ⟨h0, ?_⟩
  rw [← get_list R j h0]
  simp only [h]
  rw [List.getElem_append_right hj, List.getElem_append_left (by omega)]
  exact List.getElem_mem _
theorem after_text (R : ByteArray) (A B T' : Str) (h : R.data.toList = A ++ (B ++ (44 :: T'))) : ∃ h0 : A.length + B.length < R.size, R[A.length + B.length].toNat = 44 := by
  have hl : R.data.toList.length = R.size := by simp
  have h0 : A.length + B.length < R.size := by rw [← hl, h]; simp
  refine ⟨h0, ?_⟩
  rw [← get_list R _ h0]
  simp only [h]
  rw [List.getElem_append_right (by omega), List.getElem_append_right (by omega)]
  simp
/-- A property's text, cut at its '='. -/
theorem body_cut (k v B : ByteArray) (h : B.data.toList = k.data.toList ++ (61 :: v.data.toList)) : k.size + 1 ≤ B.size ∧ (B.extract 0 k.size).toList = k.toList ∧ (B.extract (k.size + 1) B.size).toList = v.toList := by
  have hB : B.data.toList.length = B.size := by simp
  have hk : k.data.toList.length = k.size := by simp
  have hv : v.data.toList.length = v.size := by simp
  have hs : B.size = k.size + 1 + v.size := by rw [← hB, h]; simp; omega
  refine ⟨by omega, ?_, ?_⟩
  · congr 1
    apply ByteArray.ext
    apply Array.toList_inj.1
    rw [ByteArray.data_extract, Array.toList_extract, h]
    simp [hk]
  · congr 1
    apply ByteArray.ext
    apply Array.toList_inj.1
    rw [ByteArray.data_extract, Array.toList_extract, h]
    rw [List.extract_eq_take_drop, List.drop_append, hk, List.drop_of_length_le (by omega)]
    simp [hs]
    exact List.take_of_length_le (by omega)
end Go.Proofs.Qxb6603898a
