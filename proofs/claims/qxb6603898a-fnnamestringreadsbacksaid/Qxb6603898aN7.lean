import Derived.Test.Qxb6603898aN5
namespace Go.Proofs.Qxb6603898a
open Go.RowKit

/-! ### THE PLAIN PART: a census of bytes -/
/-- How often the byte b stands in l. -/
def cnt (b : Nat) : Str → Int
  | [] => 0
  | c :: l => (if c.toNat = b then 1 else 0) + cnt b l
theorem cnt_append (b : Nat) (l m : Str) : cnt b (l ++ m) = cnt b l + cnt b m := by
  induction l with
  | nil => simp [cnt]
  | cons c l ih => simp only [List.cons_append, cnt, ih]; omega
theorem cnt_bound (b : Nat) (l : Str) : 0 ≤ cnt b l ∧ cnt b l ≤ l.length := by
  induction l with
  | nil => simp [cnt]
  | cons c l ih => simp only [cnt, List.length_cons]; split <;> omega
theorem cnt_take (b : Nat) (l : Str) (j : Nat) (h : j < l.length) : cnt b (l.take (j + 1)) = cnt b (l.take j) + (if l[j].toNat = b then 1 else 0) := by
  rw [List.take_add_one, List.getElem?_eq_getElem h, cnt_append]
  simp [cnt]
/-- A [256]int, by its numbers. -/
def arr (f : Nat → Int) : List Value := (List.range 256).map (fun b => .int .i64 (f b))
theorem arr_get (f : Nat → Int) (b : Nat) (h : b < 256) : (arr f)[b]? = some (.int .i64 (f b)) := by simp [arr, h]
theorem arr_set (f : Nat → Int) (b : Nat) (v : Int) : (arr f).set b (.int .i64 v) = arr (fun x => if x = b then v else f x) := by
  apply List.ext_getElem?
  intro i
  rw [List.getElem?_set]
  by_cases hi : i < 256
  · rw [arr_get _ i hi]
    by_cases e : b = i
    · subst e; simp [arr, hi]
    · rw [if_neg e, arr_get _ i hi, if_neg (fun h => e h.symm)]
  · have h1 : ∀ g, (arr g)[i]? = none := fun g => by simp [arr]; omega
    rw [h1, h1]
    split <;> simp [arr]; omega
theorem arr_congr {f g : Nat → Int} (h : ∀ b, b < 256 → f b = g b) : arr f = arr g := by
  unfold arr
  exact List.map_congr_left (fun b hb => by rw [h b (by simpa using hb)])
theorem arr_zero : List.replicate 256 (Value.int .i64 0) = arr (fun _ => 0) := by
  rw [arr, List.map_const', List.length_range]

/-! ### zzTally -/
theorem get_list (s : ByteArray) (j : Nat) (h : j < s.size) : s.data.toList[j]'(by simpa using h) = s[j] := by simp; rfl

theorem set_one (w : World) (F : List Value) (t : TypeId) (q i : Nat) (a : Value) :
    ((w.alloc (.cells F.toArray t)).drewN q).setCell ⟨w.heap.size, i, none⟩ a = (w.alloc (.cells (F.set i a).toArray t)).drewN q := by
  have e : ∀ (W : World) (p : Addr) (v : Value), (W.drewN q).setCell p v = (W.setCell p v).drewN q := fun _ _ _ => rfl
  rw [e, World.setCell_alloc_new]
  simp
theorem set_under (w : World) (F U : List Value) (t u : TypeId) (q i : Nat) (a : Value) :
    (((w.alloc (.cells F.toArray t)).alloc (.cells U.toArray u)).drewN q).setCell ⟨w.heap.size, i, none⟩ a = ((w.alloc (.cells (F.set i a).toArray t)).alloc (.cells U.toArray u)).drewN q := by
  have e : ∀ (W : World) (p : Addr) (v : Value), (W.drewN q).setCell p v = (W.setCell p v).drewN q := fun _ _ _ => rfl
  rw [e, World.setCell_alloc_past _ _ _ _ (by simp), World.setCell_alloc_new]
  simp
theorem tally_step (f : Nat → Int) (s : ByteArray) (j : Nat) (h : j < s.size) (v : Int) (hv : v = f s[j].toNat + cnt s[j].toNat (s.data.toList.take j)) :
    arr (fun x => if x = s[j].toNat then v + 1 else f x + cnt x (s.data.toList.take j)) = arr (fun b => f b + cnt b (s.data.toList.take (j + 1))) := by
  refine arr_congr (fun b _ => ?_)
  rw [cnt_take b _ j (by simpa using h), get_list s j h]
  by_cases e : b = s[j].toNat
  · rw [if_pos e, if_pos e.symm, hv, ← e]; omega
  · rw [if_neg e, if_neg (fun h => e h.symm)]; omega

set_option maxHeartbeats 1000000 in
/-- .. over the newest block. -/
theorem tally_new (w : World) (q0 bl : Nat) (f : Nat → Int) (s : ByteArray) (hbl : bl = w.heap.size) (hf : ∀ b, b < 256 → 0 ≤ f b ∧ f b ≤ 1099511627776) (hs : s.size ≤ 3000000) :
    Calls Try.prog 22 #[.pointer (some ⟨bl, 0, none⟩), .string s] ((w.alloc (.cells (arr f).toArray 37)).drewN q0) fun e w' => e = .returned (.tuple #[]) ∧ ∃ q, w' = (w.alloc (.cells (arr (fun b => f b + cnt b s.data.toList)).toArray 37)).drewN q := by
  subst hbl
  have HF : Hid (∀ b, b < 256 → 0 ≤ f b ∧ f b ≤ 1099511627776) := hf
  clear hf
  go_enter Try.func22, Try.ntmps22
  go_wp2
  go_loopw [4] (fun i wr => ∃ j q : Nat, j ≤ s.size ∧ i = .int .i64 j ∧ wr = (w.alloc (.cells (arr (fun b => f b + cnt b (s.data.toList.take j))).toArray 37)).drewN q) (fun i _ => s.size - (intOf i).toNat)
  case atStart => exact ⟨0, q0, Nat.zero_le _, rfl, by simp [cnt]⟩
  case round =>
    obtain ⟨j, q, hj, rfl, rfl⟩ := hrel
    by_cases hlt : j < s.size
    · have hc : s[j].toNat < 256 := s[j].toNat_lt
      have hcb := HF.out s[j].toNat hc
      have hct := cnt_bound s[j].toNat (s.data.toList.take j)
      have hlen : (s.data.toList.take j).length = j := by simp; omega
      have hz := arr_get (fun b => f b + cnt b (s.data.toList.take j)) s[j].toNat hc
      have HS : Hid (_ = _) := arr_set (fun b => f b + cnt b (s.data.toList.take j)) s[j].toNat (f s[j].toNat + cnt s[j].toNat (s.data.toList.take j) + 1)
      obtain ⟨v, hv⟩ : ∃ v, v = f s[j].toNat + cnt s[j].toNat (s.data.toList.take j) := ⟨_, rfl⟩
      obtain ⟨F, hF⟩ : ∃ F, F = arr (fun b => f b + cnt b (s.data.toList.take j)) := ⟨_, rfl⟩
      rw [← hv] at HS
      rw [← hF] at hz HS ⊢
      rw [← hv] at hz
      have hvb : 0 ≤ v ∧ v ≤ 1099514627776 := by omega
      have HV : Hid (v = _) := hv
      clear hv hF hct hcb hlen
      go_wp2
      go_region
      go_wp2
      go_roundw
      case rel => exact ⟨j + 1, q + 1, by omega, by go_num, by rw [set_one, HS.out, tally_step f s j hlt v HV.out]⟩
      case measure => simp [intOf]; omega
    · obtain rfl : j = s.size := by omega
      go_wp2
      go_end0
      exact ⟨rfl, q, by rw [List.take_of_length_le (by simp)]⟩

set_option maxHeartbeats 1000000 in
/-- .. over the block ahead of the newest. -/
theorem tally_under (w : World) (q0 : Nat) (U : List Value) (f : Nat → Int) (s : ByteArray) (hf : ∀ b, b < 256 → 0 ≤ f b ∧ f b ≤ 1099511627776) (hs : s.size ≤ 3000000) :
    Calls Try.prog 22 #[.pointer (some ⟨w.heap.size, 0, none⟩), .string s] (((w.alloc (.cells (arr f).toArray 37)).alloc (.cells U.toArray 37)).drewN q0) fun e w' => e = .returned (.tuple #[]) ∧ ∃ q, w' = ((w.alloc (.cells (arr (fun b => f b + cnt b s.data.toList)).toArray 37)).alloc (.cells U.toArray 37)).drewN q := by
  have HF : Hid (∀ b, b < 256 → 0 ≤ f b ∧ f b ≤ 1099511627776) := hf
  clear hf
  go_enter Try.func22, Try.ntmps22
  go_wp2
  go_loopw [4] (fun i wr => ∃ j q : Nat, j ≤ s.size ∧ i = .int .i64 j ∧ wr = ((w.alloc (.cells (arr (fun b => f b + cnt b (s.data.toList.take j))).toArray 37)).alloc (.cells U.toArray 37)).drewN q) (fun i _ => s.size - (intOf i).toNat)
  case atStart => exact ⟨0, q0, Nat.zero_le _, rfl, by simp [cnt]⟩
  case round =>
    obtain ⟨j, q, hj, rfl, rfl⟩ := hrel
    by_cases hlt : j < s.size
    · have hc : s[j].toNat < 256 := s[j].toNat_lt
      have hcb := HF.out s[j].toNat hc
      have hct := cnt_bound s[j].toNat (s.data.toList.take j)
      have hlen : (s.data.toList.take j).length = j := by simp; omega
      have hz := arr_get (fun b => f b + cnt b (s.data.toList.take j)) s[j].toNat hc
      have HS : Hid (_ = _) := arr_set (fun b => f b + cnt b (s.data.toList.take j)) s[j].toNat (f s[j].toNat + cnt s[j].toNat (s.data.toList.take j) + 1)
      obtain ⟨v, hv⟩ : ∃ v, v = f s[j].toNat + cnt s[j].toNat (s.data.toList.take j) := ⟨_, rfl⟩
      obtain ⟨F, hF⟩ : ∃ F, F = arr (fun b => f b + cnt b (s.data.toList.take j)) := ⟨_, rfl⟩
      rw [← hv] at HS
      rw [← hF] at hz HS ⊢
      rw [← hv] at hz
      have hvb : 0 ≤ v ∧ v ≤ 1099514627776 := by omega
      have HV : Hid (v = _) := hv
      clear hv hF hct hcb hlen
      go_wp2
      go_region
      go_wp2
      go_roundw
      case rel => exact ⟨j + 1, q + 1, by omega, by go_num, by rw [set_under, HS.out, tally_step f s j hlt v HV.out]⟩
      case measure => simp [intOf]; omega
    · obtain rfl : j = s.size := by omega
      go_wp2
      go_end0
      exact ⟨rfl, q, by rw [List.take_of_length_le (by simp)]⟩
end Go.Proofs.Qxb6603898a
