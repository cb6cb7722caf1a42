import Derived.Test.Qxb6603898aN8
namespace Go.Proofs.Qxb6603898a
open Go.RowKit

/-- The byte b stands nowhere in l. -/
def NotIn (b : Nat) (l : Str) : Prop := ∀ c ∈ l, c.toNat ≠ b
/-- r: the first place of b in l, or -1. -/
def IdxOf (b : Nat) (l : Str) (r : Int) : Prop :=
  (∃ (x y : Str) (c : UInt8), r = x.length ∧ l = x ++ (c :: y) ∧ c.toNat = b ∧ NotIn b x) ∨ (r = -1 ∧ NotIn b l)
def RetIdx (b : Nat) (l : Str) (e : Ending) : Prop := ∃ r : Int, e = .returned (.int .i64 r) ∧ IdxOf b l r

/-! ### zzIndexByte -/
theorem split_at (l : Str) (j : Nat) (h : j < l.length) : l = l.take j ++ (l[j] :: l.drop (j + 1)) := by
  rw [List.getElem_cons_drop, List.take_append_drop]
theorem notIn_take (l : Str) (b j : Nat) (h : j < l.length) (h1 : NotIn b (l.take j)) (h2 : l[j].toNat ≠ b) : NotIn b (l.take (j + 1)) := by
  intro c hc
  rw [List.take_add_one, List.getElem?_eq_getElem h] at hc
  rcases List.mem_append.1 hc with hc | hc
  · exact h1 c hc
  · simp at hc; subst hc; exact h2

set_option maxHeartbeats 1000000 in
theorem index_any (s : ByteArray) (b : Nat) (w : World) (hs : s.size ≤ 3000000) :
    Calls Try.prog 25 #[.string s, .int .i64 0, .int .u8 b] w fun e w' => RetIdx b s.data.toList e ∧ w' = w := by
  go_enter Try.func25, Try.ntmps25
  go_wp2
  go_loop [7] (fun i => ∃ j : Nat, j ≤ s.size ∧ i = .int .i64 j ∧ NotIn b (s.data.toList.take j)) (fun i => s.size - (intOf i).toNat)
  case atStart => exact ⟨0, Nat.zero_le _, rfl, fun c hc => by simp at hc⟩
  case round =>
    obtain ⟨j, hj, rfl, hN⟩ := hrel
    have HN : Hid (NotIn b (s.data.toList.take j)) := hN
    clear hN
    have hl : s.data.toList.length = s.size := by simp
    by_cases hlt : j < s.size
    · have HG : Hid (_ = _) := get_list s j hlt
      go_wp2
      · have he : ((s[j].toNat : Int) == (b : Int)) = true := by assumption
        go_ret
        exact ⟨⟨_, rfl, .inl ⟨s.data.toList.take j, s.data.toList.drop (j + 1), s[j], by simp; omega, by rw [← HG.out]; exact split_at _ j (by omega), by have h2 := he; simp at h2; omega, HN.out⟩⟩, rfl⟩
      · have he : ((s[j].toNat : Int) == (b : Int)) = false := by assumption
        refine ⟨⟨j + 1, by omega, by go_num, notIn_take _ b j (by omega) HN.out (by rw [HG.out]; have h2 := he; simp at h2; omega)⟩, ?_⟩
        simp [intOf]; omega
    · obtain rfl : j = s.size := by omega
      go_wp2
      go_ret
      exact ⟨⟨_, rfl, .inr ⟨rfl, by have := HN.out; rwa [List.take_of_length_le (by omega)] at this⟩⟩, rfl⟩

/-- What zzSeparatorFree says of a name. -/
def Free (s : ByteArray) (ps : List Pair) (n : Nat) : Prop :=
  NotIn 58 s.data.toList ∧ ∀ i, i < n → NotIn 44 (ps.getD i nopair).1.data.toList ∧ NotIn 61 (ps.getD i nopair).1.data.toList ∧ NotIn 44 (ps.getD i nopair).2.data.toList
theorem IdxOf.neg {b : Nat} {l : Str} {r : Int} (h : IdxOf b l r) (hr : r < 0) : NotIn b l := by
  rcases h with ⟨x, y, c, h1, _⟩ | ⟨_, h⟩
  · omega
  · exact h
theorem IdxOf.range {b : Nat} {l : Str} {r : Int} (h : IdxOf b l r) : -1 ≤ r ∧ r ≤ l.length := by
  rcases h with ⟨x, y, c, h1, rfl, _⟩ | ⟨h, _⟩
  · simp; omega
  · omega

set_option maxHeartbeats 1000000 in
theorem free_any (s : ByteArray) (a : Option Addr) (n c : Nat) (ps : List Pair) (w : World) (hb : s.size + n + szs ps ≤ 1048576) (h : RowP w a n ps) :
    Calls Try.prog 24 #[.string s, .slice a n c] w fun e w' => BoolIf true (Free s ps n) e ∧ w' = w := by
  have HR : Hid (RowP w a n ps) := h
  have HL : Hid (ps.length = n) := h.1
  clear h
  go_enter Try.func24, Try.ntmps24
  go_wp2_with fail
  refine (index_any s 58 w (by omega)).mono ?_
  rintro e w' ⟨⟨r, rfl, hr⟩, hw⟩
  obtain rfl : w = w' := hw.symm
  have HI : Hid (IdxOf 58 s.data.toList r) := hr
  have hr1 := hr.range
  clear hr hw
  by_cases hr0 : 0 ≤ r
  · go_wp2_with fail
    go_ret
    exact ⟨⟨_, rfl, fun h => by cases h⟩, rfl⟩
  have HS : Hid (NotIn 58 s.data.toList) := HI.out.neg (by omega)
  go_wp2_with fail
  go_loop [5] (fun i => ∃ j : Nat, j ≤ n ∧ i = .int .i64 j ∧ Free s ps j) (fun i => n - (intOf i).toNat)
  case atStart => exact ⟨0, Nat.zero_le _, rfl, HS.out, fun i hi => absurd hi (Nat.not_lt_zero _)⟩
  case round =>
    obtain ⟨j, hj, rfl, hF⟩ := hrel
    have HF : Hid (Free s ps j) := hF
    clear hF
    by_cases hlt : j < n
    · obtain ⟨x, k, v, rfl, E, _, _, c1, c2⟩ := HR.out.at hlt
      have hkv := szs_le ps j (by rw [HL.out]; exact hlt) E
      have HE : Hid (_ = _) := E
      clear E
      go_wp2_with fail
      refine (index_any k 44 w (by omega)).mono ?_
      rintro e w' ⟨⟨r1, rfl, hr⟩, hw⟩
      obtain rfl : w = w' := hw.symm
      have H1 : Hid (IdxOf 44 k.data.toList r1) := hr
      have hr2 := hr.range
      clear hr hw
      by_cases h1 : 0 ≤ r1
      · go_wp2_with fail
        go_ret
        exact ⟨⟨_, rfl, fun h => by cases h⟩, rfl⟩
      go_wp2_with fail
      refine (index_any k 61 w (by omega)).mono ?_
      rintro e w' ⟨⟨r3, rfl, hr⟩, hw⟩
      obtain rfl : w = w' := hw.symm
      have H3 : Hid (IdxOf 61 k.data.toList r3) := hr
      have hr4 := hr.range
      clear hr hw
      by_cases h3 : 0 ≤ r3
      · go_wp2_with fail
        go_ret
        exact ⟨⟨_, rfl, fun h => by cases h⟩, rfl⟩
      go_wp2_with fail
      refine (index_any v 44 w (by omega)).mono ?_
      rintro e w' ⟨⟨r5, rfl, hr⟩, hw⟩
      obtain rfl : w = w' := hw.symm
      have H5 : Hid (IdxOf 44 v.data.toList r5) := hr
      have hr6 := hr.range
      clear hr hw
      by_cases h5 : 0 ≤ r5
      · go_wp2_with fail
        go_ret
        exact ⟨⟨_, rfl, fun h => by cases h⟩, rfl⟩
      go_wp2_with fail
      go_round
      case rel =>
        refine ⟨j + 1, by omega, by go_num, HF.out.1, fun i hi => ?_⟩
        by_cases e : i = j
        · subst e
          rw [HE.out]
          exact ⟨H1.out.neg (by omega), H3.out.neg (by omega), H5.out.neg (by omega)⟩
        · exact HF.out.2 i (by omega)
      case measure => simp [intOf]; omega
    · obtain rfl : j = n := by omega
      go_wp2_with fail
      go_ret
      exact ⟨⟨_, rfl, fun _ => HF.out⟩, rfl⟩
end Go.Proofs.Qxb6603898a
