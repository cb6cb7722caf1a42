import Derived.Test.Qxb6603898aW1
import Derived.Deep.QuietTactic
import Derived.BigQuiet
namespace Go.Proofs.Qxb6603898a
open Go.RowKit

abbrev Pair := ByteArray × ByteArray
def nopair : Pair := (ByteArray.empty, ByteArray.empty)
/-- What the walk is told of a [][2]string: its pairs, and where they lie. -/
def RowP (w : World) (a : Option Addr) (n : Nat) (ps : List Pair) : Prop :=
  ps.length = n ∧ (∀ p ∈ ps, p.1.size ≤ maxLen ∧ p.2.size ≤ maxLen) ∧ ((a = none ∧ n = 0) ∨ ∃ x, a = some x ∧ ∀ i, i < n → w.cell? (x.add (i * 2)) = some (.string (ps.getD i nopair).1) ∧ w.cell? ⟨(x.add (i * 2)).block, (x.add (i * 2)).off + 1, none⟩ = some (.string (ps.getD i nopair).2))
theorem RowP.at {w : World} {a : Option Addr} {n : Nat} {ps : List Pair} (h : RowP w a n ps) {i : Nat} (hi : i < n) :
    ∃ x k v, a = some x ∧ ps.getD i nopair = (k, v) ∧ k.size ≤ 9223372036854775807 ∧ v.size ≤ 9223372036854775807 ∧ w.cell? (x.add (i * 2)) = some (.string k) ∧ w.cell? ⟨(x.add (i * 2)).block, (x.add (i * 2)).off + 1, none⟩ = some (.string v) := by
  obtain ⟨h1, h2, ⟨_, h⟩ | ⟨x, e, h3⟩⟩ := h
  · omega
  · have hm : ps.getD i nopair ∈ ps := by
      rw [List.getD_eq_getElem?_getD, List.getElem?_eq_getElem (by omega), Option.getD_some]
      exact List.getElem_mem _
    exact ⟨x, _, _, e, rfl, (h2 _ hm).1, (h2 _ hm).2, h3 i hi⟩
def szs (ps : List Pair) : Nat := (ps.map (fun p => p.1.size + p.2.size)).sum
theorem szs_take (ps : List Pair) (i : Nat) (h : i < ps.length) {k v : ByteArray} (e : ps.getD i nopair = (k, v)) : szs (ps.take (i + 1)) = szs (ps.take i) + (k.size + v.size) := by
  rw [List.getD_eq_getElem?_getD, List.getElem?_eq_getElem h, Option.getD_some] at e
  rw [List.take_add_one, List.getElem?_eq_getElem h, e]
  simp [szs]
theorem szs_le (ps : List Pair) (i : Nat) (h : i < ps.length) {k v : ByteArray} (e : ps.getD i nopair = (k, v)) : k.size + v.size ≤ szs ps := by
  have h1 := szs_take ps i h e
  have h2 : szs (ps.take (i + 1)) ≤ szs ps := by
    conv => rhs; rw [← List.take_append_drop (i + 1) ps]
    rw [szs, szs, List.map_append, List.sum_append]
    omega
  omega

/-- A bool, and what is known if it is b0. -/
def BoolIf (b0 : Bool) (X : Prop) (e : Ending) : Prop := ∃ b : Bool, e = .returned (.bool b) ∧ (b = b0 → X)

set_option maxHeartbeats 1000000 in
theorem tooBig_any (s : ByteArray) (a : Option Addr) (n c : Nat) (ps : List Pair) (w : World) (hb : s.size + n + szs ps ≤ 1048576) (h : RowP w a n ps) :
    Calls Try.prog 18 #[.string s, .slice a n c] w fun e w' => BoolIf false (s.size + 32 * n + szs ps ≤ 1048576) e ∧ ∃ q, w' = w.drewN q := by
  have HR : Hid (RowP w a n ps) := h
  have HL : Hid (ps.length = n) := h.1
  clear h
  go_enter Try.func18, Try.ntmps18
  go_wp2
  all_goals first | (go_ret; exact ⟨⟨_, rfl, fun h => by cases h⟩, 0, rfl⟩) | skip
  go_loopw [5, 6] (fun t i wr => ∃ (j T q : Nat), j ≤ n ∧ i = .int .i64 j ∧ t = .int .i64 T ∧ T = s.size + 32 * n + szs (ps.take j) ∧ T ≤ 1048576 ∧ wr = w.drewN q) (fun _ i _ => n - (intOf i).toNat)
  case atStart => exact ⟨0, _, 0, Nat.zero_le _, rfl, by go_num, rfl, by simp [szs]; omega, rfl⟩
  case round =>
    obtain ⟨j, T, q, hj, rfl, rfl, hT, hle, rfl⟩ := hrel
    have HT : Hid (T = _) := hT
    clear hT
    by_cases hlt : j < n
    · obtain ⟨x, k, v, rfl, E, _, _, c1, c2⟩ := HR.out.at hlt
      have HE : Hid (_ = _) := E
      have hkv := szs_le ps j (by rw [HL.out]; exact hlt) E
      clear E
      go_wp2
      go_quiet (fail)
      go_wp2
      case _ => go_ret; exact ⟨⟨_, rfl, fun h => by cases h⟩, _, rfl⟩
      go_roundw
      case rel => exact ⟨j + 1, T + (k.size + v.size), q + nq, by omega, by go_num, by go_num, by rw [HT.out, szs_take ps j (by rw [HL.out]; exact hlt) HE.out]; omega, by omega, by simp⟩
      case measure => simp [intOf]; omega
    · obtain rfl : j = n := by omega
      go_wp2
      go_ret
      exact ⟨⟨_, rfl, fun _ => by have := HT.out; rw [List.take_of_length_le (by rw [HL.out]; exact Nat.le_refl _)] at this; omega⟩, q, rfl⟩

set_option maxHeartbeats 1000000 in
theorem bytes17 (s : ByteArray) (a : Option Addr) (n c : Nat) (ps : List Pair) (w : World) (hs : s.size ≤ 9223372036854775807) (hn : n ≤ 9223372036854775807) (h : RowP w a n ps) :
    Calls Try.prog 17 #[.string s, .slice a n c] w fun e w' => BoolIf true (s.size + n + szs ps ≤ 1048576) e ∧ w' = w := by
  have HR : Hid (RowP w a n ps) := h
  have HL : Hid (ps.length = n) := h.1
  clear h
  go_enter Try.func17, Try.ntmps17
  go_wp2
  all_goals first | (go_ret; exact ⟨⟨_, rfl, fun h => by cases h⟩, rfl⟩) | skip
  go_loop [5, 6] (fun t i => ∃ (j T : Nat), j ≤ n ∧ i = .int .i64 j ∧ t = .int .i64 T ∧ T = s.size + n + szs (ps.take j) ∧ T ≤ 1048576) (fun _ i => n - (intOf i).toNat)
  case atStart => exact ⟨0, _, Nat.zero_le _, rfl, by go_num, rfl, by simp [szs]; omega⟩
  case round =>
    obtain ⟨j, T, hj, rfl, rfl, hT, hle⟩ := hrel
    have HT : Hid (T = _) := hT
    clear hT
    by_cases hlt : j < n
    · obtain ⟨x, k, v, rfl, E, hk, hv, c1, c2⟩ := HR.out.at hlt
      have HE : Hid (_ = _) := E
      clear E
      go_wp2
      go_loop [5, 7] (fun t i => (i = .int .i64 0 ∧ t = .int .i64 T) ∨ (i = .int .i64 1 ∧ t = .int .i64 (T + k.size : Nat) ∧ T + k.size ≤ 1048576) ∨ (i = .int .i64 2 ∧ t = .int .i64 (T + (k.size + v.size) : Nat) ∧ T + (k.size + v.size) ≤ 1048576)) (fun _ i => 2 - (intOf i).toNat)
      case atStart => exact .inl ⟨rfl, rfl⟩
      case round =>
        rcases hrel with ⟨rfl, rfl⟩ | ⟨rfl, rfl, h1⟩ | ⟨rfl, rfl, h1⟩
        · go_wp2
          all_goals first | (go_ret; exact ⟨⟨_, rfl, fun h => by cases h⟩, rfl⟩) | skip
          go_roundw
          case rel => exact .inr (.inl ⟨by go_num, by go_num, by omega⟩)
          case measure => simp [intOf]
        · go_wp2
          all_goals first | (go_ret; exact ⟨⟨_, rfl, fun h => by cases h⟩, rfl⟩) | skip
          go_roundw
          case rel => exact .inr (.inr ⟨by go_num, by go_num, by omega⟩)
          case measure => simp [intOf]
        · go_wp2
          go_roundw
          case rel => exact ⟨j + 1, T + (k.size + v.size), by omega, by go_num, rfl, by rw [HT.out, szs_take ps j (by rw [HL.out]; exact hlt) HE.out]; omega, by omega⟩
          case measure => simp [intOf]; omega
    · obtain rfl : j = n := by omega
      go_wp2
      go_ret
      exact ⟨⟨_, rfl, fun _ => by have := HT.out; rw [List.take_of_length_le (by rw [HL.out]; exact Nat.le_refl _)] at this; omega⟩, rfl⟩

set_option maxHeartbeats 1000000 in
theorem bytes21 (s : ByteArray) (a : Option Addr) (n c : Nat) (ps : List Pair) (w : World) (hs : s.size ≤ 9223372036854775807) (hn : n ≤ 9223372036854775807) (h : RowP w a n ps) :
    Calls Try.prog 21 #[.string s, .slice a n c] w fun e w' => BoolIf true (s.size + n + szs ps ≤ 1048576) e ∧ w' = w := by
  have HR : Hid (RowP w a n ps) := h
  have HL : Hid (ps.length = n) := h.1
  clear h
  go_enter Try.func21, Try.ntmps21
  go_wp2
  all_goals first | (go_ret; exact ⟨⟨_, rfl, fun h => by cases h⟩, rfl⟩) | skip
  go_loop [5, 6] (fun t i => ∃ (j T : Nat), j ≤ n ∧ i = .int .i64 j ∧ t = .int .i64 T ∧ T = s.size + n + szs (ps.take j) ∧ T ≤ 1048576) (fun _ i => n - (intOf i).toNat)
  case atStart => exact ⟨0, _, Nat.zero_le _, rfl, by go_num, rfl, by simp [szs]; omega⟩
  case round =>
    obtain ⟨j, T, hj, rfl, rfl, hT, hle⟩ := hrel
    have HT : Hid (T = _) := hT
    clear hT
    by_cases hlt : j < n
    · obtain ⟨x, k, v, rfl, E, hk, hv, c1, c2⟩ := HR.out.at hlt
      have HE : Hid (_ = _) := E
      clear E
      go_wp2
      go_loop [5, 7] (fun t i => (i = .int .i64 0 ∧ t = .int .i64 T) ∨ (i = .int .i64 1 ∧ t = .int .i64 (T + k.size : Nat) ∧ T + k.size ≤ 1048576) ∨ (i = .int .i64 2 ∧ t = .int .i64 (T + (k.size + v.size) : Nat) ∧ T + (k.size + v.size) ≤ 1048576)) (fun _ i => 2 - (intOf i).toNat)
      case atStart => exact .inl ⟨rfl, rfl⟩
      case round =>
        rcases hrel with ⟨rfl, rfl⟩ | ⟨rfl, rfl, h1⟩ | ⟨rfl, rfl, h1⟩
        · go_wp2
          all_goals first | (go_ret; exact ⟨⟨_, rfl, fun h => by cases h⟩, rfl⟩) | skip
          go_roundw
          case rel => exact .inr (.inl ⟨by go_num, by go_num, by omega⟩)
          case measure => simp [intOf]
        · go_wp2
          all_goals first | (go_ret; exact ⟨⟨_, rfl, fun h => by cases h⟩, rfl⟩) | skip
          go_roundw
          case rel => exact .inr (.inr ⟨by go_num, by go_num, by omega⟩)
          case measure => simp [intOf]
        · go_wp2
          go_roundw
          case rel => exact ⟨j + 1, T + (k.size + v.size), by omega, by go_num, rfl, by rw [HT.out, szs_take ps j (by rw [HL.out]; exact hlt) HE.out]; omega, by omega⟩
          case measure => simp [intOf]; omega
    · obtain rfl : j = n := by omega
      go_wp2
      go_ret
      exact ⟨⟨_, rfl, fun _ => by have := HT.out; rw [List.take_of_length_le (by rw [HL.out]; exact Nat.le_refl _)] at this; omega⟩, rfl⟩

set_option maxHeartbeats 1000000 in
theorem bytes23 (s : ByteArray) (a : Option Addr) (n c : Nat) (ps : List Pair) (w : World) (hs : s.size ≤ 9223372036854775807) (hn : n ≤ 9223372036854775807) (h : RowP w a n ps) :
    Calls Try.prog 23 #[.string s, .slice a n c] w fun e w' => BoolIf true (s.size + n + szs ps ≤ 1048576) e ∧ w' = w := by
  have HR : Hid (RowP w a n ps) := h
  have HL : Hid (ps.length = n) := h.1
  clear h
  go_enter Try.func23, Try.ntmps23
  go_wp2
  all_goals first | (go_ret; exact ⟨⟨_, rfl, fun h => by cases h⟩, rfl⟩) | skip
  go_loop [5, 6] (fun t i => ∃ (j T : Nat), j ≤ n ∧ i = .int .i64 j ∧ t = .int .i64 T ∧ T = s.size + n + szs (ps.take j) ∧ T ≤ 1048576) (fun _ i => n - (intOf i).toNat)
  case atStart => exact ⟨0, _, Nat.zero_le _, rfl, by go_num, rfl, by simp [szs]; omega⟩
  case round =>
    obtain ⟨j, T, hj, rfl, rfl, hT, hle⟩ := hrel
    have HT : Hid (T = _) := hT
    clear hT
    by_cases hlt : j < n
    · obtain ⟨x, k, v, rfl, E, hk, hv, c1, c2⟩ := HR.out.at hlt
      have HE : Hid (_ = _) := E
      clear E
      go_wp2
      go_loop [5, 7] (fun t i => (i = .int .i64 0 ∧ t = .int .i64 T) ∨ (i = .int .i64 1 ∧ t = .int .i64 (T + k.size : Nat) ∧ T + k.size ≤ 1048576) ∨ (i = .int .i64 2 ∧ t = .int .i64 (T + (k.size + v.size) : Nat) ∧ T + (k.size + v.size) ≤ 1048576)) (fun _ i => 2 - (intOf i).toNat)
      case atStart => exact .inl ⟨rfl, rfl⟩
      case round =>
        rcases hrel with ⟨rfl, rfl⟩ | ⟨rfl, rfl, h1⟩ | ⟨rfl, rfl, h1⟩
        · go_wp2
          all_goals first | (go_ret; exact ⟨⟨_, rfl, fun h => by cases h⟩, rfl⟩) | skip
          go_roundw
          case rel => exact .inr (.inl ⟨by go_num, by go_num, by omega⟩)
          case measure => simp [intOf]
        · go_wp2
          all_goals first | (go_ret; exact ⟨⟨_, rfl, fun h => by cases h⟩, rfl⟩) | skip
          go_roundw
          case rel => exact .inr (.inr ⟨by go_num, by go_num, by omega⟩)
          case measure => simp [intOf]
        · go_wp2
          go_roundw
          case rel => exact ⟨j + 1, T + (k.size + v.size), by omega, by go_num, rfl, by rw [HT.out, szs_take ps j (by rw [HL.out]; exact hlt) HE.out]; omega, by omega⟩
          case measure => simp [intOf]; omega
    · obtain rfl : j = n := by omega
      go_wp2
      go_ret
      exact ⟨⟨_, rfl, fun _ => by have := HT.out; rw [List.take_of_length_le (by rw [HL.out]; exact Nat.le_refl _)] at this; omega⟩, rfl⟩
end Go.Proofs.Qxb6603898a
