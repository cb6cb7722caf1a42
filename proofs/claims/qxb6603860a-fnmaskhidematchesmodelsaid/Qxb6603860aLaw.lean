import Derived.Test.Qxb6603860aHide
import Derived.Test.Qxb6603860aModel
namespace Go.Proofs.Qxb6603860a
open Go.RowKit Go.Maps

theorem clone_str_any (a : Option Addr) (len cap : Nat) (ss : List ByteArray) (w : World) (h : RowS w a len cap ss) :
    Calls Try.prog 5 #[.slice a len cap] w fun e w' => ∃ a' c', e = .returned (.slice a' len c') ∧ RowS w' a' len c' ss ∧ Below w.heap.size w w' := by
  rcases h with ⟨rfl, rfl, rfl, rfl⟩ | ⟨x, rfl, h1, h2, h3⟩
  · refine (clone_str_nil w).mono ?_
    rintro e w' ⟨rfl, rfl⟩
    exact ⟨none, 0, rfl, .inl ⟨rfl, rfl, rfl, rfl⟩, Below.refl _ _⟩
  · refine (clone_str x len cap ss w h1 h2 h3).mono ?_
    rintro e w' ⟨rfl, rfl⟩
    refine ⟨_, _, rfl, .inr ⟨⟨w.heap.size, 0, none⟩, rfl, h1, h2, fun i hi => ?_⟩, (Below.refl _ _).alloc (Nat.le_refl _) _⟩
    exact cells_new w (ss.map .string) 9 i _ (by rw [List.getElem?_map, List.getElem?_eq_getElem (by omega), Option.map_some, List.getD_eq_getElem?_getD, List.getElem?_eq_getElem (by omega), Option.getD_some])
theorem clone_int_any (a : Option Addr) (len cap : Nat) (zs : List Int) (w : World) (h : RowI w a len cap zs) :
    Calls Try.prog 6 #[.slice a len cap] w fun e w' => ∃ a' c', e = .returned (.slice a' len c') ∧ RowI w' a' len c' zs ∧ Below w.heap.size w w' := by
  rcases h with ⟨rfl, rfl, rfl, rfl⟩ | ⟨x, rfl, h1, h2, h3⟩
  · refine (clone_int_nil w).mono ?_
    rintro e w' ⟨rfl, rfl⟩
    exact ⟨none, 0, rfl, .inl ⟨rfl, rfl, rfl, rfl⟩, Below.refl _ _⟩
  · refine (clone_int x len cap zs w h1 h2 h3).mono ?_
    rintro e w' ⟨rfl, rfl⟩
    refine ⟨_, _, rfl, .inr ⟨⟨w.heap.size, 0, none⟩, rfl, h1, h2, fun i hi => ?_⟩, (Below.refl _ _).alloc (Nat.le_refl _) _⟩
    exact cells_new w (zs.map (.int .i64)) 3 i _ (by rw [List.getElem?_map, List.getElem?_eq_getElem (by omega), Option.map_some, List.getD_eq_getElem?_getD, List.getElem?_eq_getElem (by omega), Option.getD_some])
theorem set_any (a : Option Addr) (len cap : Nat) (ss : List ByteArray) (w : World) (h : RowS w a len cap ss) (hss : ∀ t ∈ ss, t.size ≤ maxLen) :
    Calls Try.prog 7 #[.slice a len cap] w fun e w' => e = .returned (.map (some w.heap.size)) ∧ IsSet w' w.heap.size len ss ∧ Below w.heap.size w w' := by
  rcases h with ⟨rfl, rfl, rfl, rfl⟩ | ⟨x, rfl, h1, h2, h3⟩
  · exact set_nil w
  · exact set_some x len cap ss w h1 h2 hss h3
theorem zz_any (a : Option Addr) (ln lc mb mn : Nat) (ls : List Int) (ss : List ByteArray) (t : ByteArray) (w : World) (h : RowI w a ln lc ls) (ht : t.size ≤ 1048576)
    (hnn : ∀ k, k < ln → ∃ m : Nat, ls.getD k 0 = m ∧ m ≤ 9223372036854775807) (hS : IsSet w mb mn ss) :
    Calls Try.prog 8 #[.map (some mb), .slice a ln lc, .string t] w fun e w' => ∃ B, Marks (covK ls ss t ln) t.size B ∧ e = .returned (.string ⟨(rend t B t.size).toArray⟩) ∧ Below w.heap.size w w' := by
  rcases h with ⟨rfl, rfl, rfl, rfl⟩ | ⟨x, rfl, h1, h2, h3⟩
  · exact zz_nil mb ss t w
  · exact zz_some x ln lc mb mn ls ss t w h1 h2 ht hnn h3 hS

/-- What the walk is told of a []string that came in. -/
def ArgS (w : World) (a : Option Addr) (len cap : Nat) (ss : List ByteArray) : Prop :=
  (a = none ∧ len = 0 ∧ cap = 0 ∧ ss = []) ∨ ∃ x, a = some x ∧ ss.length = len ∧ len ≤ maxLen ∧ (∀ s ∈ ss, s.size ≤ maxLen) ∧ ∀ i, i < len → w.cell? (x.add i) = some (.string (ss.getD i ByteArray.empty))
/-- .. of a []int. -/
def ArgI (w : World) (a : Option Addr) (len cap : Nat) (zs : List Int) : Prop :=
  (a = none ∧ len = 0 ∧ cap = 0 ∧ zs = []) ∨ ∃ x, a = some x ∧ zs.length = len ∧ len ≤ maxLen ∧ (∀ n ∈ zs, n ≤ 9223372036854775807) ∧ ∀ i, i < len → w.cell? (x.add i) = some (.int .i64 (zs.getD i 0))
theorem ArgS.row {w : World} {a : Option Addr} {len cap : Nat} {ss : List ByteArray} (h : ArgS w a len cap ss) (hl : len ≤ 65536) : RowS w a len cap ss := by
  rcases h with h | ⟨x, e, h1, _, _, h3⟩
  · exact .inl h
  · exact .inr ⟨x, e, h1, hl, h3⟩
theorem ArgI.row {w : World} {a : Option Addr} {len cap : Nat} {ss : List Int} (h : ArgI w a len cap ss) (hl : len ≤ 65536) : RowI w a len cap ss := by
  rcases h with h | ⟨x, e, h1, _, _, h3⟩
  · exact .inl h
  · exact .inr ⟨x, e, h1, hl, h3⟩
theorem ArgS.len {w : World} {a : Option Addr} {len cap : Nat} {ss : List ByteArray} (h : ArgS w a len cap ss) : ss.length = len ∧ len ≤ maxLen ∧ ∀ s ∈ ss, s.size ≤ maxLen := by
  rcases h with ⟨_, rfl, _, rfl⟩ | ⟨x, e, h1, h2, h3, _⟩
  · exact ⟨rfl, by unfold maxLen; omega, by simp⟩
  · exact ⟨h1, h2, h3⟩
theorem ArgI.len {w : World} {a : Option Addr} {len cap : Nat} {ss : List Int} (h : ArgI w a len cap ss) : ss.length = len ∧ len ≤ maxLen ∧ ∀ s ∈ ss, s ≤ 9223372036854775807 := by
  rcases h with ⟨_, rfl, _, rfl⟩ | ⟨x, e, h1, h2, h3, _⟩
  · exact ⟨rfl, by unfold maxLen; omega, by simp⟩
  · exact ⟨h1, h2, h3⟩
theorem bytes_any (a0 a1 : Option Addr) (n0 c0 n1 c1 : Nat) (ss : List ByteArray) (t : ByteArray) (w : World) (h : ArgS w a0 n0 c0 ss) (hm1 : n1 ≤ maxLen) (hm2 : t.size ≤ maxLen) :
    Calls Try.prog 4 #[.slice a0 n0 c0, .slice a1 n1 c1, .string t] w fun e w' => IsBool e ∧ w' = w := by
  rcases h with ⟨rfl, rfl, rfl, rfl⟩ | ⟨x, rfl, h1, h2, h3, h4⟩
  · exact bytes_nil a1 n1 c1 t w hm1 hm2
  · exact bytes_some x n0 c0 ss a1 n1 c1 t w h1 h2 hm1 hm2 h3 h4

theorem same_text (t : ByteArray) (B C : List Bool) (ls : List Int) (ss : List ByteArray) (n0 n1 : Nat) (h0 : ss.length = n0) (h1 : ls.length = n1) (hB : Marks (covK ls ss t n1) t.size B) (hC : Marks (mcovK ls ss t n0) t.size C) (hn : ∀ n ∈ ls, 0 ≤ n) : B = C := by
  subst h0; subst h1
  exact hB.uniq hC (fun j _ => cov_iff ls ss t hn j)

set_option maxHeartbeats 1000000 in
theorem law (a0 a1 : Option Addr) (n0 c0 n1 c1 : Nat) (ss : List ByteArray) (ls : List Int) (t : ByteArray) (w : World) (h0 : ArgS w a0 n0 c0 ss) (h1 : ArgI w a1 n1 c1 ls) (ht : t.size ≤ maxLen) :
    Calls Try.prog 3 #[.slice a0 n0 c0, .slice a1 n1 c1, .string t] w fun e w' => e = .returned (.bool true) ∧ Below w.heap.size w w' := by
  obtain ⟨hl0, hm0, hs0⟩ := h0.len
  obtain ⟨hl1, hm1, hi1⟩ := h1.len
  have HL0 : Hid (ss.length = n0) := hl0
  have HL1 : Hid (ls.length = n1) := hl1
  have HT : Hid (t.size ≤ maxLen) := ht
  have HM : Hid (n1 ≤ maxLen) := hm1
  unfold maxLen at hm0 hm1 ht
  go_enter Try.func3, Try.ntmps3
  go_wp2_with fail
  refine (bytes_any a0 a1 n0 c0 n1 c1 ss t w h0 HM.out HT.out).mono ?_
  rintro e w' ⟨⟨b, rfl⟩, hw⟩
  obtain rfl : w = w' := hw.symm
  cases b
  · go_wp2
    go_ret
    exact ⟨rfl, Below.refl _ _⟩
  by_cases hg : n0 ≤ 65536 ∧ n1 ≤ 65536 ∧ t.size ≤ 1048576
  rotate_left
  · have HG : Hid (¬ (n0 ≤ 65536 ∧ n1 ≤ 65536 ∧ t.size ≤ 1048576)) := hg
    clear hg
    go_wp2
    all_goals first | (go_ret; exact ⟨rfl, Below.refl _ _⟩) | exact absurd ⟨by omega, by omega, by omega⟩ HG.out
  obtain ⟨g0, g1, g2⟩ := hg
  go_wp2
  go_loop [7, 8] (fun tt i => ∃ (k : Nat) (s : Int), k ≤ n0 ∧ i = .int .i64 k ∧ tt = .int .i64 s ∧ 0 ≤ s ∧ s ≤ 2621440 + 1048576 * (k : Int) ∧ ∀ j, j < k → (ss.getD j ByteArray.empty).size ≤ 1048576) (fun _ i => n0 - (intOf i).toNat)
  case atStart => exact ⟨0, _, Nat.zero_le _, rfl, rfl, by omega, by omega, fun j hj => by omega⟩
  case round =>
    obtain ⟨k, s, hk, rfl, rfl, hs1, hs2, hall⟩ := hrel
    have HA : Hid (∀ j, j < k → (ss.getD j ByteArray.empty).size ≤ 1048576) := hall
    clear hall
    by_cases hlt : k < n0
    · rcases h0 with ⟨_, e, _⟩ | ⟨x, rfl, _, _, _, hc⟩
      · omega
      · obtain ⟨r, hr⟩ : ∃ r, r = ss.getD k ByteArray.empty := ⟨_, rfl⟩
        have hcx := hc k hlt
        rw [← hr] at hcx
        have HR : Hid (r = ss.getD k ByteArray.empty) := hr
        clear hr hc
        by_cases hrs : r.size ≤ 1048576
        · go_wp2
          go_round
          case rel => exact ⟨k + 1, _, by omega, by go_num, rfl, by omega, by omega, fun j hj => if e : j = k then (by rw [e, ← HR.out]; exact hrs) else HA.out j (by omega)⟩
          case measure => simp [intOf]; omega
        · by_cases hrm : (r.size : Int) ≤ 9223372036854775807
          · go_wp2
            go_ret
            exact ⟨rfl, Below.refl _ _⟩
          · have := hs0 r (by rw [HR.out, List.getD_eq_getElem?_getD, List.getElem?_eq_getElem (by rw [HL0.out]; exact hlt)]; exact List.getElem_mem _)
            unfold maxLen at this
            omega
    · obtain rfl : k = n0 := by omega
      by_cases hbig : s ≤ 1048576
      rotate_left
      · go_wp2
        go_ret
        exact ⟨rfl, Below.refl _ _⟩
      go_wp2
      go_loop [9] (fun i => ∃ j : Nat, j ≤ n1 ∧ i = .int .i64 j ∧ ∀ q, q < j → 0 ≤ ls.getD q 0) (fun i => n1 - (intOf i).toNat)
      case atStart => exact ⟨0, Nat.zero_le _, rfl, fun j hj => by omega⟩
      case round =>
        obtain ⟨j, hj, rfl, hall⟩ := hrel
        have HB : Hid (∀ q, q < j → 0 ≤ ls.getD q 0) := hall
        clear hall
        by_cases hjl : j < n1
        · rcases h1 with ⟨_, e, _⟩ | ⟨x, rfl, _, _, _, hc⟩
          · omega
          · obtain ⟨z, hz⟩ : ∃ z, z = ls.getD j 0 := ⟨_, rfl⟩
            have hcx := hc j hjl
            rw [← hz] at hcx
            have HZ : Hid (z = ls.getD j 0) := hz
            clear hz hc
            by_cases hz0 : z < 0
            · go_wp2
              go_ret
              exact ⟨rfl, Below.refl _ _⟩
            · go_wp2
              go_round
              case rel => exact ⟨j + 1, by omega, by go_num, fun q hq => if e : q = j then (by rw [e, ← HZ.out]; omega) else HB.out q (by omega)⟩
              case measure => simp [intOf]; omega
        · obtain rfl : j = n1 := by omega
          go_wp2_with fail
          refine (clone_str_any _ _ _ _ _ (h0.row g0)).mono ?_
          rintro e w1 ⟨b0, d0, rfl, r0, hb1⟩
          go_wp2_with fail
          refine (clone_int_any _ _ _ _ _ ((h1.row g1).below hb1)).mono ?_
          rintro e w2 ⟨b1, d1, rfl, r1, hb2⟩
          have r0' := r0.below hb2
          go_wp2_with fail
          refine (set_any _ _ _ _ _ r0' hs0).mono ?_
          rintro e w3 ⟨rfl, hS, hb3⟩
          have r1' := r1.below hb3
          have r0'' := r0'.below hb3
          go_wp2_with fail
          refine (zz_any _ _ _ _ _ _ _ _ _ r1' g2 (fun q hq => ?hnn) hS).mono ?_
          case hnn =>
            have h1 := HB.out q hq
            have h2 : ls.getD q 0 ≤ 9223372036854775807 := by rw [List.getD_eq_getElem?_getD, List.getElem?_eq_getElem (by rw [HL1.out]; exact hq)]; exact hi1 _ (List.getElem_mem _)
            exact ⟨(ls.getD q 0).toNat, by omega, by omega⟩
          rintro e w4 ⟨B, hB, rfl, hb4⟩
          go_wp2_with fail
          refine (model_any _ _ _ _ _ _ _ _ _ _ (r0''.below hb4) (r1'.below hb4) g2 ?hss).mono ?_
          case hss =>
            intro r hr
            obtain ⟨q, hq, e⟩ := List.mem_iff_getElem.1 hr
            have := HA.out q (by rw [HL0.out] at hq; exact hq)
            rw [List.getD_eq_getElem?_getD, List.getElem?_eq_getElem hq, Option.getD_some, e] at this
            exact this
          rintro e w5 ⟨C, hC, rfl, hb5⟩
          have hBC : B = C := same_text t B C ls ss _ _ HL0.out HL1.out hB hC (fun n hn => by
            obtain ⟨q, hq, e⟩ := List.mem_iff_getElem.1 hn
            have := HB.out q (by rw [HL1.out] at hq; exact hq)
            rw [List.getD_eq_getElem?_getD, List.getElem?_eq_getElem hq, Option.getD_some, e] at this
            exact this)
          subst hBC
          go_wp2
          go_ret
          exact ⟨rfl, hb1.trans ((hb2.trans ((hb3.trans ((hb4.trans (hb5.mono hb4.size)).mono hb3.size)).mono hb2.size)).mono hb1.size)⟩
end Go.Proofs.Qxb6603860a
