import Derived.Test.Qxb6603898aW6
namespace Go.Proofs.Qxb6603898a
open Go.RowKit

/-! ### zzValueEndModel -/
set_option maxHeartbeats 1000000 in
theorem model_scal (x : Addr) (n cap i : Nat) (zs : List Int) (c0 : Int) (w : World) (h : RowB w (some x) n zs) (hn : n ≤ 1048576) (hi : i < n) (hc0 : zs.getD i 0 = c0) (g1 : c0 ≠ 34) (g2 : c0 ≠ 123) (g3 : c0 ≠ 91) :
    Calls Try.prog 12 #[.slice (some x) n cap, .int .i64 i] w fun e w' => e = .returned (.int .i64 ((i + vLen (zs.drop i) : Nat) : Int)) ∧ Below w.heap.size w w' := by
  have HL : Hid (zs.length = n) := h.1
  obtain ⟨_, e0, hci⟩ := h.cell hi
  cases e0
  rw [hc0] at hci
  have e1 : vLen (zs.drop i) = scal (zs.drop i) := by rw [drop_cons zs i (by rw [HL.out]; exact hi), hc0, vLen_other c0 _ g1 g2 g3]
  rw [e1]
  clear e1 hc0
  have hin : ((i : Int) == (n : Int)) = false := beq_eq_false_iff_ne.2 (by omega)
  go_enter Try.func12, Try.ntmps12
  go_wp2
  go_loop [9] (fun t => ∃ j : Nat, j ≤ n ∧ t = .int .i64 j ∧ j + scal (zs.drop j) = i + scal (zs.drop i)) (fun t => n - (intOf t).toNat)
  case atStart => exact ⟨i, by omega, rfl, rfl⟩
  case round =>
    obtain ⟨j, hj, rfl, hR⟩ := hrel
    have HR : Hid (j + scal (zs.drop j) = i + scal (zs.drop i)) := hR
    clear hR
    by_cases hlt : j < n
    · obtain ⟨_, e0, hc⟩ := h.cell hlt
      cases e0
      have hd := drop_cons zs j (by rw [HL.out]; exact hlt)
      obtain ⟨c, hcc⟩ : ∃ c, c = zs.getD j 0 := ⟨_, rfl⟩
      rw [← hcc] at hc hd
      have HD : Hid (zs.drop j = c :: zs.drop (j + 1)) := hd
      clear hcc hd hci
      by_cases h32 : c = 32
      · subst h32
        go_wp2
        go_ret
        refine ⟨ret_i64 ?_, Below.refl _ _⟩
        have := HR.out
        rw [HD.out, scal_hit 32 _ (by decide)] at this
        omega
      by_cases h9 : c = 9
      · subst h9
        go_wp2
        go_ret
        refine ⟨ret_i64 ?_, Below.refl _ _⟩
        have := HR.out
        rw [HD.out, scal_hit 9 _ (by decide)] at this
        omega
      by_cases h13 : c = 13
      · subst h13
        go_wp2
        go_ret
        refine ⟨ret_i64 ?_, Below.refl _ _⟩
        have := HR.out
        rw [HD.out, scal_hit 13 _ (by decide)] at this
        omega
      by_cases h10 : c = 10
      · subst h10
        go_wp2
        go_ret
        refine ⟨ret_i64 ?_, Below.refl _ _⟩
        have := HR.out
        rw [HD.out, scal_hit 10 _ (by decide)] at this
        omega
      by_cases h44 : c = 44
      · subst h44
        go_wp2
        go_ret
        refine ⟨ret_i64 ?_, Below.refl _ _⟩
        have := HR.out
        rw [HD.out, scal_hit 44 _ (by decide)] at this
        omega
      by_cases h93 : c = 93
      · subst h93
        go_wp2
        go_ret
        refine ⟨ret_i64 ?_, Below.refl _ _⟩
        have := HR.out
        rw [HD.out, scal_hit 93 _ (by decide)] at this
        omega
      by_cases h125 : c = 125
      · subst h125
        go_wp2
        go_ret
        refine ⟨ret_i64 ?_, Below.refl _ _⟩
        have := HR.out
        rw [HD.out, scal_hit 125 _ (by decide)] at this
        omega
      go_wp2
      go_round
      case rel => exact ⟨j + 1, by omega, by go_num, by rw [← HR.out, HD.out, scal_miss c _ (delim_miss h32 h9 h13 h10 h44 h93 h125)]; omega⟩
      case measure => simp [intOf]; omega
    · go_wp2
      go_ret
      refine ⟨ret_i64 ?_, Below.refl _ _⟩
      have := HR.out
      rw [List.drop_eq_nil_of_le (by rw [HL.out]; omega)] at this
      simp only [scal] at this
      omega

set_option maxHeartbeats 1000000 in
theorem model_quote (x : Addr) (n cap i : Nat) (zs : List Int) (w : World) (h : RowB w (some x) n zs) (hn : n ≤ 1048576) (hi : i < n) (hc0 : zs.getD i 0 = 34) :
    Calls Try.prog 12 #[.slice (some x) n cap, .int .i64 i] w fun e w' => e = .returned (.int .i64 ((i + vLen (zs.drop i) : Nat) : Int)) ∧ Below w.heap.size w w' := by
  obtain ⟨_, e0, hci⟩ := h.cell hi
  cases e0
  rw [hc0] at hci
  have e1 : i + vLen (zs.drop i) = i + 1 + sE false (zs.drop (i + 1)) := by rw [drop_cons zs i (by rw [h.1]; exact hi), hc0, vLen_quote]; omega
  rw [e1]
  clear e1 hc0
  have hin : ((i : Int) == (n : Int)) = false := beq_eq_false_iff_ne.2 (by omega)
  go_enter Try.func12, Try.ntmps12
  go_wp2_with fail
  refine (quoteEnd_any (some x) n cap i zs w h hn hi).mono ?_
  rintro e w' ⟨rfl, hw⟩
  obtain rfl : w = w' := hw.symm
  go_wp2
  go_ret
  exact ⟨rfl, Below.refl _ _⟩

theorem model_end (a : Option Addr) (n cap : Nat) (w : World) : Calls Try.prog 12 #[.slice a n cap, .int .i64 n] w fun e w' => e = .returned (.int .i64 n) ∧ Below w.heap.size w w' := by
  have hin : ((n : Int) == (n : Int)) = true := beq_self_eq_true _
  go_enter Try.func12, Try.ntmps12
  go_wp2
  go_ret
  exact ⟨rfl, Below.refl _ _⟩

theorem bal_two (d : Int) (cs : List Int) : bal d (2 :: cs) = 1 + bal (d + 1) cs := by rw [bal, if_pos rfl]
theorem bal_three0 (cs : List Int) : bal 1 (3 :: cs) = 1 := by rw [bal, if_neg (by decide), if_pos rfl, if_pos (by decide)]
theorem bal_three1 (d : Int) (cs : List Int) (h : d ≠ 1) : bal d (3 :: cs) = 1 + bal (d - 1) cs := by rw [bal, if_neg (by decide), if_pos rfl, if_neg (by omega)]
theorem bal_rest (d c : Int) (cs : List Int) (h2 : c ≠ 2) (h3 : c ≠ 3) : bal d (c :: cs) = 1 + bal d cs := by rw [bal, if_neg h2, if_neg h3]
theorem addr0 (b i : Nat) : (⟨b, 0, none⟩ : Addr).add i = ⟨b, i, none⟩ := by
  unfold Addr.add
  by_cases e0 : i = 0
  · subst e0; simp
  · simp [e0]
theorem RowB.tail {w : World} {b n : Nat} {zs : List Int} (h : RowB w (some ⟨b, 0, none⟩) n zs) {i : Nat} (hi : i < n) : RowB w (some ⟨b, i, none⟩) (n - i) (zs.drop i) := by
  obtain ⟨h1, ⟨e, _⟩ | ⟨x, e, h3⟩⟩ := h
  · cases e
  · cases e
    refine ⟨by simp; omega, .inr ⟨_, rfl, fun k hk => ?_⟩⟩
    have := h3 (i + k) (by omega)
    rw [List.getD_eq_getElem?_getD, List.getElem?_drop, ← List.getD_eq_getElem?_getD, ← this]
    congr 1
    unfold Addr.add
    by_cases e0 : k = 0
    · subst e0; by_cases e1 : i = 0 <;> simp [e1]
    · simp [e0]

set_option maxHeartbeats 1000000 in
theorem model_open (b n cap i : Nat) (zs : List Int) (c0 : Int) (w : World) (h : RowB w (some ⟨b, 0, none⟩) n zs) (hnc : n ≤ cap) (hn : n ≤ 1048576) (hi : i < n) (hc0 : zs.getD i 0 = c0) (ho : c0 = 123 ∨ c0 = 91) :
    Calls Try.prog 12 #[.slice (some ⟨b, 0, none⟩) n cap, .int .i64 i] w fun e w' => e = .returned (.int .i64 ((i + vLen (zs.drop i) : Nat) : Int)) ∧ Below w.heap.size w w' := by
  have HL : Hid (zs.length = n) := h.1
  obtain ⟨_, e0, hci⟩ := h.cell hi
  cases e0
  rw [hc0, addr0] at hci
  have e1 : vLen (zs.drop i) = bal 0 (clsf 0 (zs.drop i)) := by rw [drop_cons zs i (by rw [HL.out]; exact hi), hc0, vLen_open c0 _ ho]
  rw [e1]
  have HO : Hid (c0 = 123 ∨ c0 = 91) := ho
  clear e1 hc0 ho
  have key : ∀ c1 : Int, c1 = c0 → (c1 = 123 ∨ c1 = 91) → Calls Try.prog 12 #[.slice (some ⟨b, 0, none⟩) n cap, .int .i64 i] w fun e w' => e = .returned (.int .i64 ((i + bal 0 (clsf 0 (zs.drop i)) : Nat) : Int)) ∧ Below w.heap.size w w' := by
    intro c1 hc1 hor
    rw [← hc1] at hci
    clear hc1 HO
    have hin : ((i : Int) == (n : Int)) = false := beq_eq_false_iff_ne.2 (by omega)
    rcases hor with rfl | rfl
    all_goals
      go_enter Try.func12, Try.ntmps12
      go_wp2_with fail
      refine (classify_any (some ⟨b, i, none⟩) (n - i) (cap - i) (zs.drop i) w (h.tail hi) (by omega)).mono ?_
      rintro e w' ⟨rfl, rfl⟩
      have HCL : Hid ((clsf 0 (zs.drop i)).length = n - i) := by rw [length_clsf, List.length_drop, HL.out]; exact rfl
      obtain ⟨cs, hcs⟩ : ∃ cs, cs = clsf 0 (zs.drop i) := ⟨_, rfl⟩
      rw [← hcs] at HCL ⊢
      have HS : Hid (cs = clsf 0 (zs.drop i)) := hcs
      clear hcs
      go_wp2
      go_loop [7, 8] (fun d t => ∃ (k : Nat) (e : Int), k ≤ n - i ∧ t = .int .i64 k ∧ d = .int .i64 e ∧ -(k : Int) ≤ e ∧ e ≤ k ∧ k + bal e (cs.drop k) = bal 0 cs) (fun _ t => n - (intOf t).toNat)
      case atStart => exact ⟨0, 0, Nat.zero_le _, rfl, rfl, by omega, by omega, by simp⟩
      case round =>
        obtain ⟨k, e, hk, rfl, rfl, he1, he2, hR⟩ := hrel
        have HR : Hid (k + bal e (cs.drop k) = bal 0 cs) := hR
        clear hR
        by_cases hlt : k < n - i
        · obtain ⟨c, hcc⟩ : ∃ c, c = cs.getD k 0 := ⟨_, rfl⟩
          have hd := drop_cons cs k (by rw [HCL.out]; exact hlt)
          have hck : (cs.map (Value.int .u8))[k]? = some (.int .u8 c) := by
            rw [List.getElem?_map, List.getElem?_eq_getElem (by rw [HCL.out]; exact hlt), Option.map_some, hcc, List.getD_eq_getElem?_getD, List.getElem?_eq_getElem (by rw [HCL.out]; exact hlt), Option.getD_some]
          rw [← hcc] at hd
          have HD : Hid (cs.drop k = c :: cs.drop (k + 1)) := hd
          clear hcc hd
          by_cases h2 : c = 2
          · subst h2
            go_wp2
            go_round
            case rel => exact ⟨k + 1, e + 1, by omega, by go_num, rfl, by omega, by omega, by rw [← HR.out, HD.out, bal_two]; omega⟩
            case measure => simp [intOf]; omega
          by_cases h3 : c = 3
          · subst h3
            by_cases he : e = 1
            · subst he
              go_wp2
              go_ret
              refine ⟨ret_i64 ?_, (Below.refl _ _).alloc (Nat.le_refl _) _⟩
              have := HR.out
              rw [HD.out, bal_three0, HS.out] at this
              omega
            · go_wp2
              go_round
              case rel => exact ⟨k + 1, e - 1, by omega, by go_num, rfl, by omega, by omega, by rw [← HR.out, HD.out, bal_three1 e _ he]; omega⟩
              case measure => simp [intOf]; omega
          go_wp2
          go_round
          case rel => exact ⟨k + 1, e, by omega, by go_num, rfl, by omega, by omega, by rw [← HR.out, HD.out, bal_rest e c _ h2 h3]; omega⟩
          case measure => simp [intOf]; omega
        · obtain rfl : k = n - i := by omega
          go_wp2
          go_ret
          refine ⟨ret_i64 ?_, (Below.refl _ _).alloc (Nat.le_refl _) _⟩
          have := HR.out
          rw [List.drop_eq_nil_of_le (by rw [HCL.out]; omega), HS.out] at this
          simp only [bal] at this
          omega
  exact key c0 rfl HO.out

/-- zzValueEndModel, over a copy. -/
theorem model_any (a : Option Addr) (n cap i : Nat) (zs : List Int) (w : World) (h : RowB w a n zs) (ha : ∀ x, a = some x → ∃ b, x = ⟨b, 0, none⟩) (hnc : n ≤ cap) (hn : n ≤ 1048576) (hi : i ≤ n) :
    Calls Try.prog 12 #[.slice a n cap, .int .i64 i] w fun e w' => e = .returned (.int .i64 ((i + vLen (zs.drop i) : Nat) : Int)) ∧ Below w.heap.size w w' := by
  by_cases hlt : i < n
  · obtain ⟨x, rfl, _⟩ := h.cell hlt
    obtain ⟨b, rfl⟩ := ha x rfl
    by_cases h1 : zs.getD i 0 = 34
    · exact model_quote _ n cap i zs w h hn hlt h1
    · by_cases h2 : zs.getD i 0 = 123 ∨ zs.getD i 0 = 91
      · exact model_open b n cap i zs _ w h hnc hn hlt rfl h2
      · exact model_scal _ n cap i zs _ w h hn hlt rfl h1 (fun e => h2 (.inl e)) (fun e => h2 (.inr e))
  · obtain rfl : i = n := by omega
    rw [List.drop_eq_nil_of_le (by rw [h.1]; omega)]
    exact model_end a i cap w

/-! ### THE LAW -/
set_option maxHeartbeats 1000000 in
theorem match_law (a : Option Addr) (n cap : Nat) (zs : List Int) (i : Int) (w : World) (h : RowB w a n zs) (hcap : a = none → cap = 0) (hm : n ≤ maxLen) (hi : -9223372036854775808 ≤ i ∧ i ≤ 9223372036854775807) :
    Calls Try.prog 3 #[.slice a n cap, .int .i64 i] w fun e w' => e = .returned (.bool true) ∧ Below w.heap.size w w' := by
  have HM : Hid (n ≤ maxLen) := hm
  unfold maxLen at hm
  go_enter Try.func3, Try.ntmps3
  go_wp2_with fail
  refine (bytes9 a n cap i w HM.out).mono ?_
  rintro e w' ⟨⟨b, rfl⟩, hw⟩
  obtain rfl : w = w' := hw.symm
  cases b
  · go_wp2
    go_ret
    exact ⟨rfl, Below.refl _ _⟩
  by_cases g1 : n ≤ 1048576
  rotate_left
  · go_wp2
    go_ret
    exact ⟨rfl, Below.refl _ _⟩
  by_cases g2 : i < 0
  · go_wp2
    go_ret
    exact ⟨rfl, Below.refl _ _⟩
  by_cases g3 : (n : Int) < i
  · go_wp2
    go_ret
    exact ⟨rfl, Below.refl _ _⟩
  obtain ⟨k, rfl⟩ := Int.eq_ofNat_of_zero_le (Int.not_lt.1 g2)
  have hk : k ≤ n := by omega
  clear g2 g3 hi
  go_wp2_with fail
  refine (copy_at a n cap zs w hcap h g1).mono ?_
  rintro e W ⟨a', c', rfl, hc', hr, hb, ha⟩
  go_wp2_with fail
  refine (zzEnd_any a' n c' k zs W hr g1 hk).mono ?_
  rintro e w' ⟨rfl, hw⟩
  obtain rfl : W = w' := hw.symm
  go_wp2_with fail
  refine (model_any a' n c' k zs W hr ha hc' g1 hk).mono ?_
  rintro e w' ⟨rfl, hb2⟩
  go_wp2
  go_ret
  exact ⟨rfl, hb.trans (hb2.mono hb.size)⟩
end Go.Proofs.Qxb6603898a
