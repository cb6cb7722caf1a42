import Derived.Test.Qxb6603898aW1
namespace Go.Proofs.Qxb6603898a
open Go.RowKit

theorem sE_back (r : List Int) : sE false (92 :: r) = 1 + sE true r := by simp [sE]
theorem sE_quote (r : List Int) : sE false (34 :: r) = 1 := by simp [sE]
theorem sE_other (c : Int) (r : List Int) (h1 : c ≠ 92) (h2 : c ≠ 34) : sE false (c :: r) = 1 + sE false r := by simp [sE, h1, h2]
theorem sE_esc (c : Int) (r : List Int) : sE true (c :: r) = 1 + sE false r := by simp [sE]

/-! ### stringEnd -/
set_option maxHeartbeats 400000 in
theorem strEnd_any (a : Option Addr) (n cap i : Nat) (zs : List Int) (w : World) (h : RowB w a n zs) (hn : n ≤ 1048576) (hi : i < n) :
    Calls Try.prog 32 #[.slice a n cap, .int .i64 i] w fun e w' => e = .returned (.int .i64 ((i + 1 + sE false (zs.drop (i + 1)) : Nat) : Int)) ∧ w' = w := by
  have hl := h.1
  have HL : Hid (zs.length = n) := hl
  clear hl
  go_enter Try.func32, Try.ntmps32
  go_wp2
  go_loop [1] (fun t => ∃ j : Nat, j ≤ n + 1 ∧ t = .int .i64 j ∧ ((j ≤ n ∧ j + sE false (zs.drop j) = i + 1 + sE false (zs.drop (i + 1))) ∨ (j = n + 1 ∧ n = i + 1 + sE false (zs.drop (i + 1))))) (fun t => n + 1 - (intOf t).toNat)
  case atStart => exact ⟨i + 1, by omega, by go_num, .inl ⟨by omega, rfl⟩⟩
  case round =>
    obtain ⟨j, hj, rfl, hR⟩ := hrel
    have HR : Hid ((j ≤ n ∧ j + sE false (zs.drop j) = i + 1 + sE false (zs.drop (i + 1))) ∨ (j = n + 1 ∧ n = i + 1 + sE false (zs.drop (i + 1)))) := hR
    clear hR
    by_cases hlt : j < n
    · obtain ⟨x, rfl, hc⟩ := h.cell hlt
      have hd := drop_cons zs j (by rw [HL.out]; exact hlt)
      obtain ⟨c, hcc⟩ : ∃ c, c = zs.getD j 0 := ⟨_, rfl⟩
      rw [← hcc] at hc hd
      have HD : Hid (zs.drop j = c :: zs.drop (j + 1)) := hd
      clear hcc hd
      by_cases h92 : c = 92
      · subst h92
        go_wp2
        go_round
        case rel =>
          refine ⟨j + 2, by omega, by go_num, ?_⟩
          rcases HR.out with ⟨_, e⟩ | ⟨e, _⟩
          · rw [HD.out, sE_back] at e
            by_cases hj1 : j + 1 < n
            · rw [drop_cons zs (j + 1) (by rw [HL.out]; exact hj1), sE_esc] at e
              exact .inl ⟨by omega, by show j + 2 + sE false (zs.drop (j + 1 + 1)) = _; rw [← e]; omega⟩
            · rw [List.drop_eq_nil_of_le (by rw [HL.out]; omega)] at e
              refine .inr ⟨by omega, ?_⟩
              rw [← e, sE]
              omega
          · omega
        case measure => simp [intOf]; omega
      · by_cases h34 : c = 34
        · subst h34
          go_wp2
          go_ret
          refine ⟨ret_i64 ?_, rfl⟩
          rcases HR.out with ⟨_, e⟩ | ⟨e, _⟩
          · rw [HD.out, sE_quote] at e
            omega
          · omega
        · go_wp2
          go_round
          case rel =>
            refine ⟨j + 1, by omega, by go_num, ?_⟩
            rcases HR.out with ⟨_, e⟩ | ⟨e, _⟩
            · rw [HD.out, sE_other c _ h92 h34] at e
              exact .inl ⟨by omega, by rw [← e]; omega⟩
            · omega
          case measure => simp [intOf]; omega
    · go_wp2
      go_ret
      refine ⟨ret_i64 ?_, rfl⟩
      rcases HR.out with ⟨_, e⟩ | ⟨e, e2⟩
      · rw [List.drop_eq_nil_of_le (by rw [HL.out]; omega), sE] at e
        omega
      · omega

/-! ### valueEnd -/
theorem bal_quote (d : Int) (r : List Int) : bal d (clsf 0 (34 :: r)) = 1 + sE false r + bal d (clsf 0 (r.drop (sE false r))) := by
  have e : clsf 0 (34 :: r) = 4 :: clsf 1 r := by simp [clsf, cl]
  rw [e, bal, if_neg (by decide), if_neg (by decide), clsf_str, bal_fives]
  omega
theorem bal_open (d c : Int) (r : List Int) (h : c = 123 ∨ c = 91) : bal d (clsf 0 (c :: r)) = 1 + bal (d + 1) (clsf 0 r) := by
  have e : clsf 0 (c :: r) = 2 :: clsf 0 r := by rcases h with rfl | rfl <;> simp [clsf, cl]
  rw [e, bal, if_pos rfl]
theorem bal_close0 (d c : Int) (r : List Int) (h : c = 125 ∨ c = 93) (hd : d = 1) : bal d (clsf 0 (c :: r)) = 1 := by
  have e : clsf 0 (c :: r) = 3 :: clsf 0 r := by rcases h with rfl | rfl <;> simp [clsf, cl]
  rw [e, bal, if_neg (by decide), if_pos rfl, if_pos (by omega)]
theorem bal_close1 (d c : Int) (r : List Int) (h : c = 125 ∨ c = 93) (hd : d ≠ 1) : bal d (clsf 0 (c :: r)) = 1 + bal (d - 1) (clsf 0 r) := by
  have e : clsf 0 (c :: r) = 3 :: clsf 0 r := by rcases h with rfl | rfl <;> simp [clsf, cl]
  rw [e, bal, if_neg (by decide), if_pos rfl, if_neg (by omega)]
theorem cl_other {c : Int} (h2 : c ≠ 123) (h3 : c ≠ 91) (h4 : c ≠ 125) (h5 : c ≠ 93) : cl c ≠ 2 ∧ cl c ≠ 3 := by
  unfold cl
  constructor <;> (repeat' split) <;> omega
theorem bal_other (d c : Int) (r : List Int) (h1 : c ≠ 34) (h2 : c ≠ 123) (h3 : c ≠ 91) (h4 : c ≠ 125) (h5 : c ≠ 93) : bal d (clsf 0 (c :: r)) = 1 + bal d (clsf 0 r) := by
  obtain ⟨a, b⟩ := cl_other h2 h3 h4 h5
  rw [clsf, bal, if_neg a, if_neg b, if_neg h1]
theorem scal_hit (c : Int) (r : List Int) (h : delim c = true) : scal (c :: r) = 0 := by simp [scal, h]
theorem scal_miss (c : Int) (r : List Int) (h : delim c = false) : scal (c :: r) = 1 + scal r := by simp [scal, h]
theorem vLen_quote (r : List Int) : vLen (34 :: r) = 1 + sE false r := by simp [vLen]
theorem vLen_open (c : Int) (r : List Int) (h : c = 123 ∨ c = 91) : vLen (c :: r) = bal 0 (clsf 0 (c :: r)) := by
  rw [vLen, if_neg (by omega), if_pos h]
theorem vLen_other (c : Int) (r : List Int) (h1 : c ≠ 34) (h2 : c ≠ 123) (h3 : c ≠ 91) : vLen (c :: r) = scal (c :: r) := by
  rw [vLen, if_neg h1, if_neg (by omega)]

set_option maxHeartbeats 1000000 in
/-- At a bracket. -/
theorem valEnd_open (x : Addr) (n cap i : Nat) (zs : List Int) (c0 : Int) (w : World) (h : RowB w (some x) n zs) (hn : n ≤ 1048576) (hi : i < n) (hc0 : zs.getD i 0 = c0) (ho : c0 = 123 ∨ c0 = 91) :
    Calls Try.prog 26 #[.slice (some x) n cap, .int .i64 i] w fun e w' => e = .returned (.int .i64 ((i + vLen (zs.drop i) : Nat) : Int)) ∧ w' = w := by
  have HL : Hid (zs.length = n) := h.1
  obtain ⟨_, e0, hci⟩ := h.cell hi
  cases e0
  rw [hc0] at hci
  have e1 : vLen (zs.drop i) = bal 0 (clsf 0 (zs.drop i)) := by rw [drop_cons zs i (by rw [HL.out]; exact hi), hc0, vLen_open c0 _ ho]
  rw [e1]
  have HO : Hid (c0 = 123 ∨ c0 = 91) := ho
  clear e1 hc0 ho
  have key : ∀ c1 : Int, c1 = c0 → (c1 = 123 ∨ c1 = 91) → Calls Try.prog 26 #[.slice (some x) n cap, .int .i64 i] w fun e w' => e = .returned (.int .i64 ((i + bal 0 (clsf 0 (zs.drop i)) : Nat) : Int)) ∧ w' = w := by
    intro c1 hc1 hor
    rw [← hc1] at hci
    clear hc1 HO
    have hin : ((i : Int) == (n : Int)) = false := beq_eq_false_iff_ne.2 (by omega)
    rcases hor with rfl | rfl
    all_goals
      go_enter Try.func26, Try.ntmps26
      go_wp2
      go_loop [1, 5] (fun t d => ∃ (j : Nat) (k : Int), j ≤ n ∧ t = .int .i64 j ∧ d = .int .i64 k ∧ -(j : Int) ≤ k ∧ k ≤ j ∧ j + bal k (clsf 0 (zs.drop j)) = i + bal 0 (clsf 0 (zs.drop i))) (fun t _ => n - (intOf t).toNat)
      case atStart => exact ⟨i, 0, by omega, rfl, rfl, by omega, by omega, rfl⟩
      case round =>
        obtain ⟨j, k, hj, rfl, rfl, hk1, hk2, hR⟩ := hrel
        have HR : Hid (j + bal k (clsf 0 (zs.drop j)) = i + bal 0 (clsf 0 (zs.drop i))) := hR
        clear hR
        by_cases hlt : j < n
        · obtain ⟨_, e0, hc⟩ := h.cell hlt
          cases e0
          have hd := drop_cons zs j (by rw [HL.out]; exact hlt)
          obtain ⟨c, hcc⟩ : ∃ c, c = zs.getD j 0 := ⟨_, rfl⟩
          rw [← hcc] at hc hd
          have HD : Hid (zs.drop j = c :: zs.drop (j + 1)) := hd
          clear hcc hd hci
          by_cases h34 : c = 34
          · subst h34
            have hse := sE_le (zs.drop (j + 1)) false
            rw [List.length_drop, HL.out] at hse
            go_wp2_with fail
            refine (strEnd_any (some x) n cap j zs w h hn hlt).mono ?_
            rintro e w' ⟨rfl, hw⟩
            obtain rfl : w = w' := hw.symm
            go_wp2
            go_round
            case rel =>
              refine ⟨j + 1 + sE false (zs.drop (j + 1)), k, by omega, by go_num, rfl, by omega, by omega, ?_⟩
              rw [← HR.out, HD.out, bal_quote, List.drop_drop]
              omega
            case measure => simp [intOf]; omega
          by_cases h123 : c = 123
          · subst h123
            go_wp2
            go_round
            case rel => exact ⟨j + 1, k + 1, by omega, by go_num, rfl, by omega, by omega, by rw [← HR.out, HD.out, bal_open k 123 _ (by decide)]; omega⟩
            case measure => simp [intOf]; omega
          by_cases h91 : c = 91
          · subst h91
            go_wp2
            go_round
            case rel => exact ⟨j + 1, k + 1, by omega, by go_num, rfl, by omega, by omega, by rw [← HR.out, HD.out, bal_open k 91 _ (by decide)]; omega⟩
            case measure => simp [intOf]; omega
          by_cases h125 : c = 125
          · subst h125
            by_cases hk : k = 1
            · subst hk
              go_wp2
              go_ret
              refine ⟨ret_i64 ?_, rfl⟩
              have := HR.out
              rw [HD.out, bal_close0 1 125 _ (by decide) rfl] at this
              omega
            · go_wp2
              go_round
              case rel => exact ⟨j + 1, k - 1, by omega, by go_num, rfl, by omega, by omega, by rw [← HR.out, HD.out, bal_close1 k 125 _ (by decide) hk]; omega⟩
              case measure => simp [intOf]; omega
          by_cases h93 : c = 93
          · subst h93
            by_cases hk : k = 1
            · subst hk
              go_wp2
              go_ret
              refine ⟨ret_i64 ?_, rfl⟩
              have := HR.out
              rw [HD.out, bal_close0 1 93 _ (by decide) rfl] at this
              omega
            · go_wp2
              go_round
              case rel => exact ⟨j + 1, k - 1, by omega, by go_num, rfl, by omega, by omega, by rw [← HR.out, HD.out, bal_close1 k 93 _ (by decide) hk]; omega⟩
              case measure => simp [intOf]; omega
          go_wp2
          go_round
          case rel => exact ⟨j + 1, k, by omega, by go_num, rfl, by omega, by omega, by rw [← HR.out, HD.out, bal_other k c _ h34 h123 h91 h125 h93]; omega⟩
          case measure => simp [intOf]; omega
        · go_wp2
          go_ret
          refine ⟨ret_i64 ?_, rfl⟩
          have := HR.out
          rw [List.drop_eq_nil_of_le (by rw [HL.out]; omega)] at this
          simp only [clsf, bal] at this
          omega
  exact key c0 rfl HO.out
end Go.Proofs.Qxb6603898a
