import Derived.Test.Qxb6603898aW2
namespace Go.Proofs.Qxb6603898a
open Go.RowKit

theorem delim_miss {c : Int} (h1 : c ≠ 32) (h2 : c ≠ 9) (h3 : c ≠ 13) (h4 : c ≠ 10) (h5 : c ≠ 44) (h6 : c ≠ 93) (h7 : c ≠ 125) : delim c = false := by
  simp [delim, h1, h2, h3, h4, h5, h6, h7]

set_option maxHeartbeats 1000000 in
/-- At a number or a literal (or at whatever begins no value). -/
theorem valEnd_scal (x : Addr) (n cap i : Nat) (zs : List Int) (c0 : Int) (w : World) (h : RowB w (some x) n zs) (hn : n ≤ 1048576) (hi : i < n) (hc0 : zs.getD i 0 = c0) (g1 : c0 ≠ 34) (g2 : c0 ≠ 123) (g3 : c0 ≠ 91) :
    Calls Try.prog 26 #[.slice (some x) n cap, .int .i64 i] w fun e w' => e = .returned (.int .i64 ((i + vLen (zs.drop i) : Nat) : Int)) ∧ w' = w := by
  have HL : Hid (zs.length = n) := h.1
  obtain ⟨_, e0, hci⟩ := h.cell hi
  cases e0
  rw [hc0] at hci
  have e1 : vLen (zs.drop i) = scal (zs.drop i) := by rw [drop_cons zs i (by rw [HL.out]; exact hi), hc0, vLen_other c0 _ g1 g2 g3]
  rw [e1]
  clear e1 hc0
  have hin : ((i : Int) == (n : Int)) = false := beq_eq_false_iff_ne.2 (by omega)
  go_enter Try.func26, Try.ntmps26
  go_wp2
  go_loop [1] (fun t => ∃ j : Nat, j ≤ n ∧ t = .int .i64 j ∧ j + scal (zs.drop j) = i + scal (zs.drop i)) (fun t => n - (intOf t).toNat)
  case atStart => exact ⟨i, by omega, rfl, rfl⟩
  case round =>
    obtain ⟨j, hj, rfl, hR⟩ := hrel
    have HR : Hid (j + scal (zs.drop j) = i + scal (zs.drop i)) := hR
    clear hR
    by_cases hlt : j < n
    · obtain ⟨_, e0, hc⟩ := h.cell hlt
      cases e0
      have hd := drop_cons zs j (by rw [HL.out]; exact hlt)
      obtain ⟨c, hcc⟩ : ∃ c, c = zs.getD j 0 := ⟨_, rfl⟩
      rw [← hcc] at hc hd
      have HD : Hid (zs.drop j = c :: zs.drop (j + 1)) := hd
      clear hcc hd hci
      by_cases h32 : c = 32
      · subst h32
        go_wp2
        go_ret
        refine ⟨ret_i64 ?_, rfl⟩
        have := HR.out
        rw [HD.out, scal_hit 32 _ (by decide)] at this
        omega
      by_cases h9 : c = 9
      · subst h9
        go_wp2
        go_ret
        refine ⟨ret_i64 ?_, rfl⟩
        have := HR.out
        rw [HD.out, scal_hit 9 _ (by decide)] at this
        omega
      by_cases h13 : c = 13
      · subst h13
        go_wp2
        go_ret
        refine ⟨ret_i64 ?_, rfl⟩
        have := HR.out
        rw [HD.out, scal_hit 13 _ (by decide)] at this
        omega
      by_cases h10 : c = 10
      · subst h10
        go_wp2
        go_ret
        refine ⟨ret_i64 ?_, rfl⟩
        have := HR.out
        rw [HD.out, scal_hit 10 _ (by decide)] at this
        omega
      by_cases h44 : c = 44
      · subst h44
        go_wp2
        go_ret
        refine ⟨ret_i64 ?_, rfl⟩
        have := HR.out
        rw [HD.out, scal_hit 44 _ (by decide)] at this
        omega
      by_cases h93 : c = 93
      · subst h93
        go_wp2
        go_ret
        refine ⟨ret_i64 ?_, rfl⟩
        have := HR.out
        rw [HD.out, scal_hit 93 _ (by decide)] at this
        omega
      by_cases h125 : c = 125
      · subst h125
        go_wp2
        go_ret
        refine ⟨ret_i64 ?_, rfl⟩
        have := HR.out
        rw [HD.out, scal_hit 125 _ (by decide)] at this
        omega
      go_wp2
      go_round
      case rel => exact ⟨j + 1, by omega, by go_num, by rw [← HR.out, HD.out, scal_miss c _ (delim_miss h32 h9 h13 h10 h44 h93 h125)]; omega⟩
      case measure => simp [intOf]; omega
    · go_wp2
      go_ret
      refine ⟨ret_i64 ?_, rfl⟩
      have := HR.out
      rw [List.drop_eq_nil_of_le (by rw [HL.out]; omega)] at this
      simp only [scal] at this
      omega

set_option maxHeartbeats 1000000 in
theorem valEnd_quote (x : Addr) (n cap i : Nat) (zs : List Int) (w : World) (h : RowB w (some x) n zs) (hn : n ≤ 1048576) (hi : i < n) (hc0 : zs.getD i 0 = 34) :
    Calls Try.prog 26 #[.slice (some x) n cap, .int .i64 i] w fun e w' => e = .returned (.int .i64 ((i + vLen (zs.drop i) : Nat) : Int)) ∧ w' = w := by
  obtain ⟨_, e0, hci⟩ := h.cell hi
  cases e0
  rw [hc0] at hci
  have e1 : i + vLen (zs.drop i) = i + 1 + sE false (zs.drop (i + 1)) := by rw [drop_cons zs i (by rw [h.1]; exact hi), hc0, vLen_quote]; omega
  rw [e1]
  clear e1 hc0
  have hin : ((i : Int) == (n : Int)) = false := beq_eq_false_iff_ne.2 (by omega)
  go_enter Try.func26, Try.ntmps26
  go_wp2_with fail
  refine (strEnd_any (some x) n cap i zs w h hn hi).mono ?_
  rintro e w' ⟨rfl, hw⟩
  obtain rfl : w = w' := hw.symm
  go_wp2
  go_ret
  exact ⟨rfl, rfl⟩

theorem valEnd_end (a : Option Addr) (n cap : Nat) (w : World) : Calls Try.prog 26 #[.slice a n cap, .int .i64 n] w fun e w' => e = .returned (.int .i64 n) ∧ w' = w := by
  have hin : ((n : Int) == (n : Int)) = true := beq_self_eq_true _
  go_enter Try.func26, Try.ntmps26
  go_wp2
  go_ret
  exact ⟨rfl, rfl⟩

/-- valueEnd. -/
theorem valEnd_any (a : Option Addr) (n cap i : Nat) (zs : List Int) (w : World) (h : RowB w a n zs) (hn : n ≤ 1048576) (hi : i ≤ n) :
    Calls Try.prog 26 #[.slice a n cap, .int .i64 i] w fun e w' => e = .returned (.int .i64 ((i + vLen (zs.drop i) : Nat) : Int)) ∧ w' = w := by
  by_cases hlt : i < n
  · obtain ⟨x, rfl, _⟩ := h.cell hlt
    by_cases h1 : zs.getD i 0 = 34
    · exact valEnd_quote x n cap i zs w h hn hlt h1
    · by_cases h2 : zs.getD i 0 = 123 ∨ zs.getD i 0 = 91
      · exact valEnd_open x n cap i zs _ w h hn hlt rfl h2
      · exact valEnd_scal x n cap i zs _ w h hn hlt rfl h1 (fun e => h2 (.inl e)) (fun e => h2 (.inr e))
  · obtain rfl : i = n := by omega
    rw [List.drop_eq_nil_of_le (by rw [h.1]; omega)]
    exact valEnd_end a i cap w
theorem zzEnd_any (a : Option Addr) (n cap i : Nat) (zs : List Int) (w : World) (h : RowB w a n zs) (hn : n ≤ 1048576) (hi : i ≤ n) :
    Calls Try.prog 11 #[.slice a n cap, .int .i64 i] w fun e w' => e = .returned (.int .i64 ((i + vLen (zs.drop i) : Nat) : Int)) ∧ w' = w := by
  go_enter Try.func11, Try.ntmps11
  go_wp2_with fail
  refine (valEnd_any a n cap i zs w h hn hi).mono ?_
  rintro e w' ⟨rfl, hw⟩
  obtain rfl : w = w' := hw.symm
  go_wp2
  go_ret
  exact ⟨rfl, rfl⟩
end Go.Proofs.Qxb6603898a
