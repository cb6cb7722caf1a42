import Derived.Test.Qxb6603898aW3
namespace Go.Proofs.Qxb6603898a
open Go.RowKit

/-- zzCopyBytes, and where its memory begins. -/
theorem copy_at (a : Option Addr) (n cap : Nat) (zs : List Int) (w : World) (hcap : a = none → cap = 0) (h : RowB w a n zs) (hn : n ≤ 1048576) :
    Calls Try.prog 10 #[.slice a n cap] w fun e w' => ∃ a' c', e = .returned (.slice a' n c') ∧ n ≤ c' ∧ RowB w' a' n zs ∧ Below w.heap.size w w' ∧ ∀ x, a' = some x → ∃ b, x = ⟨b, 0, none⟩ := by
  obtain ⟨h1, ⟨rfl, rfl⟩ | ⟨x, rfl, h3⟩⟩ := h
  · rw [hcap rfl]
    refine (copy_nil w).mono ?_
    rintro e w' ⟨rfl, rfl⟩
    exact ⟨none, 0, rfl, Nat.le_refl _, ⟨h1, .inl ⟨rfl, rfl⟩⟩, Below.refl _ _, (fun x e => by cases e)⟩
  · refine (copy_some x n cap zs w h1 hn h3).mono ?_
    rintro e w' ⟨rfl, rfl⟩
    refine ⟨_, _, rfl, Nat.le_refl _, ⟨h1, .inr ⟨⟨w.heap.size, 0, none⟩, rfl, fun i hi => ?_⟩⟩, (Below.refl _ _).alloc (Nat.le_refl _) _, fun x e => by cases e; exact ⟨_, rfl⟩⟩
    exact cells_new w (zs.map (.int .u8)) 5 i _ (by rw [List.getElem?_map, List.getElem?_eq_getElem (by omega), Option.map_some, List.getD_eq_getElem?_getD, List.getElem?_eq_getElem (by omega), Option.getD_some])

/-! ### THE PLAIN PART: counting backslashes backwards -/
/-- How many backslashes stand right ahead of place j, behind place q. -/
def bsRun (zs : List Int) (q : Nat) : Nat → Nat
  | 0 => 0
  | j + 1 => if q < j ∧ zs.getD j 0 = 92 then bsRun zs q j + 1 else 0
def odd (n : Nat) : Bool := decide (n % 2 = 1)
theorem bsRun_le (zs : List Int) (q j : Nat) : bsRun zs q j ≤ j := by
  induction j with
  | zero => simp [bsRun]
  | succ j ih => simp only [bsRun]; split <;> omega
/-- One place on, whatever stands there. -/
theorem run_step (zs : List Int) (q j : Nat) (hq : q < j) (r : List Int) (c : Int) (hc : c = zs.getD j 0) (h : c ≠ 34 ∨ odd (bsRun zs q j) = true) :
    sE (odd (bsRun zs q j)) (c :: r) = 1 + sE (odd (bsRun zs q (j + 1))) r := by
  rw [bsRun, ← hc]
  cases ho : odd (bsRun zs q j) with
  | true =>
    rw [sE_esc]
    by_cases h92 : c = 92
    · rw [if_pos ⟨hq, h92⟩]
      have : odd (bsRun zs q j + 1) = false := by simp [odd] at ho ⊢; omega
      rw [this]
    · rw [if_neg (fun h => h92 h.2)]; rfl
  | false =>
    by_cases h92 : c = 92
    · rw [if_pos ⟨hq, h92⟩]
      have : odd (bsRun zs q j + 1) = true := by simp [odd] at ho ⊢; omega
      rw [this, h92, sE_back]
    · rw [if_neg (fun h => h92 h.2)]
      have h34 : c ≠ 34 := h.elim id (fun e => by rw [ho] at e; cases e)
      rw [sE_other c r h92 h34]; rfl

/-! ### zzQuoteEnd -/
set_option maxHeartbeats 1000000 in
theorem quoteEnd_any (a : Option Addr) (n cap q : Nat) (zs : List Int) (w : World) (h : RowB w a n zs) (hn : n ≤ 1048576) (hq : q < n) :
    Calls Try.prog 27 #[.slice a n cap, .int .i64 q] w fun e w' => e = .returned (.int .i64 ((q + 1 + sE false (zs.drop (q + 1)) : Nat) : Int)) ∧ w' = w := by
  have HL : Hid (zs.length = n) := h.1
  obtain ⟨x, rfl, _⟩ := h.cell hq
  go_enter Try.func27, Try.ntmps27
  go_wp2
  go_loop [5] (fun t => ∃ j : Nat, q < j ∧ j ≤ n ∧ t = .int .i64 j ∧ j + sE (odd (bsRun zs q j)) (zs.drop j) = q + 1 + sE false (zs.drop (q + 1))) (fun t => n - (intOf t).toNat)
  case atStart =>
    refine ⟨q + 1, by omega, by omega, by go_num, ?_⟩
    have : bsRun zs q (q + 1) = 0 := by rw [bsRun, if_neg (by omega)]
    rw [this]; rfl
  case round =>
    obtain ⟨j, hj1, hj2, rfl, hR⟩ := hrel
    have HR : Hid (j + sE (odd (bsRun zs q j)) (zs.drop j) = q + 1 + sE false (zs.drop (q + 1))) := hR
    clear hR
    by_cases hlt : j < n
    · obtain ⟨_, e0, hc⟩ := h.cell hlt
      cases e0
      have hd := drop_cons zs j (by rw [HL.out]; exact hlt)
      obtain ⟨c, hcc⟩ : ∃ c, c = zs.getD j 0 := ⟨_, rfl⟩
      rw [← hcc] at hc hd
      have HD : Hid (zs.drop j = c :: zs.drop (j + 1)) := hd
      have HC : Hid (c = zs.getD j 0) := hcc
      clear hcc hd
      by_cases h34 : c = 34
      · subst h34
        have hrl := bsRun_le zs q j
        go_wp2
        go_loop [6, 7] (fun r t => ∃ (m k : Nat), q ≤ k ∧ k < j ∧ t = .int .i64 k ∧ r = .int .i64 m ∧ m + bsRun zs q (k + 1) = bsRun zs q j) (fun _ t => (intOf t).toNat)
        case atStart => exact ⟨0, j - 1, by omega, by omega, by go_num, rfl, by rw [Nat.sub_add_cancel (by omega)]; omega⟩
        case round =>
          obtain ⟨m, k, hk1, hk2, rfl, rfl, hm⟩ := hrel
          have HM : Hid (m + bsRun zs q (k + 1) = bsRun zs q j) := hm
          have hmj : m ≤ j := by omega
          clear hm
          by_cases hqk : q < k
          · obtain ⟨_, e0, hc2⟩ := h.cell (show k < n by omega)
            cases e0
            obtain ⟨c2, hcc2⟩ : ∃ c, c = zs.getD k 0 := ⟨_, rfl⟩
            rw [← hcc2] at hc2
            have HC2 : Hid (c2 = zs.getD k 0) := hcc2
            clear hcc2
            by_cases h92 : c2 = 92
            · subst h92
              go_wp2
              go_round
              case rel =>
                refine ⟨m + 1, k - 1, by omega, by omega, by go_num, by go_num, ?_⟩
                rw [Nat.sub_add_cancel (by omega), ← HM.out, bsRun, if_pos ⟨hqk, HC2.out.symm⟩]
                omega
              case measure => simp [intOf]; omega
            · have e1 : m = bsRun zs q j := by rw [← HM.out, bsRun, if_neg (by rw [← HC2.out]; exact fun h => h92 h.2)]; rfl
              have E1 : Hid (m = bsRun zs q j) := e1
              clear e1
              by_cases hev : m % 2 = 0
              · go_wp2
                go_ret
                refine ⟨ret_i64 ?_, rfl⟩
                have hR := HR.out
                have ho : odd (bsRun zs q j) = false := by rw [← E1.out]; simp [odd]; omega
                rw [HD.out, ho, sE_quote] at hR
                omega
              · have ho : odd (bsRun zs q j) = true := by rw [← E1.out]; simp [odd]; omega
                have HO : Hid (odd (bsRun zs q j) = true) := ho
                clear ho
                go_wp2
                go_round
                case rel => exact ⟨j + 1, by omega, by omega, by go_num, by rw [← HR.out, HD.out, run_step zs q j hj1 _ 34 HC.out (.inr HO.out)]; omega⟩
                case measure => simp [intOf]; omega
          · obtain rfl : k = q := by omega
            have e1 : m = bsRun zs k j := by rw [← HM.out, bsRun, if_neg (by omega)]; rfl
            have E1 : Hid (m = bsRun zs k j) := e1
            clear e1
            by_cases hev : m % 2 = 0
            · go_wp2
              go_ret
              refine ⟨ret_i64 ?_, rfl⟩
              have hR := HR.out
              have ho : odd (bsRun zs k j) = false := by rw [← E1.out]; simp [odd]; omega
              rw [HD.out, ho, sE_quote] at hR
              omega
            · have ho : odd (bsRun zs k j) = true := by rw [← E1.out]; simp [odd]; omega
              have HO : Hid (odd (bsRun zs k j) = true) := ho
              clear ho
              go_wp2
              go_round
              case rel => exact ⟨j + 1, by omega, by omega, by go_num, by rw [← HR.out, HD.out, run_step zs k j hj1 _ 34 HC.out (.inr HO.out)]; omega⟩
              case measure => simp [intOf]; omega
      · go_wp2
        go_round
        case rel => exact ⟨j + 1, by omega, by omega, by go_num, by rw [← HR.out, HD.out, run_step zs q j hj1 _ c HC.out (.inl h34)]; omega⟩
        case measure => simp [intOf]; omega
    · obtain rfl : j = n := by omega
      go_wp2
      go_ret
      refine ⟨ret_i64 ?_, rfl⟩
      have := HR.out
      rw [List.drop_eq_nil_of_le (by rw [HL.out]; omega)] at this
      cases odd (bsRun zs q j) <;> simp only [sE] at this <;> omega
end Go.Proofs.Qxb6603898a
