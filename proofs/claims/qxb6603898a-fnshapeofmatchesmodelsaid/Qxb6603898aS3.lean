import Derived.Test.Qxb6603898aW6
import Derived.Test.Qxb6603898aShapeP
namespace Go.Proofs.Qxb6603898a
open Go.RowKit

/-! ### zzMembers -/
theorem mem_deep2 (cnt rel : Nat) (has : Bool) (r : List Int) (h : 0 < rel) : mem cnt rel has (2 :: r) = mem cnt (rel + 1) has r := by simp only [mem, if_pos h, if_true]
theorem mem_deep3 (cnt rel : Nat) (has : Bool) (r : List Int) (h : 0 < rel) : mem cnt rel has (3 :: r) = mem cnt (rel - 1) has r := by simp only [mem, if_pos h, show ¬ (3 : Int) = 2 by decide, if_false, if_true]
theorem mem_deep (cnt rel : Nat) (has : Bool) (c : Int) (r : List Int) (h : 0 < rel) (h2 : c ≠ 2) (h3 : c ≠ 3) : mem cnt rel has (c :: r) = mem cnt rel has r := by simp only [mem, if_pos h, if_neg h2, if_neg h3]
theorem mem_1 (cnt : Nat) (has : Bool) (r : List Int) : mem cnt 0 has (1 :: r) = mem (if has then cnt + 1 else cnt) 0 false r := by simp only [mem, Nat.lt_irrefl, if_false, if_true]
theorem mem_4 (cnt : Nat) (has : Bool) (r : List Int) : mem cnt 0 has (4 :: r) = mem cnt 0 true r := by simp only [mem, Nat.lt_irrefl, if_false, if_true, show ¬ (4 : Int) = 1 by decide]
theorem mem_2 (cnt : Nat) (has : Bool) (r : List Int) : mem cnt 0 has (2 :: r) = mem cnt 1 true r := by simp only [mem, Nat.lt_irrefl, if_false, if_true, show ¬ (2 : Int) = 1 by decide, show ¬ (2 : Int) = 4 by decide]
theorem mem_3 (cnt : Nat) (has : Bool) (r : List Int) : mem cnt 0 has (3 :: r) = some (if has then cnt + 1 else cnt) := by simp only [mem, Nat.lt_irrefl, if_false, if_true, show ¬ (3 : Int) = 1 by decide, show ¬ (3 : Int) = 4 by decide, show ¬ (3 : Int) = 2 by decide]
theorem mem_o (cnt : Nat) (has : Bool) (c : Int) (r : List Int) (h1 : c ≠ 1) (h2 : c ≠ 2) (h3 : c ≠ 3) (h4 : c ≠ 4) : mem cnt 0 has (c :: r) = mem cnt 0 has r := by simp only [mem, Nat.lt_irrefl, if_false, if_neg h1, if_neg h2, if_neg h3, if_neg h4]

set_option maxRecDepth 100000 in
set_option maxHeartbeats 2000000 in
theorem members_any (a : Option Addr) (n cap k cut : Nat) (cs : List Int) (w : World) (h : RowB w a n cs) (hn : n ≤ 1048576) (hcut : cut ≤ n) (hk : k < cut) :
    Calls Try.prog 30 #[.slice a n cap, .int .i64 k, .int .i64 cut] w fun e w' => ∃ cnt : Nat, cnt ≤ n ∧ e = .returned (.tuple #[.int .i64 cnt, .bool (mem 0 0 false ((cs.take cut).drop (k + 1))).isSome]) ∧ (∀ m, mem 0 0 false ((cs.take cut).drop (k + 1)) = some m → m = cnt) ∧ w' = w := by
  have HL : Hid ((cs.take cut).length = cut) := by show _ = _; rw [List.length_take, h.1]; omega
  go_enter Try.func30, Try.ntmps30
  go_wp2
  go_loop [8, 9, 10, 11] (fun tc tr th t => ∃ (j cnt rel : Nat) (has : Bool), k < j ∧ j ≤ cut ∧ cnt + (if has then 1 else 0) ≤ j ∧ rel ≤ j ∧ t = .int .i64 j ∧ tc = .int .i64 cnt ∧ tr = .int .i64 rel ∧ th = .bool has ∧ mem cnt rel has ((cs.take cut).drop j) = mem 0 0 false ((cs.take cut).drop (k + 1))) (fun _ _ _ t => cut - (intOf t).toNat)
  case atStart => exact ⟨k + 1, 0, 0, false, by omega, by omega, by simp, by omega, by go_num, rfl, rfl, rfl, rfl⟩
  case round =>
    obtain ⟨j, cnt, rel, has, hj1, hj2, hcn, hrl, rfl, rfl, rfl, rfl, hR⟩ := hrel
    have HR : Hid (mem cnt rel has ((cs.take cut).drop j) = mem 0 0 false ((cs.take cut).drop (k + 1))) := hR
    have HCN : Hid (cnt + (if has then 1 else 0) ≤ j) := hcn
    have hcj : cnt ≤ j := by omega
    clear hR hcn
    by_cases hlt : j < cut
    · obtain ⟨x, rfl, hc⟩ := h.cell (show j < n by omega)
      have hd := drop_cons (cs.take cut) j (by rw [HL.out]; exact hlt)
      have e0 : (cs.take cut).getD j 0 = cs.getD j 0 := by rw [List.getD_eq_getElem?_getD, List.getD_eq_getElem?_getD, List.getElem?_take, if_pos hlt]
      rw [e0] at hd
      obtain ⟨c, hcc⟩ : ∃ c, c = cs.getD j 0 := ⟨_, rfl⟩
      rw [← hcc] at hc hd
      have HD : Hid ((cs.take cut).drop j = c :: (cs.take cut).drop (j + 1)) := hd
      clear hcc hd e0
      by_cases hr0 : 0 < rel
      · by_cases h2 : c = 2
        · subst h2
          go_wp2
          go_round
          case rel => exact ⟨j + 1, cnt, rel + 1, has, by omega, by omega, by have := HCN.out; omega, by omega, by go_num, rfl, by go_num, rfl, by rw [← HR.out, HD.out, mem_deep2 _ _ _ _ hr0]⟩
          case measure => simp [intOf]; omega
        by_cases h3 : c = 3
        · subst h3
          go_wp2
          go_round
          case rel => exact ⟨j + 1, cnt, rel - 1, has, by omega, by omega, by have := HCN.out; omega, by omega, by go_num, rfl, by go_num, rfl, by rw [← HR.out, HD.out, mem_deep3 _ _ _ _ hr0]⟩
          case measure => simp [intOf]; omega
        go_wp2
        go_round
        case rel => exact ⟨j + 1, cnt, rel, has, by omega, by omega, by have := HCN.out; omega, by omega, by go_num, rfl, rfl, rfl, by rw [← HR.out, HD.out, mem_deep _ _ _ _ _ hr0 h2 h3]⟩
        case measure => simp [intOf]; omega
      obtain rfl : rel = 0 := by omega
      by_cases h1 : c = 1
      · subst h1
        cases has with
        | false =>
          go_wp2
          go_round
          case rel => exact ⟨j + 1, cnt, 0, false, by omega, by omega, by have := HCN.out; simp at this ⊢; omega, by omega, by go_num, rfl, rfl, rfl, by rw [← HR.out, HD.out, mem_1]; rfl⟩
          case measure => simp [intOf]; omega
        | true =>
          go_wp2
          go_round
          case rel => exact ⟨j + 1, cnt + 1, 0, false, by omega, by omega, by have := HCN.out; simp at this ⊢; omega, by omega, by go_num, by go_num, rfl, rfl, by rw [← HR.out, HD.out, mem_1]; rfl⟩
          case measure => simp [intOf]; omega
      by_cases h4 : c = 4
      · subst h4
        go_wp2
        go_round
        case rel => exact ⟨j + 1, cnt, 0, true, by omega, by omega, by simp; omega, by omega, by go_num, rfl, rfl, rfl, by rw [← HR.out, HD.out, mem_4]⟩
        case measure => simp [intOf]; omega
      by_cases h2 : c = 2
      · subst h2
        go_wp2
        go_round
        case rel => exact ⟨j + 1, cnt, 1, true, by omega, by omega, by simp; omega, by omega, by go_num, rfl, by go_num, rfl, by rw [← HR.out, HD.out, mem_2]⟩
        case measure => simp [intOf]; omega
      by_cases h3 : c = 3
      · subst h3
        cases has with
        | false =>
          go_wp2
          go_ret2
          refine ⟨cnt, by omega, ?_, ?_, rfl⟩
          · rw [← HR.out, HD.out, mem_3]; rfl
          · rw [← HR.out, HD.out, mem_3]; intro m hm; simpa using hm.symm
        | true =>
          have := HCN.out
          simp only [if_true] at this
          go_wp2
          go_ret2
          refine ⟨cnt + 1, by omega, ?_, ?_, rfl⟩
          · rw [← HR.out, HD.out, mem_3]; rfl
          · rw [← HR.out, HD.out, mem_3]; intro m hm; simpa using hm.symm
      go_wp2
      go_round
      case rel => exact ⟨j + 1, cnt, 0, has, by omega, by omega, by have := HCN.out; omega, by omega, by go_num, rfl, rfl, rfl, by rw [← HR.out, HD.out, mem_o _ _ _ _ h1 h2 h3 h4]⟩
      case measure => simp [intOf]; omega
    · obtain rfl : j = cut := by omega
      go_wp2
      go_ret2
      have e := HR.out
      rw [List.drop_eq_nil_of_le (by rw [HL.out]; omega)] at e
      refine ⟨cnt, by omega, ?_, ?_, rfl⟩
      · rw [← e]; rfl
      · rw [← e]; intro m hm; cases hm
end Go.Proofs.Qxb6603898a
