import Derived.Test.Qxb6603898aS3
namespace Go.Proofs.Qxb6603898a
open Go.RowKit

theorem classify_row (a : Option Addr) (n cap : Nat) (zs : List Int) (w : World) (h : RowB w a n zs) (hn : n ≤ 1048576) :
    Calls Try.prog 28 #[.slice a n cap] w fun e w' => ∃ x, e = .returned (.slice (some x) n n) ∧ RowB w' (some x) n (clsf 0 zs) ∧ Below w.heap.size w w' := by
  refine (classify_any a n cap zs w h hn).mono ?_
  rintro e w' ⟨rfl, rfl⟩
  have hl : (clsf 0 zs).length = n := (length_clsf zs 0).trans h.1
  refine ⟨_, rfl, ⟨hl, .inr ⟨_, rfl, fun i hi => ?_⟩⟩, (Below.refl _ _).alloc (Nat.le_refl _) _⟩
  exact cells_new w ((clsf 0 zs).map (.int .u8)) 5 i _ (by rw [List.getElem?_map, List.getElem?_eq_getElem (by omega), Option.map_some, List.getD_eq_getElem?_getD, List.getElem?_eq_getElem (by omega), Option.getD_some])

theorem cutL_stop (d : Nat) (r : List Int) (h : 64 < d + 1) : cutL d (2 :: r) = [] := by simp only [cutL, if_true, if_pos h]
theorem cutL_open (d : Nat) (r : List Int) (h : ¬ 64 < d + 1) : cutL d (2 :: r) = 2 :: cutL (d + 1) r := by simp only [cutL, if_true, if_neg h]
theorem cutL_close (d : Nat) (r : List Int) (h : 0 < d) : cutL d (3 :: r) = 3 :: cutL (d - 1) r := by simp only [cutL, show ¬ (3 : Int) = 2 by decide, if_false, true_and, if_pos h]
theorem cutL_stay (d : Nat) (c : Int) (r : List Int) (h2 : c ≠ 2) (h3 : c ≠ 3 ∨ d = 0) : cutL d (c :: r) = c :: cutL d r := by
  rw [cutL, if_neg h2, if_neg (by omega)]
theorem nestL_stop (d nest : Nat) (r : List Int) (h : 64 < d + 1) : nestL d nest (2 :: r) = max nest (d + 1) := by simp only [nestL, if_true, if_pos h]
theorem nestL_open (d nest : Nat) (r : List Int) (h : ¬ 64 < d + 1) : nestL d nest (2 :: r) = nestL (d + 1) (max nest (d + 1)) r := by simp only [nestL, if_true, if_neg h]
theorem nestL_close (d nest : Nat) (r : List Int) (h : 0 < d) : nestL d nest (3 :: r) = nestL (d - 1) nest r := by simp only [nestL, show ¬ (3 : Int) = 2 by decide, if_false, true_and, if_pos h]
theorem nestL_stay (d nest : Nat) (c : Int) (r : List Int) (h2 : c ≠ 2) (h3 : c ≠ 3 ∨ d = 0) : nestL d nest (c :: r) = nestL d nest r := by
  rw [nestL, if_neg h2, if_neg (by omega)]

/-- The model's answer of the classes cs. -/
def IsShape (cs : List Int) (e : Ending) : Prop := ∃ N E D : Nat, nestL 0 0 cs = N ∧ (tots (cutL 0 cs)).foldl app (0, 0) = (E, D) ∧ e = .returned (.tuple #[.int .i64 N, .int .i64 E, .int .i64 D])

set_option maxRecDepth 100000 in
set_option maxHeartbeats 4000000 in
theorem model_shape (a : Option Addr) (n cap : Nat) (zs : List Int) (w : World) (h : RowB w a n zs) (hn : n ≤ 1048576) :
    Calls Try.prog 16 #[.slice a n cap] w fun e w' => IsShape (clsf 0 zs) e ∧ Below w.heap.size w w' := by
  obtain ⟨cs, hcs⟩ : ∃ cs, cs = clsf 0 zs := ⟨_, rfl⟩
  rw [← hcs]
  go_enter Try.func16, Try.ntmps16
  go_wp2_with fail
  refine (classify_row a n cap zs w h hn).mono ?_
  rintro e W ⟨x, rfl, hr, hb⟩
  rw [← hcs] at hr
  have HCL : Hid (cs.length = n) := hr.1
  clear hcs
  go_wp2
  go_loop [6, 7, 8, 9] (fun tq tn td t => ∃ k d nest : Nat, k ≤ n ∧ d ≤ 64 ∧ nest ≤ 64 ∧ tq = .int .i64 n ∧ t = .int .i64 k ∧ tn = .int .i64 nest ∧ td = .int .i64 d ∧ k + (cutL d (cs.drop k)).length = (cutL 0 cs).length ∧ nestL d nest (cs.drop k) = nestL 0 0 cs) (fun _ _ _ t => n - (intOf t).toNat)
  case atStart => exact ⟨0, 0, 0, by omega, by omega, by omega, rfl, rfl, rfl, rfl, by simp, by simp⟩
  case round =>
    obtain ⟨k, d, nest, hk, hd64, hn64, rfl, rfl, rfl, rfl, hK, hN⟩ := hrel
    have HK : Hid (k + (cutL d (cs.drop k)).length = (cutL 0 cs).length) := hK
    have HN0 : Hid (nestL d nest (cs.drop k) = nestL 0 0 cs) := hN
    clear hK hN
    by_cases hlt : k < n
    · obtain ⟨_, e0, hc⟩ := hr.cell hlt
      cases e0
      have hd := drop_cons cs k (by rw [HCL.out]; exact hlt)
      obtain ⟨c, hcc⟩ : ∃ c, c = cs.getD k 0 := ⟨_, rfl⟩
      rw [← hcc] at hc hd
      have HD : Hid (cs.drop k = c :: cs.drop (k + 1)) := hd
      clear hcc hd
      by_cases h2 : c = 2
      · subst h2
        by_cases h65 : 64 < d + 1
        · have HQ : Hid (k = (cutL 0 cs).length) := by show _ = _; have := HK.out; rw [HD.out, cutL_stop d _ h65] at this; simpa using this
          have HN : Hid (d + 1 = nestL 0 0 cs) := by show _ = _; have := HN0.out; rw [HD.out, nestL_stop d nest _ h65, Nat.max_eq_right (by omega)] at this; exact this
          have hnd : nest < d + 1 := by omega
          have hq : k = (cutL 0 cs).length := HQ.out
          obtain ⟨R, hR0⟩ : ∃ R, R = (tots (cutL 0 cs)).foldl app (0, 0) := ⟨_, rfl⟩
          have HTK : Hid (cs.take k = cutL 0 cs) := by show _ = _; rw [hq]; exact (cutL_take cs 0).symm
          have HTL : Hid ((cs.take k).length = k) := by show _ = _; rw [List.length_take, HCL.out]; omega
          have HR0 : Hid (R = (tots (cutL 0 cs)).foldl app (0, 0)) := hR0
          clear hq hR0
          go_wp2
          go_loop [10, 11, 12] (fun te td t => ∃ i E D : Nat, i ≤ k ∧ E ≤ 1048576 * i ∧ D ≤ 1048576 ∧ t = .int .i64 i ∧ te = .int .i64 E ∧ td = .int .i64 D ∧ (tots ((cs.take k).drop i)).foldl app (E, D) = R) (fun _ _ t => k - (intOf t).toNat)
          case atStart => exact ⟨0, 0, 0, by omega, by omega, by omega, rfl, rfl, rfl, by rw [List.drop_zero, HTK.out, HR0.out]⟩
          case round =>
            obtain ⟨i, E, D, hi, hE, hD, rfl, rfl, rfl, hR⟩ := hrel
            have HR : Hid ((tots ((cs.take k).drop i)).foldl app (E, D) = R) := hR
            clear hR
            by_cases hlt2 : i < k
            · obtain ⟨_, e0, hc⟩ := hr.cell (show i < n by omega)
              cases e0
              have hd := drop_cons (cs.take k) i (by rw [HTL.out]; exact hlt2)
              have e0 : (cs.take k).getD i 0 = cs.getD i 0 := by rw [List.getD_eq_getElem?_getD, List.getD_eq_getElem?_getD, List.getElem?_take, if_pos hlt2]
              rw [e0] at hd
              obtain ⟨c, hcc⟩ : ∃ c, c = cs.getD i 0 := ⟨_, rfl⟩
              rw [← hcc] at hc hd
              have HD : Hid ((cs.take k).drop i = c :: (cs.take k).drop (i + 1)) := hd
              clear hcc hd e0
              by_cases h2 : c = 2
              · subst h2
                go_wp2_with fail
                refine (members_any (some x) n n i k cs W hr hn (by omega) hlt2).mono ?_
                rintro e w' ⟨cnt, hcn, rfl, hm, hw⟩
                obtain rfl : W = w' := hw.symm
                have HE : Hid (tots ((cs.take k).drop i) = mem 0 0 false ((cs.take k).drop (i + 1)) :: tots ((cs.take k).drop (i + 1))) := by show _ = _; rw [HD.out, tots, if_pos rfl, mem_eq]; rfl
                cases hM : mem 0 0 false ((cs.take k).drop (i + 1)) with
                | none =>
                  rw [hM] at HE
                  clear hm hM
                  go_wp2
                  go_round
                  case rel => exact ⟨i + 1, E, D, by omega, by omega, hD, by go_num, rfl, rfl, by rw [← HR.out, HE.out]; rfl⟩
                  case measure => simp [intOf]; omega
                | some m =>
                  obtain rfl : m = cnt := hm m hM
                  rw [hM] at HE
                  clear hm hM
                  by_cases hmx : D < m
                  · go_wp2
                    go_round
                    case rel => exact ⟨i + 1, E + m, m, by omega, by omega, by omega, by go_num, by go_num, rfl, by rw [← HR.out, HE.out, List.foldl_cons]; simp only [app, Nat.max_eq_right (Nat.le_of_lt hmx)]⟩
                    case measure => simp [intOf]; omega
                  · go_wp2
                    go_round
                    case rel => exact ⟨i + 1, E + m, D, by omega, by omega, hD, by go_num, by go_num, rfl, by rw [← HR.out, HE.out, List.foldl_cons]; simp only [app, Nat.max_eq_left (Nat.le_of_not_lt hmx)]⟩
                    case measure => simp [intOf]; omega
              · go_wp2
                go_round
                case rel => exact ⟨i + 1, E, D, by omega, by omega, hD, by go_num, rfl, rfl, by rw [← HR.out, HD.out, tots, if_neg h2]⟩
                case measure => simp [intOf]; omega
            · obtain rfl : i = k := by omega
              go_wp2
              go_ret3
              have e := HR.out
              rw [List.drop_eq_nil_of_le (by rw [HTL.out]; omega)] at e
              have e2 : (E, D) = (tots (cutL 0 cs)).foldl app (0, 0) := by rw [← HR0.out, ← e]; rfl
              exact ⟨⟨(d + 1), E, D, HN.out.symm, e2.symm, rfl⟩, hb⟩
        · by_cases hnd : nest < d + 1
          · go_wp2
            go_round
            case rel => exact ⟨k + 1, d + 1, d + 1, by omega, by omega, by omega, rfl, by go_num, by go_num, by go_num, by rw [← HK.out, HD.out, cutL_open d _ h65, List.length_cons]; omega, by rw [← HN0.out, HD.out, nestL_open d nest _ h65, Nat.max_eq_right (by omega)]⟩
            case measure => simp [intOf]; omega
          · go_wp2
            go_round
            case rel => exact ⟨k + 1, d + 1, nest, by omega, by omega, by omega, rfl, by go_num, rfl, by go_num, by rw [← HK.out, HD.out, cutL_open d _ h65, List.length_cons]; omega, by rw [← HN0.out, HD.out, nestL_open d nest _ h65, Nat.max_eq_left (by omega)]⟩
            case measure => simp [intOf]; omega
      by_cases h3 : c = 3
      · subst h3
        by_cases hd0 : 0 < d
        · go_wp2
          go_round
          case rel => exact ⟨k + 1, d - 1, nest, by omega, by omega, by omega, rfl, by go_num, rfl, by go_num, by rw [← HK.out, HD.out, cutL_close d _ hd0, List.length_cons]; omega, by rw [← HN0.out, HD.out, nestL_close d nest _ hd0]⟩
          case measure => simp [intOf]; omega
        · go_wp2
          go_round
          case rel => exact ⟨k + 1, d, nest, by omega, by omega, by omega, rfl, by go_num, rfl, rfl, by rw [← HK.out, HD.out, cutL_stay d 3 _ (by decide) (.inr (by omega)), List.length_cons]; omega, by rw [← HN0.out, HD.out, nestL_stay d nest 3 _ (by decide) (.inr (by omega))]⟩
          case measure => simp [intOf]; omega
      go_wp2
      go_round
      case rel => exact ⟨k + 1, d, nest, by omega, by omega, by omega, rfl, by go_num, rfl, rfl, by rw [← HK.out, HD.out, cutL_stay d c _ h2 (.inl h3), List.length_cons]; omega, by rw [← HN0.out, HD.out, nestL_stay d nest c _ h2 (.inl h3)]⟩
      case measure => simp [intOf]; omega
    · obtain rfl : k = n := by omega
      have HQ : Hid (k = (cutL 0 cs).length) := by show _ = _; have := HK.out; rw [List.drop_eq_nil_of_le (by rw [HCL.out]; omega)] at this; simpa [cutL] using this
      have HN : Hid (nest = nestL 0 0 cs) := by show _ = _; have := HN0.out; rw [List.drop_eq_nil_of_le (by rw [HCL.out]; omega)] at this; exact this
      have hq : k = (cutL 0 cs).length := HQ.out
      obtain ⟨R, hR0⟩ : ∃ R, R = (tots (cutL 0 cs)).foldl app (0, 0) := ⟨_, rfl⟩
      have HTK : Hid (cs.take k = cutL 0 cs) := by show _ = _; rw [hq]; exact (cutL_take cs 0).symm
      have HTL : Hid ((cs.take k).length = k) := by show _ = _; rw [List.length_take, HCL.out]; omega
      have HR0 : Hid (R = (tots (cutL 0 cs)).foldl app (0, 0)) := hR0
      clear hq hR0
      go_wp2
      go_loop [10, 11, 12] (fun te td t => ∃ i E D : Nat, i ≤ k ∧ E ≤ 1048576 * i ∧ D ≤ 1048576 ∧ t = .int .i64 i ∧ te = .int .i64 E ∧ td = .int .i64 D ∧ (tots ((cs.take k).drop i)).foldl app (E, D) = R) (fun _ _ t => k - (intOf t).toNat)
      case atStart => exact ⟨0, 0, 0, by omega, by omega, by omega, rfl, rfl, rfl, by rw [List.drop_zero, HTK.out, HR0.out]⟩
      case round =>
        obtain ⟨i, E, D, hi, hE, hD, rfl, rfl, rfl, hR⟩ := hrel
        have HR : Hid ((tots ((cs.take k).drop i)).foldl app (E, D) = R) := hR
        clear hR
        by_cases hlt2 : i < k
        · obtain ⟨_, e0, hc⟩ := hr.cell (show i < k by omega)
          cases e0
          have hd := drop_cons (cs.take k) i (by rw [HTL.out]; exact hlt2)
          have e0 : (cs.take k).getD i 0 = cs.getD i 0 := by rw [List.getD_eq_getElem?_getD, List.getD_eq_getElem?_getD, List.getElem?_take, if_pos hlt2]
          rw [e0] at hd
          obtain ⟨c, hcc⟩ : ∃ c, c = cs.getD i 0 := ⟨_, rfl⟩
          rw [← hcc] at hc hd
          have HD : Hid ((cs.take k).drop i = c :: (cs.take k).drop (i + 1)) := hd
          clear hcc hd e0
          by_cases h2 : c = 2
          · subst h2
            go_wp2_with fail
            refine (members_any (some x) k k i k cs W hr hn (by omega) hlt2).mono ?_
            rintro e w' ⟨cnt, hcn, rfl, hm, hw⟩
            obtain rfl : W = w' := hw.symm
            have HE : Hid (tots ((cs.take k).drop i) = mem 0 0 false ((cs.take k).drop (i + 1)) :: tots ((cs.take k).drop (i + 1))) := by show _ = _; rw [HD.out, tots, if_pos rfl, mem_eq]; rfl
            cases hM : mem 0 0 false ((cs.take k).drop (i + 1)) with
            | none =>
              rw [hM] at HE
              clear hm hM
              go_wp2
              go_round
              case rel => exact ⟨i + 1, E, D, by omega, by omega, hD, by go_num, rfl, rfl, by rw [← HR.out, HE.out]; rfl⟩
              case measure => simp [intOf]; omega
            | some m =>
              obtain rfl : m = cnt := hm m hM
              rw [hM] at HE
              clear hm hM
              by_cases hmx : D < m
              · go_wp2
                go_round
                case rel => exact ⟨i + 1, E + m, m, by omega, by omega, by omega, by go_num, by go_num, rfl, by rw [← HR.out, HE.out, List.foldl_cons]; simp only [app, Nat.max_eq_right (Nat.le_of_lt hmx)]⟩
                case measure => simp [intOf]; omega
              · go_wp2
                go_round
                case rel => exact ⟨i + 1, E + m, D, by omega, by omega, hD, by go_num, by go_num, rfl, by rw [← HR.out, HE.out, List.foldl_cons]; simp only [app, Nat.max_eq_left (Nat.le_of_not_lt hmx)]⟩
                case measure => simp [intOf]; omega
          · go_wp2
            go_round
            case rel => exact ⟨i + 1, E, D, by omega, by omega, hD, by go_num, rfl, rfl, by rw [← HR.out, HD.out, tots, if_neg h2]⟩
            case measure => simp [intOf]; omega
        · obtain rfl : i = k := by omega
          go_wp2
          go_ret3
          have e := HR.out
          rw [List.drop_eq_nil_of_le (by rw [HTL.out]; omega)] at e
          have e2 : (E, D) = (tots (cutL 0 cs)).foldl app (0, 0) := by rw [← HR0.out, ← e]; rfl
          exact ⟨⟨nest, E, D, HN.out.symm, e2.symm, rfl⟩, hb⟩
end Go.Proofs.Qxb6603898a
