import Derived.Test.Qxb6603898aW5
namespace Go.Proofs.Qxb6603898a
open Go.RowKit

/-! ### THE PLAIN PART: a list laid over noughts, place by place -/
def lay (L : List Int) (k : Nat) : List Int := L.take k ++ List.replicate (L.length - k) 0
theorem lay_zero (L : List Int) : lay L 0 = List.replicate L.length 0 := by simp [lay]
theorem lay_full (L : List Int) : lay L L.length = L := by simp [lay]
theorem lay_length (L : List Int) (k : Nat) (h : k ≤ L.length) : (lay L k).length = L.length := by simp [lay]; omega
theorem lay_step {L : List Int} {k : Nat} {v : Int} {t : List Int} (h : L.drop k = v :: t) : (lay L k).set k v = lay L (k + 1) := by
  have hk : k < L.length := by
    rcases Nat.lt_or_ge k L.length with h' | h'
    · exact h'
    · rw [List.drop_eq_nil_of_le h'] at h; cases h
  have hv : L[k] = v := by rw [List.drop_eq_getElem_cons hk] at h; injection h
  unfold lay
  rw [List.set_append_right _ _ (by simp; omega), List.take_succ_eq_append_getElem hk, hv]
  have : L.length - k = (L.length - (k + 1)) + 1 := by omega
  rw [this, List.replicate_succ]
  simp only [List.length_take, show k - min k L.length = 0 by omega, List.set_cons_zero, List.append_assoc, List.singleton_append]
theorem drop_next {L : List Int} {k : Nat} {v : Int} {t : List Int} (h : L.drop k = v :: t) : L.drop (k + 1) = t := by
  rw [← List.drop_drop, h]; rfl
theorem lay_at (L : List Int) (k : Nat) (h : k < L.length) : ∃ v0, ((lay L k).map (Value.int .u8))[k]? = some v0 :=
  ⟨_, List.getElem?_eq_getElem (by rw [List.length_map, lay_length L k (by omega)]; exact h)⟩
theorem dropC_other {L : List Int} {k : Nat} {c : Int} {r : List Int} (h : L.drop k = clsf 0 (c :: r)) (hc : c ≠ 34) : L.drop (k + 1) = clsf 0 r := by
  rw [clsf, if_neg hc] at h
  exact drop_next h
theorem dropC_quote {L : List Int} {k : Nat} {r : List Int} (h : L.drop k = clsf 0 (34 :: r)) : L.drop (k + 1) = List.replicate (sE false r) 5 ++ clsf 0 (r.drop (sE false r)) := by
  rw [clsf, if_pos rfl, clsf_str] at h
  exact drop_next h
theorem cl_val {c : Int} (h1 : c ≠ 32) (h2 : c ≠ 9) (h3 : c ≠ 13) (h4 : c ≠ 10) (h5 : c ≠ 58) (h6 : c ≠ 44) (h7 : c ≠ 91) (h8 : c ≠ 123) (h9 : c ≠ 93) (h10 : c ≠ 125) : cl c = 4 := by
  simp [cl, h1, h2, h3, h4, h5, h6, h7, h8, h9, h10]
/-- Inside a string: the class at place k + 1 + d. -/
theorem drop_fives {L : List Int} {k m d : Nat} {t : List Int} (h : L.drop (k + 1) = List.replicate m 5 ++ t) (hd : d < m) : L.drop (k + 1 + d) = 5 :: (List.replicate (m - d - 1) 5 ++ t) := by
  rw [← List.drop_drop, h, List.drop_append_of_le_length (by simp; omega), List.drop_replicate]
  have : m - d = (m - d - 1) + 1 := by omega
  rw [this, List.replicate_succ]
  rfl
theorem drop_behind {L : List Int} {k m : Nat} {t : List Int} (h : L.drop (k + 1) = List.replicate m 5 ++ t) : L.drop (k + 1 + m) = t := by
  rw [← List.drop_drop, h, List.drop_append_of_le_length (by simp)]
  simp

/-! ### zzClassify -/
set_option maxHeartbeats 2000000 in
theorem classify_any (a : Option Addr) (n cap : Nat) (zs : List Int) (w : World) (h : RowB w a n zs) (hn : n ≤ 1048576) :
    Calls Try.prog 28 #[.slice a n cap] w fun e w' => e = .returned (.slice (some ⟨w.heap.size, 0, none⟩) n n) ∧ w' = w.alloc (.cells ((clsf 0 zs).map (Value.int .u8)).toArray 5) := by
  have HL : Hid (zs.length = n) := h.1
  have HC : Hid ((clsf 0 zs).length = n) := (length_clsf zs 0).trans h.1
  have hmk := fun w => run_make_flat (P := Try.prog) w 22 5 (.int .u8 0) 1 n Try.underlying22 Try.info5 rfl (by omega) (by omega)
  go_enter Try.func28, Try.ntmps28
  go_wp2
  go_loopw [4] (fun t wr => ∃ k : Nat, k ≤ n ∧ t = .int .i64 k ∧ (clsf 0 zs).drop k = clsf 0 (zs.drop k) ∧ wr = w.alloc (.cells ((lay (clsf 0 zs) k).map (Value.int .u8)).toArray 5)) (fun t _ => n - (intOf t).toNat)
  case atStart => exact ⟨0, Nat.zero_le _, rfl, rfl, by rw [lay_zero, HC.out]; simp⟩
  case round =>
    obtain ⟨k, hk, rfl, D, rfl⟩ := hrel
    have DD : Hid ((clsf 0 zs).drop k = clsf 0 (zs.drop k)) := D
    clear D
    by_cases hlt : k < n
    · have hr : ∀ o, RowB (w.alloc o) a n zs := fun o => h.below ((Below.refl _ _).alloc (Nat.le_refl _) _)
      obtain ⟨x, rfl, hc⟩ := h.cell hlt
      have hcx : ∀ o, (w.alloc o).cell? (x.add k) = some (.int .u8 (zs.getD k 0)) := fun o => by
        obtain ⟨_, e, hx⟩ := (hr o).cell hlt
        cases e; exact hx
      have hd := drop_cons zs k (by rw [HL.out]; exact hlt)
      obtain ⟨c, hcc⟩ : ∃ c, c = zs.getD k 0 := ⟨_, rfl⟩
      rw [← hcc] at hd
      simp only [← hcc] at hcx
      have HD : Hid (zs.drop k = c :: zs.drop (k + 1)) := hd
      have HR : Hid (∀ o, RowB (w.alloc o) (some x) n zs) := hr
      clear hcc hd hc hr
      obtain ⟨v0, hv0⟩ := lay_at (clsf 0 zs) k (by rw [HC.out]; exact hlt)
      by_cases h34 : c = 34
      · subst h34
        have hse := sE_le (zs.drop (k + 1)) false
        rw [List.length_drop, HL.out] at hse
        have hq := dropC_quote (DD.out.trans (congrArg (clsf 0) HD.out))
        rw [List.drop_drop] at hq
        have HQ : Hid ((clsf 0 zs).drop (k + 1) = List.replicate (sE false (zs.drop (k + 1))) 5 ++ clsf 0 (zs.drop (k + 1 + sE false (zs.drop (k + 1))))) := hq
        clear hq
        have h4 : ((lay (clsf 0 zs) k).map (Value.int .u8)).set k (.int .u8 4) = (lay (clsf 0 zs) (k + 1)).map (Value.int .u8) := by
          rw [← lay_step (v := 4) (t := clsf 1 (zs.drop (k + 1))) (by rw [DD.out, HD.out]; rfl), List.map_set]
        have H4 : Hid (((lay (clsf 0 zs) k).map (Value.int .u8)).set k (.int .u8 4) = (lay (clsf 0 zs) (k + 1)).map (Value.int .u8)) := h4
        clear h4
        go_wp2_with fail
        refine (quoteEnd_any (some x) n cap k zs _ (HR.out _) hn hlt).mono ?_
        rintro e w' ⟨rfl, rfl⟩
        go_wp2
        go_loopw [7] (fun t wr => ∃ d : Nat, d ≤ sE false (zs.drop (k + 1)) ∧ t = .int .i64 ((k + 1 + d : Nat) : Int) ∧ wr = w.alloc (.cells ((lay (clsf 0 zs) (k + 1 + d)).map (Value.int .u8)).toArray 5)) (fun t _ => n - (intOf t).toNat)
        case atStart => exact ⟨0, Nat.zero_le _, by go_num, by rw [Nat.add_zero, ← H4.out]⟩
        case round =>
          obtain ⟨d, hd, rfl, rfl⟩ := hrel
          by_cases hdl : d < sE false (zs.drop (k + 1))
          · obtain ⟨v1, hv1⟩ := lay_at (clsf 0 zs) (k + 1 + d) (by rw [HC.out]; omega)
            go_wp2
            go_roundw
            case rel => exact ⟨d + 1, by omega, by go_num, by rw [← Nat.add_assoc, ← lay_step (drop_fives HQ.out hdl)]; simp [List.map_set]⟩
            case measure => simp [intOf]; omega
          · obtain rfl : d = sE false (zs.drop (k + 1)) := by omega
            go_wp2
            go_roundw
            case rel => exact ⟨k + 1 + sE false (zs.drop (k + 1)), by omega, by go_num, drop_behind HQ.out, rfl⟩
            case measure => simp [intOf]; omega
      · by_cases h32 : c = 32
        · subst h32
          go_wp2
          go_roundw
          case rel => exact ⟨k + 1, by omega, by go_num, dropC_other (DD.out.trans (congrArg (clsf 0) HD.out)) (by decide), by rw [← lay_step (DD.out.trans (congrArg (clsf 0) HD.out))]; simp [List.map_set, cl]⟩
          case measure => simp [intOf]; omega
        by_cases h9 : c = 9
        · subst h9
          go_wp2
          go_roundw
          case rel => exact ⟨k + 1, by omega, by go_num, dropC_other (DD.out.trans (congrArg (clsf 0) HD.out)) (by decide), by rw [← lay_step (DD.out.trans (congrArg (clsf 0) HD.out))]; simp [List.map_set, cl]⟩
          case measure => simp [intOf]; omega
        by_cases h13 : c = 13
        · subst h13
          go_wp2
          go_roundw
          case rel => exact ⟨k + 1, by omega, by go_num, dropC_other (DD.out.trans (congrArg (clsf 0) HD.out)) (by decide), by rw [← lay_step (DD.out.trans (congrArg (clsf 0) HD.out))]; simp [List.map_set, cl]⟩
          case measure => simp [intOf]; omega
        by_cases h10 : c = 10
        · subst h10
          go_wp2
          go_roundw
          case rel => exact ⟨k + 1, by omega, by go_num, dropC_other (DD.out.trans (congrArg (clsf 0) HD.out)) (by decide), by rw [← lay_step (DD.out.trans (congrArg (clsf 0) HD.out))]; simp [List.map_set, cl]⟩
          case measure => simp [intOf]; omega
        by_cases h58 : c = 58
        · subst h58
          go_wp2
          go_roundw
          case rel => exact ⟨k + 1, by omega, by go_num, dropC_other (DD.out.trans (congrArg (clsf 0) HD.out)) (by decide), by rw [← lay_step (DD.out.trans (congrArg (clsf 0) HD.out))]; simp [List.map_set, cl]⟩
          case measure => simp [intOf]; omega
        by_cases h44 : c = 44
        · subst h44
          go_wp2
          go_roundw
          case rel => exact ⟨k + 1, by omega, by go_num, dropC_other (DD.out.trans (congrArg (clsf 0) HD.out)) (by decide), by rw [← lay_step (DD.out.trans (congrArg (clsf 0) HD.out))]; simp [List.map_set, cl]⟩
          case measure => simp [intOf]; omega
        by_cases h91 : c = 91
        · subst h91
          go_wp2
          go_roundw
          case rel => exact ⟨k + 1, by omega, by go_num, dropC_other (DD.out.trans (congrArg (clsf 0) HD.out)) (by decide), by rw [← lay_step (DD.out.trans (congrArg (clsf 0) HD.out))]; simp [List.map_set, cl]⟩
          case measure => simp [intOf]; omega
        by_cases h123 : c = 123
        · subst h123
          go_wp2
          go_roundw
          case rel => exact ⟨k + 1, by omega, by go_num, dropC_other (DD.out.trans (congrArg (clsf 0) HD.out)) (by decide), by rw [← lay_step (DD.out.trans (congrArg (clsf 0) HD.out))]; simp [List.map_set, cl]⟩
          case measure => simp [intOf]; omega
        by_cases h93 : c = 93
        · subst h93
          go_wp2
          go_roundw
          case rel => exact ⟨k + 1, by omega, by go_num, dropC_other (DD.out.trans (congrArg (clsf 0) HD.out)) (by decide), by rw [← lay_step (DD.out.trans (congrArg (clsf 0) HD.out))]; simp [List.map_set, cl]⟩
          case measure => simp [intOf]; omega
        by_cases h125 : c = 125
        · subst h125
          go_wp2
          go_roundw
          case rel => exact ⟨k + 1, by omega, by go_num, dropC_other (DD.out.trans (congrArg (clsf 0) HD.out)) (by decide), by rw [← lay_step (DD.out.trans (congrArg (clsf 0) HD.out))]; simp [List.map_set, cl]⟩
          case measure => simp [intOf]; omega
        go_wp2
        go_roundw
        case rel => exact ⟨k + 1, by omega, by go_num, dropC_other (DD.out.trans (congrArg (clsf 0) HD.out)) h34, by rw [← lay_step (DD.out.trans (congrArg (clsf 0) HD.out))]; simp [List.map_set, cl_val h32 h9 h13 h10 h58 h44 h91 h123 h93 h125]⟩
        case measure => simp [intOf]; omega
    · obtain rfl : k = n := by omega
      go_wp2
      go_ret
      refine ⟨rfl, ?_⟩
      have := lay_full (clsf 0 zs)
      rw [HC.out] at this
      rw [this]
end Go.Proofs.Qxb6603898a
