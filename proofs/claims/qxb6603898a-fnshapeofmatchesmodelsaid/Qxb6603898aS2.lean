import Derived.Test.Qxb6603898aS1
namespace Go.Proofs.Qxb6603898a
open Go.RowKit
set_option maxRecDepth 100000 in
set_option maxHeartbeats 2000000 in
theorem shape_any (a : Option Addr) (n cap : Nat) (zs : List Int) (w : World) (h : RowB w a n zs) (hn : n ≤ 1048576) :
    Calls Try.prog 29 #[.slice a n cap] w fun e w' => ∃ N E D : Nat, shp 0 0 0 [] false (clsf 0 zs) = (N, E, D) ∧ e = .returned (.agg #[.int .i64 N, .int .i64 E, .int .i64 D]) ∧ Below w.heap.size w w' := by
  have HL : Hid (zs.length = n) := h.1
  obtain ⟨i3, hi3, hz30, hz31, hz32⟩ := info_parts Try.info3
  go_enter Try.func29, Try.ntmps29
  go_wp2
  go_loopw [4, 5, 6] (fun v fr t wr => ∃ (j nest ent wid : Nat) (stk : List Nat) (f : Bool), j ≤ n ∧ t = .int .i64 j ∧ fr = .bool f ∧ SInv w w.heap.size wr v nest ent wid stk ∧ (f = true → stk ≠ []) ∧ stk.length ≤ 64 ∧ nest ≤ 64 ∧ ent + stk.sum ≤ j ∧ wid ≤ j ∧
      shp nest ent wid stk f (clsf 0 (zs.drop j)) = shp 0 0 0 [] false (clsf 0 zs)) (fun _ _ t _ => n - (intOf t).toNat)
  case atStart => exact ⟨0, 0, 0, 0, [], false, Nat.zero_le _, rfl, rfl, SInv_start w, by simp, by simp, by simp, by simp, by simp, by simp⟩
  case round =>
    obtain ⟨j, nest, ent, wid, stk, f, hj, rfl, rfl, hI, hf, hsl, hnl, hes, hwl, hR⟩ := hrel
    have HR : Hid (shp nest ent wid stk f (clsf 0 (zs.drop j)) = shp 0 0 0 [] false (clsf 0 zs)) := hR
    have HF : Hid (f = true → stk ≠ []) := hf
    have HSL : Hid (stk.length ≤ 64) := hsl
    have HES : Hid (ent + stk.sum ≤ j) := hes
    clear hR hf hsl hes
    have hsz := hI.size
    have c10 : wr.cell? ⟨w.heap.size + 1, 0, none⟩ = some (.int .i64 nest) := by rw [Lib.cell_of_heap hI.shape]; rfl
    have c11 : wr.cell? ⟨w.heap.size + 1, 1, none⟩ = some (.int .i64 ent) := by rw [Lib.cell_of_heap hI.shape]; rfl
    have c12 : wr.cell? ⟨w.heap.size + 1, 2, none⟩ = some (.int .i64 wid) := by rw [Lib.cell_of_heap hI.shape]; rfl
    have f10 := Lib.frozen_of_heap hI.shape 0
    have f11 := Lib.frozen_of_heap hI.shape 1
    have f12 := Lib.frozen_of_heap hI.shape 2
    by_cases hlt : j < n
    · obtain ⟨x, rfl, hc⟩ := (h.below hI.bel).cell hlt
      have hd := drop_cons zs j (by rw [HL.out]; exact hlt)
      obtain ⟨c, hcc⟩ : ∃ c, c = zs.getD j 0 := ⟨_, rfl⟩
      rw [← hcc] at hc hd
      have HD : Hid (zs.drop j = c :: zs.drop (j + 1)) := hd
      clear hcc hd
      by_cases h32 : c = 32
      · subst h32
        go_wp2
        go_roundw
        case rel => exact ⟨j + 1, nest, ent, wid, stk, f, by omega, by go_num, rfl, hI, HF.out, HSL.out, hnl, by have := HES.out; omega, by omega, by rw [← HR.out, HD.out]; exact (shp_skip _ _ _ _ _ 0 _ (by decide) (by decide) (by decide) (by decide)).symm⟩
        case measure => simp [intOf]; omega
      by_cases h9 : c = 9
      · subst h9
        go_wp2
        go_roundw
        case rel => exact ⟨j + 1, nest, ent, wid, stk, f, by omega, by go_num, rfl, hI, HF.out, HSL.out, hnl, by have := HES.out; omega, by omega, by rw [← HR.out, HD.out]; exact (shp_skip _ _ _ _ _ 0 _ (by decide) (by decide) (by decide) (by decide)).symm⟩
        case measure => simp [intOf]; omega
      by_cases h13 : c = 13
      · subst h13
        go_wp2
        go_roundw
        case rel => exact ⟨j + 1, nest, ent, wid, stk, f, by omega, by go_num, rfl, hI, HF.out, HSL.out, hnl, by have := HES.out; omega, by omega, by rw [← HR.out, HD.out]; exact (shp_skip _ _ _ _ _ 0 _ (by decide) (by decide) (by decide) (by decide)).symm⟩
        case measure => simp [intOf]; omega
      by_cases h10 : c = 10
      · subst h10
        go_wp2
        go_roundw
        case rel => exact ⟨j + 1, nest, ent, wid, stk, f, by omega, by go_num, rfl, hI, HF.out, HSL.out, hnl, by have := HES.out; omega, by omega, by rw [← HR.out, HD.out]; exact (shp_skip _ _ _ _ _ 0 _ (by decide) (by decide) (by decide) (by decide)).symm⟩
        case measure => simp [intOf]; omega
      by_cases h58 : c = 58
      · subst h58
        go_wp2
        go_roundw
        case rel => exact ⟨j + 1, nest, ent, wid, stk, f, by omega, by go_num, rfl, hI, HF.out, HSL.out, hnl, by have := HES.out; omega, by omega, by rw [← HR.out, HD.out]; exact (shp_skip _ _ _ _ _ 0 _ (by decide) (by decide) (by decide) (by decide)).symm⟩
        case measure => simp [intOf]; omega
      by_cases h44 : c = 44
      · subst h44
        cases stk with
        | nil =>
          obtain ⟨ao, cp, rfl⟩ := hI.val
          go_wp2
          go_roundw
          case rel => exact ⟨j + 1, nest, ent, wid, [], false, by omega, by go_num, rfl, hI, (by simp), HSL.out, hnl, by have := HES.out; omega, by omega, by rw [← HR.out, HD.out]; exact (shp_comma _ _ _ _ f _).symm⟩
          case measure => simp [intOf]; omega
        | cons t s =>
          obtain ⟨g, cp, rfl, hg, hcp, ct, ft⟩ := hI.top
          have hs63 : s.length ≤ 63 := by have := HSL.out; simp only [List.length_cons] at this; omega
          go_wp2
          go_roundw
          case rel => exact ⟨j + 1, nest, ent, wid, t :: s, true, by omega, by go_num, rfl, hI, (by simp), HSL.out, hnl, by have := HES.out; omega, by omega, by rw [← HR.out, HD.out]; exact (shp_comma _ _ _ _ f _).symm⟩
          case measure => simp [intOf]; omega
      by_cases h93 : c = 93
      · subst h93
        cases stk with
        | nil =>
          obtain ⟨ao, cp, rfl⟩ := hI.val
          go_wp2
          go_roundw
          case rel => exact ⟨j + 1, nest, ent, wid, [], false, by omega, by go_num, rfl, hI, (by simp), HSL.out, hnl, by have := HES.out; omega, by omega, by rw [← HR.out, HD.out]; exact (shp_close0 _ _ _ f _).symm⟩
          case measure => simp [intOf]; omega
        | cons t s =>
          obtain ⟨g, cp, rfl, hg, hcp, ct, ft⟩ := hI.top
          have hs63 : s.length ≤ 63 := by have := HSL.out; simp only [List.length_cons] at this; omega
          have hts : ent + t ≤ j := by have := HES.out; simp only [List.sum_cons] at this; omega
          have hts2 : ent + t + s.sum ≤ j := by have := HES.out; simp only [List.sum_cons] at this; omega
          have HT2 : Hid (ent + t + s.sum ≤ j) := hts2
          clear hts2
          by_cases hwt : wid < t
          · go_wp2
            go_region
            go_wp2
            go_region
            go_wp2
            go_roundw
            case rel => exact ⟨j + 1, nest, ent + t, t, s, false, by omega, by go_num, rfl, hI.close t, (by simp), by omega, hnl, by have := HT2.out; omega, by omega, by rw [← HR.out, HD.out]; exact ((shp_close1 nest ent wid t s f _).trans (by rw [Nat.max_eq_right (by omega)]; rfl)).symm⟩
            case measure => simp [intOf]; omega
          · go_wp2
            go_region
            go_wp2
            go_region
            go_wp2
            go_roundw
            case rel => exact ⟨j + 1, nest, ent + t, wid, s, false, by omega, by go_num, rfl, hI.close wid, (by simp), by omega, hnl, by have := HT2.out; omega, by omega, by rw [← HR.out, HD.out]; exact ((shp_close1 nest ent wid t s f _).trans (by rw [Nat.max_eq_left (by omega)]; rfl)).symm⟩
            case measure => simp [intOf]; omega
      by_cases h125 : c = 125
      · subst h125
        cases stk with
        | nil =>
          obtain ⟨ao, cp, rfl⟩ := hI.val
          go_wp2
          go_roundw
          case rel => exact ⟨j + 1, nest, ent, wid, [], false, by omega, by go_num, rfl, hI, (by simp), HSL.out, hnl, by have := HES.out; omega, by omega, by rw [← HR.out, HD.out]; exact (shp_close0 _ _ _ f _).symm⟩
          case measure => simp [intOf]; omega
        | cons t s =>
          obtain ⟨g, cp, rfl, hg, hcp, ct, ft⟩ := hI.top
          have hs63 : s.length ≤ 63 := by have := HSL.out; simp only [List.length_cons] at this; omega
          have hts : ent + t ≤ j := by have := HES.out; simp only [List.sum_cons] at this; omega
          have hts2 : ent + t + s.sum ≤ j := by have := HES.out; simp only [List.sum_cons] at this; omega
          have HT2 : Hid (ent + t + s.sum ≤ j) := hts2
          clear hts2
          by_cases hwt : wid < t
          · go_wp2
            go_region
            go_wp2
            go_region
            go_wp2
            go_roundw
            case rel => exact ⟨j + 1, nest, ent + t, t, s, false, by omega, by go_num, rfl, hI.close t, (by simp), by omega, hnl, by have := HT2.out; omega, by omega, by rw [← HR.out, HD.out]; exact ((shp_close1 nest ent wid t s f _).trans (by rw [Nat.max_eq_right (by omega)]; rfl)).symm⟩
            case measure => simp [intOf]; omega
          · go_wp2
            go_region
            go_wp2
            go_region
            go_wp2
            go_roundw
            case rel => exact ⟨j + 1, nest, ent + t, wid, s, false, by omega, by go_num, rfl, hI.close wid, (by simp), by omega, hnl, by have := HT2.out; omega, by omega, by rw [← HR.out, HD.out]; exact ((shp_close1 nest ent wid t s f _).trans (by rw [Nat.max_eq_left (by omega)]; rfl)).symm⟩
            case measure => simp [intOf]; omega
      by_cases h34 : c = 34
      · subst h34
        cases f with
        | false =>
          have hse := sE_le (zs.drop (j + 1)) false
          rw [List.length_drop, HL.out] at hse
          go_wp2_with fail
          refine (strEnd_any (some x) n cap j zs _ (h.below hI.bel) hn hlt).mono ?_
          rintro e w' ⟨rfl, rfl⟩
          go_wp2
          go_roundw
          case rel =>
            refine ⟨j + 1 + sE false (zs.drop (j + 1)), nest, ent, wid, stk, false, by omega, by go_num, rfl, hI, (by simp), HSL.out, hnl, ?_, by omega, ?_⟩
            · have := HES.out
              omega
            · rw [← HR.out, HD.out]
              exact ((shp_quote _ nest ent wid _ false).trans (by rw [List.drop_drop]; rfl)).symm
          case measure => simp [intOf]; omega
        | true =>
          obtain ⟨t, s, rfl⟩ : ∃ t s, stk = t :: s := by
            cases stk with
            | nil => exact absurd rfl (HF.out rfl)
            | cons t s => exact ⟨t, s, rfl⟩
          obtain ⟨g, cp, rfl, hg, hcp, ct, ft⟩ := hI.top
          have hs63 : s.length ≤ 63 := by have := HSL.out; simp only [List.length_cons] at this; omega
          have hts : t ≤ j := by have := HES.out; simp only [List.sum_cons] at this; omega
          have hJ := hI.bump' hg
          have HS2 : Hid (ent + ((t + 1) :: s).sum ≤ j + 1) := by have := HES.out; simp only [List.sum_cons] at this ⊢; exact (by omega : ent + (t + 1 + s.sum) ≤ j + 1)
          have hse := sE_le (zs.drop (j + 1)) false
          rw [List.length_drop, HL.out] at hse
          go_wp2_with fail
          refine (strEnd_any (some x) n cap j zs _ (h.below hJ.bel) hn hlt).mono ?_
          rintro e w' ⟨rfl, rfl⟩
          go_wp2
          go_roundw
          case rel =>
            refine ⟨j + 1 + sE false (zs.drop (j + 1)), nest, ent, wid, ((t + 1) :: s), false, by omega, by go_num, rfl, hJ, (by simp), (by have := HSL.out; simpa using this), hnl, ?_, by omega, ?_⟩
            · have := HS2.out
              omega
            · rw [← HR.out, HD.out]
              exact ((shp_quote _ nest ent wid _ true).trans (by rw [List.drop_drop]; rfl)).symm
          case measure => simp [intOf]; omega
      by_cases h91 : c = 91
      · subst h91
        cases f with
        | false =>
          have hl64 : stk.length ≤ 64 := HSL.out
          have hJz := hI.size
          have hcn := cell_new1 wr wr.heap.size rfl (.int .i64 0) 3
          go_wp2_with (at_builtin; refine wpList_append_own _ rfl _ _ 52 rfl (w.heap.size + 2) 3 i3 (.int .i64 0) 1 8 Try.underlying52 hi3 hz30 hz31 hz32 rfl (by decide) _ _ _ rfl (hI.own.alloc _) ⟨wr.heap.size, 0, none⟩ 1 1 [.int .i64 0] rfl rfl hcn ?c2 ?c3 ?c4 ?c5 ?_)
          case c2 => intro u hu; simp at hu; subst hu; rfl
          case c3 => unfold maxLen; omega
          case c4 => omega
          case c5 => simp at hJz ⊢; omega
          intro v' w1 hown1 hgrow1 _
          have hK := hI.push' hown1 hgrow1
          obtain ⟨g1, cp1, hv1⟩ := hK.pushed
          obtain ⟨k10, k11, k12, r0, r1, r2, k1f, k0f⟩ := hK.cells
          have hKz := hK.size
          rw [hv1]
          rw [hv1] at hK
          clear c10 c11 c12 f10 f11 f12 hown1 hgrow1 hv1 hcn
          by_cases hmx : nest < stk.length + 1
          · by_cases h65 : 64 < stk.length + 1
            · go_wp2
              obtain ⟨q0, hbf⟩ := (hK.nest' (stk.length + 1)).final ((stk.length : Int) + 1) ent wid
              refine ret29 q0 rfl rfl ⟨stk.length + 1, ent, wid, ?_, rfl, hbf⟩
              rw [← HR.out, HD.out]
              exact shp_stop (c := 91) (stk := stk) (f := false) (by decide) (Nat.le_of_lt hmx) h65
            · go_wp2
              go_roundw
              case rel => exact ⟨j + 1, stk.length + 1, ent, wid, 0 :: stk, true, by omega, by go_num, rfl, hK.nest' _, (by simp), (by simp only [List.length_cons]; omega), by omega, (by have := HES.out; simp only [List.sum_cons]; omega), by omega, by rw [← HR.out, HD.out]; exact (shp_deeper (c := 91) (stk := stk) (f := false) (by decide) (Nat.le_of_lt hmx) h65).symm⟩
              case measure => simp [intOf]; omega
          · go_wp2
            go_roundw
            case rel => exact ⟨j + 1, nest, ent, wid, 0 :: stk, true, by omega, by go_num, rfl, hK.nest' nest, (by simp), (by simp only [List.length_cons]; omega), hnl, (by have := HES.out; simp only [List.sum_cons]; omega), by omega, by rw [← HR.out, HD.out]; exact (shp_within (c := 91) (stk := stk) (f := false) (by decide) (Nat.le_of_not_lt hmx) hnl).symm⟩
            case measure => simp [intOf]; omega
        | true =>
          obtain ⟨t, s, rfl⟩ : ∃ t s, stk = t :: s := by
            cases stk with
            | nil => exact absurd rfl (HF.out rfl)
            | cons t s => exact ⟨t, s, rfl⟩
          obtain ⟨g, cp, rfl, hg, hcp, ct, ft⟩ := hI.top
          have hs63 : s.length ≤ 63 := by have := HSL.out; simp only [List.length_cons] at this; omega
          have hts : t ≤ j := by have := HES.out; simp only [List.sum_cons] at this; omega
          have hJ := hI.bump' hg
          have HS2 : Hid (ent + ((t + 1) :: s).sum ≤ j + 1) := by have := HES.out; simp only [List.sum_cons] at this ⊢; exact (by omega : ent + (t + 1 + s.sum) ≤ j + 1)
          have hl64 : ((t + 1) :: s).length ≤ 64 := by simp only [List.length_cons]; omega
          have hJz := hJ.size
          have hcn := cell_new1 (wr.setCell ⟨g, s.length, none⟩ (.int .i64 ((t : Int) + 1))) wr.heap.size (by simp [World.setCell]) (.int .i64 0) 3
          go_wp2_with (at_builtin; refine wpList_append_own _ rfl _ _ 52 rfl (w.heap.size + 2) 3 i3 (.int .i64 0) 1 8 Try.underlying52 hi3 hz30 hz31 hz32 rfl (by decide) _ _ _ rfl (hJ.own.alloc _) ⟨wr.heap.size, 0, none⟩ 1 1 [.int .i64 0] rfl rfl hcn ?c2 ?c3 ?c4 ?c5 ?_)
          case c2 => rfl
          case c3 => unfold maxLen; omega
          case c4 => omega
          case c5 => simp at hJz ⊢; omega
          intro v' w1 hown1 hgrow1 _
          have hK := hJ.push' hown1 hgrow1
          obtain ⟨g1, cp1, hv1⟩ := hK.pushed
          obtain ⟨k10, k11, k12, r0, r1, r2, k1f, k0f⟩ := hK.cells
          have hKz := hK.size
          rw [hv1]
          rw [hv1] at hK
          clear c10 c11 c12 f10 f11 f12 ct ft hown1 hgrow1 hv1 hcn
          by_cases hmx : nest < (s.length + 1) + 1
          · by_cases h65 : 64 < (s.length + 1) + 1
            · go_wp2
              obtain ⟨q0, hbf⟩ := (hK.nest' ((s.length + 1) + 1)).final ((s.length : Int) + 1 + 1) ent wid
              refine ret29 q0 rfl rfl ⟨(s.length + 1) + 1, ent, wid, ?_, rfl, hbf⟩
              rw [← HR.out, HD.out]
              exact shp_stop (c := 91) (stk := t :: s) (f := true) (by decide) (Nat.le_of_lt hmx) h65
            · go_wp2
              go_roundw
              case rel => exact ⟨j + 1, (s.length + 1) + 1, ent, wid, 0 :: ((t + 1) :: s), true, by omega, by go_num, rfl, hK.nest' _, (by simp), (by simp only [List.length_cons]; omega), by omega, (by have := HS2.out; simp only [List.sum_cons] at this ⊢; omega), by omega, by rw [← HR.out, HD.out]; exact (shp_deeper (c := 91) (stk := t :: s) (f := true) (by decide) (Nat.le_of_lt hmx) h65).symm⟩
              case measure => simp [intOf]; omega
          · go_wp2
            go_roundw
            case rel => exact ⟨j + 1, nest, ent, wid, 0 :: ((t + 1) :: s), true, by omega, by go_num, rfl, hK.nest' nest, (by simp), (by simp only [List.length_cons]; omega), hnl, (by have := HS2.out; simp only [List.sum_cons] at this ⊢; omega), by omega, by rw [← HR.out, HD.out]; exact (shp_within (c := 91) (stk := t :: s) (f := true) (by decide) (Nat.le_of_not_lt hmx) hnl).symm⟩
            case measure => simp [intOf]; omega
      by_cases h123 : c = 123
      · subst h123
        cases f with
        | false =>
          have hl64 : stk.length ≤ 64 := HSL.out
          have hJz := hI.size
          have hcn := cell_new1 wr wr.heap.size rfl (.int .i64 0) 3
          go_wp2_with (at_builtin; refine wpList_append_own _ rfl _ _ 52 rfl (w.heap.size + 2) 3 i3 (.int .i64 0) 1 8 Try.underlying52 hi3 hz30 hz31 hz32 rfl (by decide) _ _ _ rfl (hI.own.alloc _) ⟨wr.heap.size, 0, none⟩ 1 1 [.int .i64 0] rfl rfl hcn ?c2 ?c3 ?c4 ?c5 ?_)
          case c2 => intro u hu; simp at hu; subst hu; rfl
          case c3 => unfold maxLen; omega
          case c4 => omega
          case c5 => simp at hJz ⊢; omega
          intro v' w1 hown1 hgrow1 _
          have hK := hI.push' hown1 hgrow1
          obtain ⟨g1, cp1, hv1⟩ := hK.pushed
          obtain ⟨k10, k11, k12, r0, r1, r2, k1f, k0f⟩ := hK.cells
          have hKz := hK.size
          rw [hv1]
          rw [hv1] at hK
          clear c10 c11 c12 f10 f11 f12 hown1 hgrow1 hv1 hcn
          by_cases hmx : nest < stk.length + 1
          · by_cases h65 : 64 < stk.length + 1
            · go_wp2
              obtain ⟨q0, hbf⟩ := (hK.nest' (stk.length + 1)).final ((stk.length : Int) + 1) ent wid
              refine ret29 q0 rfl rfl ⟨stk.length + 1, ent, wid, ?_, rfl, hbf⟩
              rw [← HR.out, HD.out]
              exact shp_stop (c := 123) (stk := stk) (f := false) (by decide) (Nat.le_of_lt hmx) h65
            · go_wp2
              go_roundw
              case rel => exact ⟨j + 1, stk.length + 1, ent, wid, 0 :: stk, true, by omega, by go_num, rfl, hK.nest' _, (by simp), (by simp only [List.length_cons]; omega), by omega, (by have := HES.out; simp only [List.sum_cons]; omega), by omega, by rw [← HR.out, HD.out]; exact (shp_deeper (c := 123) (stk := stk) (f := false) (by decide) (Nat.le_of_lt hmx) h65).symm⟩
              case measure => simp [intOf]; omega
          · go_wp2
            go_roundw
            case rel => exact ⟨j + 1, nest, ent, wid, 0 :: stk, true, by omega, by go_num, rfl, hK.nest' nest, (by simp), (by simp only [List.length_cons]; omega), hnl, (by have := HES.out; simp only [List.sum_cons]; omega), by omega, by rw [← HR.out, HD.out]; exact (shp_within (c := 123) (stk := stk) (f := false) (by decide) (Nat.le_of_not_lt hmx) hnl).symm⟩
            case measure => simp [intOf]; omega
        | true =>
          obtain ⟨t, s, rfl⟩ : ∃ t s, stk = t :: s := by
            cases stk with
            | nil => exact absurd rfl (HF.out rfl)
            | cons t s => exact ⟨t, s, rfl⟩
          obtain ⟨g, cp, rfl, hg, hcp, ct, ft⟩ := hI.top
          have hs63 : s.length ≤ 63 := by have := HSL.out; simp only [List.length_cons] at this; omega
          have hts : t ≤ j := by have := HES.out; simp only [List.sum_cons] at this; omega
          have hJ := hI.bump' hg
          have HS2 : Hid (ent + ((t + 1) :: s).sum ≤ j + 1) := by have := HES.out; simp only [List.sum_cons] at this ⊢; exact (by omega : ent + (t + 1 + s.sum) ≤ j + 1)
          have hl64 : ((t + 1) :: s).length ≤ 64 := by simp only [List.length_cons]; omega
          have hJz := hJ.size
          have hcn := cell_new1 (wr.setCell ⟨g, s.length, none⟩ (.int .i64 ((t : Int) + 1))) wr.heap.size (by simp [World.setCell]) (.int .i64 0) 3
          go_wp2_with (at_builtin; refine wpList_append_own _ rfl _ _ 52 rfl (w.heap.size + 2) 3 i3 (.int .i64 0) 1 8 Try.underlying52 hi3 hz30 hz31 hz32 rfl (by decide) _ _ _ rfl (hJ.own.alloc _) ⟨wr.heap.size, 0, none⟩ 1 1 [.int .i64 0] rfl rfl hcn ?c2 ?c3 ?c4 ?c5 ?_)
          case c2 => rfl
          case c3 => unfold maxLen; omega
          case c4 => omega
          case c5 => simp at hJz ⊢; omega
          intro v' w1 hown1 hgrow1 _
          have hK := hJ.push' hown1 hgrow1
          obtain ⟨g1, cp1, hv1⟩ := hK.pushed
          obtain ⟨k10, k11, k12, r0, r1, r2, k1f, k0f⟩ := hK.cells
          have hKz := hK.size
          rw [hv1]
          rw [hv1] at hK
          clear c10 c11 c12 f10 f11 f12 ct ft hown1 hgrow1 hv1 hcn
          by_cases hmx : nest < (s.length + 1) + 1
          · by_cases h65 : 64 < (s.length + 1) + 1
            · go_wp2
              obtain ⟨q0, hbf⟩ := (hK.nest' ((s.length + 1) + 1)).final ((s.length : Int) + 1 + 1) ent wid
              refine ret29 q0 rfl rfl ⟨(s.length + 1) + 1, ent, wid, ?_, rfl, hbf⟩
              rw [← HR.out, HD.out]
              exact shp_stop (c := 123) (stk := t :: s) (f := true) (by decide) (Nat.le_of_lt hmx) h65
            · go_wp2
              go_roundw
              case rel => exact ⟨j + 1, (s.length + 1) + 1, ent, wid, 0 :: ((t + 1) :: s), true, by omega, by go_num, rfl, hK.nest' _, (by simp), (by simp only [List.length_cons]; omega), by omega, (by have := HS2.out; simp only [List.sum_cons] at this ⊢; omega), by omega, by rw [← HR.out, HD.out]; exact (shp_deeper (c := 123) (stk := t :: s) (f := true) (by decide) (Nat.le_of_lt hmx) h65).symm⟩
              case measure => simp [intOf]; omega
          · go_wp2
            go_roundw
            case rel => exact ⟨j + 1, nest, ent, wid, 0 :: ((t + 1) :: s), true, by omega, by go_num, rfl, hK.nest' nest, (by simp), (by simp only [List.length_cons]; omega), hnl, (by have := HS2.out; simp only [List.sum_cons] at this ⊢; omega), by omega, by rw [← HR.out, HD.out]; exact (shp_within (c := 123) (stk := t :: s) (f := true) (by decide) (Nat.le_of_not_lt hmx) hnl).symm⟩
            case measure => simp [intOf]; omega
      cases f with
      | false =>
        go_wp2
        go_roundw
        case rel => exact ⟨j + 1, nest, ent, wid, stk, false, by omega, by go_num, rfl, hI, (by simp), HSL.out, hnl, (by have := HES.out; omega), by omega, by rw [← HR.out, HD.out]; exact ((shp_val c _ h32 h9 h13 h10 h58 h44 h91 h123 h93 h125 h34 nest ent wid _ false).trans rfl).symm⟩
        case measure => simp [intOf]; omega
      | true =>
        obtain ⟨t, s, rfl⟩ : ∃ t s, stk = t :: s := by
          cases stk with
          | nil => exact absurd rfl (HF.out rfl)
          | cons t s => exact ⟨t, s, rfl⟩
        obtain ⟨g, cp, rfl, hg, hcp, ct, ft⟩ := hI.top
        have hs63 : s.length ≤ 63 := by have := HSL.out; simp only [List.length_cons] at this; omega
        have hts : t ≤ j := by have := HES.out; simp only [List.sum_cons] at this; omega
        have hJ := hI.bump' hg
        have HS2 : Hid (ent + ((t + 1) :: s).sum ≤ j + 1) := by have := HES.out; simp only [List.sum_cons] at this ⊢; exact (by omega : ent + (t + 1 + s.sum) ≤ j + 1)
        go_wp2
        go_roundw
        case rel => exact ⟨j + 1, nest, ent, wid, ((t + 1) :: s), false, by omega, by go_num, rfl, hJ, (by simp), (by have := HSL.out; simpa using this), hnl, HS2.out, by omega, by rw [← HR.out, HD.out]; exact ((shp_val c _ h32 h9 h13 h10 h58 h44 h91 h123 h93 h125 h34 nest ent wid (t :: s) true).trans rfl).symm⟩
        case measure => simp [intOf]; omega
    · obtain rfl : j = n := by omega
      obtain ⟨_, _, _, r0, r1, r2, _, k0f⟩ := hI.cells
      go_wp2
      obtain ⟨q0, hbf⟩ := hI.final nest ent wid
      refine ret29 q0 rfl rfl ⟨nest, ent, wid, ?_, rfl, hbf⟩
      rw [← HR.out, List.drop_eq_nil_of_le (by rw [HL.out]; omega)]
      rfl
end Go.Proofs.Qxb6603898a
