import Derived.Test.Qxb6603898aN10
namespace Go.Proofs.Qxb6603898a
open Go.RowKit

theorem part_pos (ps : List Pair) (n : Nat) (h : 0 < n) : 0 < (part ps n).length := by
  obtain ⟨m, rfl⟩ : ∃ m, n = m + 1 := ⟨n - 1, by omega⟩
  rw [part_succ]
  simp [body]; omega
theorem rest_text (s O : ByteArray) (l : Str) (h : O.data.toList = s.data.toList ++ (58 :: l)) : (O.extract (s.size + 1) O.size).data.toList = l ∧ O.size = s.size + 1 + l.length := by
  have hO : O.data.toList.length = O.size := by simp
  have hk : s.data.toList.length = s.size := by simp
  have hs : O.size = s.size + 1 + l.length := by rw [← hO, h]; simp; omega
  refine ⟨?_, hs⟩
  rw [ByteArray.data_extract, Array.toList_extract, h]
  rw [List.extract_eq_take_drop, List.drop_append, hk, List.drop_of_length_le (by omega)]
  simp [hs]

theorem after_text' (R : ByteArray) (A B T' : Str) (h : R.data.toList = A ++ (B ++ (44 :: T'))) (j : Nat) (hj : j = A.length + B.length) : ∃ h0 : j < R.size, R[j].toNat = 44 := by
  subst hj
  exact after_text R A B T' h

set_option maxRecDepth 100000 in
set_option maxHeartbeats 2000000 in
theorem reads_law (s : ByteArray) (a : Option Addr) (n c : Nat) (ps : List Pair) (w : World) (hs : s.size ≤ 9223372036854775807) (hn : n ≤ 9223372036854775807) (hcap : a = none → c = 0) (h : RowP w a n ps) :
    Calls Try.prog 8 #[.string s, .slice a n c] w fun e w' => e = .returned (.bool true) ∧ Below w.heap.size w w' := by
  have HL : Hid (ps.length = n) := h.1
  have HC : Hid (a = none → c = 0) := hcap
  have HR : Hid (RowP w a n ps) := h
  clear h hcap
  go_enter Try.func8, Try.ntmps8
  go_wp2_with fail
  refine (bytes23 s a n c ps w hs hn HR.out).mono ?_
  rintro e w' ⟨⟨b, rfl, hb⟩, hw⟩
  obtain rfl : w = w' := hw.symm
  cases b with
  | false =>
    clear hb
    go_wp2_with fail
    go_ret
    exact ⟨rfl, Below.refl _ _⟩
  | true =>
    have hb1 := hb rfl
    clear hb hw
    go_wp2_with fail
    refine (tooBig_any s a n c ps w hb1 HR.out).mono ?_
    rintro e w' ⟨⟨b, rfl, hb⟩, q, rfl⟩
    cases b with
    | true =>
      clear hb
      go_wp2_with fail
      go_ret
      exact ⟨rfl, below_drewN (Below.refl _ _) q⟩
    | false =>
      have hb2 := hb rfl
      clear hb
      go_wp2_with fail
      refine (free_any s a n c ps _ hb1 (HR.out.drewN q)).mono ?_
      rintro e w' ⟨⟨b, rfl, hb⟩, hw⟩
      obtain rfl : w.drewN q = w' := hw.symm
      cases b with
      | false =>
        clear hb
        go_wp2_with fail
        go_ret
        exact ⟨rfl, below_drewN (Below.refl _ _) q⟩
      | true =>
        have HFr : Hid (Free s ps n) := hb rfl
        clear hb hw
        go_wp2_with fail
        refine (pairs_any a n c ps _ HC.out (HR.out.drewN q) (by omega)).mono ?_
        rintro e w1 ⟨a', c', rfl, hc', hcap', hR1, hbe1⟩
        have HR1 : Hid (RowP w1 a' n ps) := hR1
        have HC1 : Hid (a' = none → c' = 0) := hcap'
        clear hR1 hcap'
        go_wp2_with fail
        refine (zzname_any s a' n c' ps w1 HC1.out hb2 HR1.out).mono ?_
        rintro e w2 ⟨rfl, hbe2⟩
        obtain ⟨O, hO⟩ : ∃ O : ByteArray, O = ⟨(name s ps n).toArray⟩ := ⟨_, rfl⟩
        rw [← hO]
        have HO : Hid (O = _) := hO
        have hOs : O.size ≤ 3000000 := by
          have e : O.size = (name s ps n).length := by rw [hO]; rfl
          have := name_len s ps n (by rw [HL.out]; omega)
          have := szs_take_le ps n
          omega
        have hOd : O.data.toList = s.data.toList ++ (58 :: part ps n) := by rw [hO]; rfl
        have HOd : Hid (_ = _) := hOd
        obtain ⟨hO1, hO2, hO3⟩ := out_facts s O _ hO
        clear hO hOd hO3
        have HB : Hid (Below w.heap.size w w2) := (below_drewN (Below.refl _ _) q).trans (hbe1.trans (hbe2.mono (by have := hbe1.size; simpa using this)))
        have HR2 : Hid (RowP w2 a' n ps) := HR1.out.below hbe2
        clear hbe1 hbe2
        go_wp2_with fail
        refine (index_any O 58 w2 (by omega)).mono ?_
        rintro e w' ⟨⟨r, rfl, hr⟩, hw⟩
        obtain rfl : w2 = w' := hw.symm
        obtain rfl : r = (s.size : Int) := by
          rw [HOd.out] at hr
          rw [IdxOf.first (b := 58) (by decide) HFr.out.1 hr]
          simp
        clear hr hw
        obtain ⟨hRt, hOsz⟩ := rest_text s O (part ps n) HOd.out
        have HRt : Hid (_ = _) := hRt
        have HOz : Hid (_ = _) := hOsz
        clear hRt hOsz
        by_cases hn0 : n = 0
        · have hz : ((↑(O.size - (s.size + 1)) : Int) == 0) = true := by
            rw [HOz.out, hn0]; simp [part]
          subst hn0
          go_wp2_with fail
          go_ret
          exact ⟨rfl, HB.out⟩
        have hz : ((↑(O.size - (s.size + 1)) : Int) == 0) = false := by
          have h2 := part_pos ps n (by omega)
          have h3 : O.size - (s.size + 1) = (part ps n).length := by have := HOz.out; omega
          rw [h3]
          exact beq_eq_false_iff_ne.2 (by omega)
        go_wp2_with fail
        obtain ⟨R, hR⟩ : ∃ R, R = O.extract (s.size + 1) O.size := ⟨_, rfl⟩
        have hRs : R.size ≤ 3000000 := by rw [hR]; simp; omega
        rw [← hR]
        have HRd : Hid (R.data.toList = part ps n) := by rw [hR]; exact HRt.out
        clear hR hz
        go_loopw [8, 9, 10] (fun t8 t9 t10 wr => ∃ q : Nat, wr = w2.drewN q ∧ ((∃ i j : Nat, i < n ∧ (lead ps i).length ≤ j ∧ j ≤ (lead ps i).length + (body ps i).length ∧ t8 = .int .i64 i ∧ t9 = .int .i64 (lead ps i).length ∧ t10 = .int .i64 j) ∨ (t8 = .int .i64 n ∧ t9 = .int .i64 (R.size + 1 : Nat) ∧ t10 = .int .i64 (R.size + 1 : Nat)))) (fun _ _ t10 _ => R.size + 2 - (intOf t10).toNat)
        case atStart => exact ⟨0, rfl, .inl ⟨0, 0, by omega, by simp [lead, part], Nat.zero_le _, rfl, by simp [lead, part], rfl⟩⟩
        case round =>
          obtain ⟨q', rfl, ⟨i, j, hi, hj1, hj2, rfl, rfl, rfl⟩ | ⟨rfl, rfl, rfl⟩⟩ := hrel
          · obtain ⟨T, hT1, hT2, hT3⟩ := part_split ps n i hi
            have hRd := HRd.out
            rw [hT1] at hRd
            obtain ⟨hcut, hle⟩ := cut_text R _ _ _ hRd
            by_cases hjl : j < (lead ps i).length + (body ps i).length
            · obtain ⟨h0, hmem⟩ := at_text R _ _ _ hRd j hj1 hjl
              have hne := body_free HFr.out hi _ hmem
              obtain ⟨L, hL⟩ : ∃ L, (lead ps i).length = L := ⟨_, rfl⟩
              obtain ⟨M, hM⟩ : ∃ M, (body ps i).length = M := ⟨_, rfl⟩
              rw [hL] at hj1
              rw [hL, hM] at hj2 hjl
              rw [hL]
              have HLL : Hid (_ = _) := hL
              have HMM : Hid (_ = _) := hM
              clear hmem hRd hcut hT1 hT2 hT3 hle hL hM
              go_wp2_with fail
              go_roundw
              case rel => exact ⟨q', rfl, .inl ⟨i, j + 1, hi, by rw [HLL.out]; omega, by rw [HLL.out, HMM.out]; omega, rfl, by rw [HLL.out], by go_num⟩⟩
              case measure => simp [intOf]; omega
            · have hje : j = (lead ps i).length + (body ps i).length := by omega
              obtain ⟨x, k, v, rfl, E, _, _, c1, c2⟩ := HR2.out.at hi
              have HE : Hid (_ = _) := E
              obtain ⟨B, hB⟩ : ∃ B : ByteArray, B = ⟨(body ps i).toArray⟩ := ⟨_, rfl⟩
              rw [← hB] at hcut
              have hBd : B.data.toList = k.data.toList ++ (61 :: v.data.toList) := by rw [hB, body, E]
              have HBd : Hid (_ = _) := hBd
              obtain ⟨hb3, hb4, hb5⟩ := body_cut k v B hBd
              have hBs : B.size ≤ 3000000 := by
                have e : B.size = (body ps i).length := by rw [hB]; rfl
                omega
              have hnext := lead_succ_length ps i
              have hRl : R.size = (part ps n).length := by rw [← HRd.out]; simp
              rw [hT1] at hRl
              simp only [List.length_append] at hRl
              by_cases hi1 : i + 1 < n
              · obtain ⟨T', hT'⟩ := hT3 hi1
                rw [hT'] at hRd
                obtain ⟨h0, h44⟩ := after_text' R _ _ _ hRd j hje
                rw [← hje] at hcut hnext
                have HN : Hid (_ = _) := hnext
                obtain ⟨L, hL⟩ : ∃ L, (lead ps i).length = L := ⟨_, rfl⟩
                rw [hL] at hcut hj1
                rw [hL]
                clear hRd hT1 hT2 hT3 hB E hBd hT' hRl hle hj2 hjl hje hnext hL
                go_wp2_with fail
                refine (index_any B 61 _ (by omega)).mono ?_
                rintro e w' ⟨⟨r, rfl, hr⟩, hw⟩
                obtain rfl : w2.drewN q' = w' := hw.symm
                obtain rfl : r = (k.size : Int) := by
                  rw [HBd.out] at hr
                  rw [IdxOf.first (b := 61) (by decide) (by have := (HFr.out.2 i hi).2.1; rw [HE.out] at this; exact this) hr]
                  simp
                clear hr hw
                go_wp2_with fail
                go_quiet (fail)
                go_wp2
                go_roundw
                case rel => exact ⟨q' + nq, by simp, .inl ⟨i + 1, j + 1, hi1, by rw [HN.out]; exact Nat.le_refl _, by rw [HN.out]; exact Nat.le_add_right _ _, by go_num, by rw [HN.out]; go_num, by go_num⟩⟩
                case measure => simp [intOf]; omega
              · have hT0 := hT2 (by omega)
                rw [hT0] at hRl
                have hin : i + 1 = n := by omega
                have hjR : j = R.size := by simp at hRl; omega
                rw [← hje] at hcut
                obtain ⟨L, hL⟩ : ∃ L, (lead ps i).length = L := ⟨_, rfl⟩
                rw [hL] at hcut hj1
                rw [hL]
                clear hRd hT1 hT2 hT3 hB E hBd hT0 hRl hnext hle hj2 hjl hje hL
                subst hjR
                go_wp2_with fail
                refine (index_any B 61 _ (by omega)).mono ?_
                rintro e w' ⟨⟨r, rfl, hr⟩, hw⟩
                obtain rfl : w2.drewN q' = w' := hw.symm
                obtain rfl : r = (k.size : Int) := by
                  rw [HBd.out] at hr
                  rw [IdxOf.first (b := 61) (by decide) (by have := (HFr.out.2 i hi).2.1; rw [HE.out] at this; exact this) hr]
                  simp
                clear hr hw
                go_wp2_with fail
                go_quiet (fail)
                go_wp2
                go_roundw
                case rel => exact ⟨q' + nq, by simp, .inr ⟨by rw [← hin]; go_num, by go_num, by go_num⟩⟩
                case measure => simp [intOf]
          · go_wp2_with fail
            go_ret
            exact ⟨ret_bool (by simp), below_drewN HB.out _⟩
end Go.Proofs.Qxb6603898a
