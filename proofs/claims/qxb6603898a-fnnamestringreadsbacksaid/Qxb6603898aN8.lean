import Derived.Test.Qxb6603898aN7
namespace Go.Proofs.Qxb6603898a
open Go.RowKit

theorem Try.info37 : (Try.prog.info? 37).map (fun i => i.zero) = some (some (.agg (arr (fun _ => 0)).toArray)) := by kernel_rfl
theorem zero37 (w : World) : (zeroValue 37).run Try.prog w = .ok (.agg (arr (fun _ => 0)).toArray) w := by
  obtain ⟨i, hi, hz⟩ := Option.map_eq_some_iff.1 Try.info37
  simp [zeroValue, typeInfo, hi, hz]
theorem out_facts (s : ByteArray) (O : ByteArray) (l : Str) (h : O = ⟨(s.data.toList ++ ([58] ++ l)).toArray⟩) :
    ∃ h0 : s.size < O.size, (O.extract 0 s.size).toList = s.toList ∧ O[s.size].toNat = 58 := by
  have hd : O.data.toList = s.data.toList ++ ([58] ++ l) := by rw [h]
  have hs : s.data.toList.length = s.size := by simp
  have ho : O.data.toList.length = O.size := by simp
  have h0 : s.size < O.size := by rw [← ho, hd, List.length_append, hs]; simp
  refine ⟨h0, ?_, ?_⟩
  · congr 1
    apply ByteArray.ext
    apply Array.toList_inj.1
    rw [ByteArray.data_extract, Array.toList_extract, hd]
    simp [hs]
  · rw [← get_list O s.size h0]
    simp only [hd]
    rw [List.getElem_append_right (by omega)]
    simp [hs]

/-! ### THE PLAIN PART: the census of a name -/
/-- How often b stands in the keys and values. -/
def pc (b : Nat) (ps : List Pair) : Nat → Int
  | 0 => 0
  | j + 1 => pc b ps j + cnt b (ps.getD j nopair).1.data.toList + cnt b (ps.getD j nopair).2.data.toList
theorem pc_bound (b : Nat) (ps : List Pair) (j : Nat) (h : j ≤ ps.length) : 0 ≤ pc b ps j ∧ pc b ps j ≤ szs (ps.take j) := by
  induction j with
  | zero => simp [pc, szs]
  | succ j ih =>
    have := szs_take ps j (by omega) (k := (ps.getD j nopair).1) (v := (ps.getD j nopair).2) rfl
    have h2 := ih (by omega)
    have h3 := cnt_bound b (ps.getD j nopair).1.data.toList
    have h4 := cnt_bound b (ps.getD j nopair).2.data.toList
    have e : ∀ s : ByteArray, s.data.toList.length = s.size := fun s => by simp
    rw [e] at h3 h4
    rw [pc, this]
    omega
theorem cnt_part (b : Nat) (ps : List Pair) (n : Nat) : cnt b (part ps n) = pc b ps n + (if b = 61 then (n : Int) else 0) + (if b = 44 then ((n - 1 : Nat) : Int) else 0) := by
  induction n with
  | zero => simp [part, pc, cnt]
  | succ n ih =>
    rw [part, cnt_append, ih, seg, cnt_append, cnt_append, cnt_append, pc]
    have e1 : cnt b [61] = if b = 61 then 1 else 0 := by
      simp only [cnt]
      by_cases h : b = 61
      · subst h; rfl
      · rw [if_neg h, if_neg (fun e => h e.symm)]; rfl
    have e2 : cnt b (if n = 0 then [] else [44]) = if b = 44 ∧ n ≠ 0 then 1 else 0 := by
      by_cases h0 : n = 0
      · simp [h0, cnt]
      · rw [if_neg h0]
        by_cases h : b = 44
        · subst h
          rw [show cnt 44 [44] = 1 from rfl]; simp [h0]
        · have e3 : cnt b [44] = 0 := by simp only [cnt]; rw [if_neg (fun e => h e.symm)]; rfl
          rw [e3]; simp [h]
    rw [e1, e2]
    by_cases h1 : b = 61
    · rw [if_pos h1, if_pos h1, if_pos h1, if_neg (by omega), if_neg (by omega), if_neg (by omega)]; omega
    · rw [if_neg h1, if_neg h1, if_neg h1]
      by_cases h2 : b = 44
      · rw [if_pos h2, if_pos h2]
        by_cases h0 : n = 0
        · rw [if_neg (by omega)]; omega
        · rw [if_pos ⟨h2, h0⟩]; omega
      · rw [if_neg h2, if_neg h2, if_neg (by omega)]; omega
theorem cnt_name (b : Nat) (s : ByteArray) (ps : List Pair) (n : Nat) :
    cnt b (name s ps n) = cnt b s.data.toList + pc b ps n + (if b = 58 then 1 else 0) + (if b = 61 then (n : Int) else 0) + (if b = 44 then ((n - 1 : Nat) : Int) else 0) := by
  rw [name, cnt_append, cnt_append, cnt_part]
  have e1 : cnt b [58] = if b = 58 then 1 else 0 := by
    simp only [cnt]
    by_cases h : b = 58
    · subst h; rfl
    · rw [if_neg h, if_neg (fun e => h e.symm)]; rfl
  rw [e1]
  omega

set_option maxRecDepth 100000 in
set_option maxHeartbeats 2000000 in
theorem keeps_law (s : ByteArray) (a : Option Addr) (n c : Nat) (ps : List Pair) (w : World) (hs : s.size ≤ 9223372036854775807) (hn : n ≤ 9223372036854775807) (hcap : a = none → c = 0) (h : RowP w a n ps) :
    Calls Try.prog 7 #[.string s, .slice a n c] w fun e w' => e = .returned (.bool true) ∧ Below w.heap.size w w' := by
  have HL : Hid (ps.length = n) := h.1
  have HC : Hid (a = none → c = 0) := hcap
  have HR : Hid (RowP w a n ps) := h
  clear h hcap
  obtain ⟨Z, hZ⟩ : ∃ Z : Nat → Int, Z = fun _ => 0 := ⟨_, rfl⟩
  have hzv := zero37
  rw [← hZ] at hzv
  have HZ : Hid (Z = _) := hZ
  clear hZ
  go_enter Try.func7, Try.ntmps7
  go_wp2_with fail
  refine (bytes21 s a n c ps w hs hn HR.out).mono ?_
  rintro e w' ⟨⟨b, rfl, hb⟩, hw⟩
  obtain rfl : w = w' := hw.symm
  cases b with
  | false =>
    clear hb
    go_wp2_with fail
    go_ret
    exact ⟨rfl, Below.refl _ _⟩
  | true =>
    have hb1 := hb rfl
    clear hb hw
    go_wp2_with fail
    refine (tooBig_any s a n c ps w hb1 HR.out).mono ?_
    rintro e w' ⟨⟨b, rfl, hb⟩, q, rfl⟩
    cases b with
    | true =>
      clear hb
      go_wp2_with fail
      go_ret
      exact ⟨rfl, below_drewN (Below.refl _ _) q⟩
    | false =>
      have hb2 := hb rfl
      clear hb
      go_wp2_with fail
      refine (pairs_any a n c ps _ HC.out (HR.out.drewN q) (by omega)).mono ?_
      rintro e w1 ⟨a', c', rfl, hc', hcap', hR1, hbe1⟩
      have HR1 : Hid (RowP w1 a' n ps) := hR1
      have HC1 : Hid (a' = none → c' = 0) := hcap'
      clear hR1 hcap'
      go_wp2_with fail
      refine (zzname_any s a' n c' ps w1 HC1.out hb2 HR1.out).mono ?_
      rintro e w2 ⟨rfl, hbe2⟩
      obtain ⟨O, hO⟩ : ∃ O : ByteArray, O = ⟨(name s ps n).toArray⟩ := ⟨_, rfl⟩
      rw [← hO]
      have HO : Hid (O = _) := hO
      clear hO
      have HB : Hid (Below w.heap.size w w2) := (below_drewN (Below.refl _ _) q).trans (hbe1.trans (hbe2.mono (by have := hbe1.size; simpa using this)))
      have HR2 : Hid (RowP w2 a' n ps) := HR1.out.below hbe2
      clear hbe1 hbe2
      obtain ⟨hO1, hO2, hO3⟩ := out_facts s O _ HO.out
      have hOs : O.size ≤ 3000000 := by
        have e : O.size = (name s ps n).length := by rw [HO.out]; rfl
        have := name_len s ps n (by rw [HL.out]; omega)
        have := szs_take_le ps n
        omega
      go_wp2_with fail
      clear hO1 hO2 hO3 hzv
      refine (tally_under w2 0 (arr Z) Z s (fun _ _ => by rw [HZ.out]; simp) (by omega)).mono ?_
      rintro e w3 ⟨rfl, q3, rfl⟩
      obtain ⟨F0, hF0⟩ : ∃ F, F = fun b => Z b + cnt b s.data.toList := ⟨_, rfl⟩
      rw [← hF0]
      have HF0 : Hid (∀ b, F0 b = cnt b s.data.toList) := fun b => by rw [hF0, HZ.out]; simp
      clear hF0
      go_wp2_with fail
      go_loopw [8] (fun i wr => ∃ (j q : Nat) (F : Nat → Int), j ≤ n ∧ i = .int .i64 j ∧ wr = ((w2.alloc (.cells (arr F).toArray 37)).alloc (.cells (arr Z).toArray 37)).drewN q ∧ ∀ b, F b = cnt b s.data.toList + pc b ps j) (fun i _ => n - (intOf i).toNat)
      case atStart => exact ⟨0, q3, F0, Nat.zero_le _, rfl, rfl, fun b => by rw [HF0.out b]; simp [pc]⟩
      case round =>
        obtain ⟨j, q', F, hj, rfl, rfl, hF⟩ := hrel
        have HF : Hid (∀ b, F b = cnt b s.data.toList + pc b ps j) := hF
        have HFb : Hid (∀ b, 0 ≤ F b ∧ F b ≤ 2000000) := fun b => by
          have h1 := cnt_bound b s.data.toList
          have h2 := pc_bound b ps j (by rw [HL.out]; exact hj)
          have h3 := szs_take_le ps j
          have e : s.data.toList.length = s.size := by simp
          rw [hF b]; omega
        clear hF HF0
        have HBL : Hid (∀ A, Below w2.heap.size w2 ((w2.alloc (.cells (arr A).toArray 37)).alloc (.cells (arr Z).toArray 37))) := fun A => ((Below.refl _ _).alloc (Nat.le_refl _) _).alloc (by simp) _
        by_cases hlt : j < n
        · obtain ⟨x, k, v, rfl, E, _, _, c1, _⟩ := (HR2.out.below (HBL.out F)).at hlt
          have hkv := szs_le ps j (by rw [HL.out]; exact hlt) E
          have HE : Hid (_ = _) := E
          clear E
          go_wp2_with fail
          refine (tally_under w2 q' (arr Z) F k (fun b _ => by have := HFb.out b; omega) (by omega)).mono ?_
          rintro e w3 ⟨rfl, q3, rfl⟩
          clear c1
          obtain ⟨G, hG⟩ : ∃ G, G = fun b => F b + cnt b k.data.toList := ⟨_, rfl⟩
          rw [← hG]
          have HG : Hid (∀ b, G b = F b + cnt b k.data.toList) := fun b => by rw [hG]
          clear hG
          obtain ⟨x', k', v', ex, E', _, _, _, c2⟩ := (HR2.out.below (HBL.out G)).at hlt
          obtain rfl := Option.some.inj ex
          rw [HE.out] at E'
          obtain ⟨rfl, rfl⟩ := Prod.mk.inj E'
          clear ex E'
          go_wp2_with fail
          refine (tally_under w2 q3 (arr Z) G v (fun b _ => by have := HFb.out b; have h1 := cnt_bound b k.data.toList; have e : k.data.toList.length = k.size := (by simp); rw [HG.out b]; omega) (by omega)).mono ?_
          rintro e w3 ⟨rfl, q4, rfl⟩
          go_wp2_with fail
          go_roundw
          case rel => exact ⟨j + 1, q4, _, by omega, by go_num, rfl, fun b => by rw [HG.out b, HF.out b, pc, HE.out]; simp only; omega⟩
          case measure => simp [intOf]; omega
        · obtain rfl : j = n := by omega
          have h58 := arr_get F 58 (by decide)
          have h61 := arr_get F 61 (by decide)
          have h44 := arr_get F 44 (by decide)
          have b58 := HFb.out 58
          have b61 := HFb.out 61
          have b44 := HFb.out 44
          go_wp2_with fail
          · rw [set_under, set_under, set_under, arr_set, arr_set, arr_set]
            have hj0 : 0 < j := by assumption
            obtain ⟨G, hG⟩ : ∃ G : Nat → Int, G = fun x => if x = 44 then F 44 + (↑j - 1) else if x = 61 then F 61 + ↑j else if x = 58 then F 58 + 1 else F x := ⟨_, rfl⟩
            rw [← hG]
            have HG : Hid (∀ b, b < 256 → G b = cnt b O.data.toList) := fun b _ => by
              rw [hG, HO.out]
              simp only
              rw [cnt_name, HF.out, HF.out, HF.out, HF.out]
              by_cases e1 : b = 44
              · subst e1; simp; omega
              · by_cases e2 : b = 61
                · subst e2; simp
                · by_cases e3 : b = 58
                  · subst e3; simp
                  · simp [e1, e2, e3]
            clear hG h58 h61 h44 b58 b61 b44
            refine (tally_new (w2.alloc (.cells (arr G).toArray 37)) q' (w2.heap.size + 1) Z O (by simp) (fun _ _ => by rw [HZ.out]; simp) (by omega)).mono ?_
            rintro e w3 ⟨rfl, q4, rfl⟩
            obtain ⟨N, hN⟩ : ∃ N, N = fun b => Z b + cnt b O.data.toList := ⟨_, rfl⟩
            rw [← hN]
            have HN : Hid (∀ b, b < 256 → N b = G b) := fun b hb => by rw [hN, HG.out b hb, HZ.out]; simp
            clear hN
            go_wp2_with fail
            go_loopw [9] (fun i wr => ∃ (b q : Nat), b ≤ 256 ∧ i = .int .i64 b ∧ wr = ((w2.alloc (.cells (arr G).toArray 37)).alloc (.cells (arr N).toArray 37)).drewN q) (fun i _ => 256 - (intOf i).toNat)
            case atStart => exact ⟨0, q4, Nat.zero_le _, rfl, rfl⟩
            case round =>
              obtain ⟨b, q5, hb, rfl, rfl⟩ := hrel
              by_cases hb2 : b < 256
              · have g1 := arr_get G b hb2
                have g2 := arr_get N b hb2
                rw [HN.out b hb2] at g2
                go_wp2
                go_quiet (fail)
                go_wp2
                go_roundw
                case rel => exact ⟨b + 1, q5 + nq, by omega, by go_num, by simp⟩
                case measure => simp [intOf]; omega
              · obtain rfl : b = 256 := by omega
                go_wp2
                go_ret
                exact ⟨rfl, HB.out.trans (below_drewN ((((Below.refl w.heap.size w2).alloc HB.out.size _)).alloc (by have := HB.out.size; simp; omega) _) q5)⟩
          · rw [set_under, set_under, arr_set, arr_set]
            have hj0 : ¬ 0 < j := by assumption
            obtain ⟨G, hG⟩ : ∃ G : Nat → Int, G = fun x => if x = 61 then F 61 + ↑j else if x = 58 then F 58 + 1 else F x := ⟨_, rfl⟩
            rw [← hG]
            have HG : Hid (∀ b, b < 256 → G b = cnt b O.data.toList) := fun b _ => by
              rw [hG, HO.out]
              simp only
              rw [cnt_name, HF.out, HF.out, HF.out]
              have hj1 : j = 0 := by omega
              subst hj1
              by_cases e2 : b = 61
              · subst e2; simp
              · by_cases e3 : b = 58
                · subst e3; simp
                · simp [e2, e3]
            clear hG h58 h61 h44 b58 b61 b44
            refine (tally_new (w2.alloc (.cells (arr G).toArray 37)) q' (w2.heap.size + 1) Z O (by simp) (fun _ _ => by rw [HZ.out]; simp) (by omega)).mono ?_
            rintro e w3 ⟨rfl, q4, rfl⟩
            obtain ⟨N, hN⟩ : ∃ N, N = fun b => Z b + cnt b O.data.toList := ⟨_, rfl⟩
            rw [← hN]
            have HN : Hid (∀ b, b < 256 → N b = G b) := fun b hb => by rw [hN, HG.out b hb, HZ.out]; simp
            clear hN
            go_wp2_with fail
            go_loopw [9] (fun i wr => ∃ (b q : Nat), b ≤ 256 ∧ i = .int .i64 b ∧ wr = ((w2.alloc (.cells (arr G).toArray 37)).alloc (.cells (arr N).toArray 37)).drewN q) (fun i _ => 256 - (intOf i).toNat)
            case atStart => exact ⟨0, q4, Nat.zero_le _, rfl, rfl⟩
            case round =>
              obtain ⟨b, q5, hb, rfl, rfl⟩ := hrel
              by_cases hb2 : b < 256
              · have g1 := arr_get G b hb2
                have g2 := arr_get N b hb2
                rw [HN.out b hb2] at g2
                go_wp2
                go_quiet (fail)
                go_wp2
                go_roundw
                case rel => exact ⟨b + 1, q5 + nq, by omega, by go_num, by simp⟩
                case measure => simp [intOf]; omega
              · obtain rfl : b = 256 := by omega
                go_wp2
                go_ret
                exact ⟨rfl, HB.out.trans (below_drewN ((((Below.refl w.heap.size w2).alloc HB.out.size _)).alloc (by have := HB.out.size; simp; omega) _) q5)⟩
end Go.Proofs.Qxb6603898a
