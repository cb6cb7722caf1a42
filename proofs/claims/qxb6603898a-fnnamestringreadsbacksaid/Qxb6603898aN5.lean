import Derived.Test.Qxb6603898aN4
namespace Go.Proofs.Qxb6603898a
open Go.RowKit

theorem RowP.drewN {w : World} {a : Option Addr} {n : Nat} {ps : List Pair} (h : RowP w a n ps) (q : Nat) : RowP (w.drewN q) a n ps := h.below (below_drewN (Below.refl _ _) q)
theorem RowP.take {w : World} {a : Option Addr} {n : Nat} {ps : List Pair} (h : RowP w a n ps) {r : Nat} (hr : r ≤ n) : RowP w a r (ps.take r) := by
  obtain ⟨h1, h2, ⟨e, h⟩ | ⟨x, e, h3⟩⟩ := h
  · exact ⟨by simp; omega, fun p hp => h2 p (List.mem_of_mem_take hp), .inl ⟨e, by omega⟩⟩
  · refine ⟨by simp; omega, fun p hp => h2 p (List.mem_of_mem_take hp), .inr ⟨x, e, fun i hi => ?_⟩⟩
    have e : (ps.take r).getD i nopair = ps.getD i nopair := by rw [List.getD_eq_getElem?_getD, List.getD_eq_getElem?_getD, List.getElem?_take, if_pos hi]
    rw [e]
    exact h3 i (by omega)

theorem part_take (ps : List Pair) (r n : Nat) (h : n ≤ r) : part (ps.take r) n = part ps n := by
  induction n with
  | zero => rfl
  | succ n ih =>
    have e : (ps.take r).getD n nopair = ps.getD n nopair := by rw [List.getD_eq_getElem?_getD, List.getD_eq_getElem?_getD, List.getElem?_take, if_pos (by omega)]
    rw [part, part, ih (by omega), seg, seg, e]
theorem name_take (s : ByteArray) (ps : List Pair) (r n : Nat) (h : n ≤ r) : name s (ps.take r) n = name s ps n := by rw [name, name, part_take ps r n h]
theorem beq_true {A B : ByteArray} (h : A.data.toList = B.data.toList) : (A.toList == B.toList) = true := by
  have : A = B := by cases A; cases B; simp_all
  rw [this]; exact beq_self_eq_true _

theorem ret_bool {b : Bool} (h : b = true) : Ending.returned (.bool b) = .returned (.bool true) := by rw [h]

set_option maxHeartbeats 1000000 in
theorem extends_law (s : ByteArray) (a : Option Addr) (n c : Nat) (ps : List Pair) (w : World) (hs : s.size ≤ 9223372036854775807) (hn : n ≤ 9223372036854775807) (hcap : a = none → c = 0) (h : RowP w a n ps) :
    Calls Try.prog 6 #[.string s, .slice a n c] w fun e w' => e = .returned (.bool true) ∧ Below w.heap.size w w' := by
  have HL : Hid (ps.length = n) := h.1
  have HC : Hid (a = none → c = 0) := hcap
  have HR : Hid (RowP w a n ps) := h
  clear h hcap
  go_enter Try.func6, Try.ntmps6
  go_wp2_with fail
  refine (bytes17 s a n c ps w hs hn HR.out).mono ?_
  rintro e w' ⟨⟨b, rfl, hb⟩, hw⟩
  obtain rfl : w = w' := hw.symm
  cases b with
  | false =>
    clear hb
    go_wp2_with fail
    go_ret
    exact ⟨rfl, Below.refl _ _⟩
  | true =>
    have hb1 := hb rfl
    clear hb hw
    go_wp2_with fail
    refine (tooBig_any s a n c ps w hb1 HR.out).mono ?_
    rintro e w' ⟨⟨b, rfl, hb⟩, q, rfl⟩
    cases b with
    | true =>
      clear hb
      go_wp2_with fail
      go_ret
      exact ⟨rfl, below_drewN (Below.refl _ _) q⟩
    | false =>
      have hb2 := hb rfl
      clear hb
      go_wp2_with fail
      refine (pairs_any a n c ps _ HC.out (HR.out.drewN q) (by omega)).mono ?_
      rintro e w1 ⟨a', c', rfl, hc', hcap', hR1, hbe1⟩
      have HR1 : Hid (RowP w1 a' n ps) := hR1
      have HC1 : Hid (a' = none → c' = 0) := hcap'
      clear hR1 hcap'
      go_wp2_with fail
      refine (zzname_any s a' n c' ps w1 HC1.out hb2 HR1.out).mono ?_
      rintro e w2 ⟨rfl, hbe2⟩
      obtain ⟨O, hO⟩ : ∃ O : ByteArray, O = ⟨(name s ps n).toArray⟩ := ⟨_, rfl⟩
      rw [← hO]
      have HO : Hid (O = _) := hO
      clear hO
      have HB : Hid (Below w.heap.size w w2) := (below_drewN (Below.refl _ _) q).trans (hbe1.trans (hbe2.mono (by have := hbe1.size; simpa using this)))
      have HR2 : Hid (RowP w2 a' n ps) := HR1.out.below hbe2
      clear hbe1 hbe2
      by_cases hn0 : n = 0
      · subst hn0
        go_wp2_with fail
        go_ret
        exact ⟨ret_bool (beq_true (by rw [HO.out]; simp [name, part])), HB.out⟩
      · obtain ⟨m, rfl⟩ : ∃ m, n = m + 1 := ⟨n - 1, by omega⟩
        obtain ⟨x, k, v, rfl, E, hk, hv, _, _⟩ := HR2.out.at (show m < m + 1 by omega)
        have HE : Hid (_ = _) := E
        have hkv := szs_le ps m (by rw [HL.out]; omega) E
        clear E
        go_wp2_with fail
        refine (zzname_any s (some x) m c' (ps.take m) w2 (fun h => by cases h) (by have := szs_take_le ps m; omega) (HR2.out.take (by omega))).mono ?_
        rintro e w3 ⟨rfl, hbe3⟩
        rw [name_take s ps m m (Nat.le_refl _)]
        obtain ⟨O', hO'⟩ : ∃ O : ByteArray, O = ⟨(name s ps m).toArray⟩ := ⟨_, rfl⟩
        rw [← hO']
        have HO' : Hid (O' = _) := hO'
        have hOs : O'.size ≤ 3000000 := by
          have e : O'.size = (name s ps m).length := by rw [hO']; rfl
          have := name_len s ps m (by rw [HL.out]; omega)
          have := szs_take_le ps m
          omega
        clear hO'
        obtain ⟨x', k', v', ex, E, _, _, c1, c2⟩ := (HR2.out.below hbe3).at (show m < m + 1 by omega)
        obtain rfl := Option.some.inj ex
        have E0 := HE.out
        rw [E] at E0
        obtain ⟨rfl, rfl⟩ := Prod.mk.inj E0
        clear E E0 ex
        have HB3 : Hid (Below w.heap.size w w3) := HB.out.trans (hbe3.mono HB.out.size)
        clear hbe3
        go_wp2_with fail
        all_goals go_quiet (fail)
        all_goals go_wp2
        · have hm : 1 < (m : Int) + 1 := by assumption
          go_ret
          exact ⟨ret_bool (beq_true (by rw [HO.out, HO'.out]; simp only [name, part, seg, HE.out]; simp [(show m ≠ 0 by omega)])), below_drewN HB3.out _⟩
        · have hm : (m : Int) + 1 ≤ 1 := by assumption
          obtain rfl : m = 0 := by omega
          go_ret
          exact ⟨ret_bool (beq_true (by rw [HO.out, HO'.out]; simp only [name, part, seg, HE.out]; simp)), below_drewN HB3.out _⟩
end Go.Proofs.Qxb6603898a
