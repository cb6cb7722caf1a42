import Derived.Test.Qxb6603898aW3
namespace Go.Proofs.Qxb6603898a
open Go.RowKit

theorem take_drop' (zs : List Int) (i v : Nat) : (zs.take (i + v)).drop i = (zs.drop i).take v := by
  rw [List.drop_take]; congr 1; omega

set_option maxHeartbeats 1000000 in
theorem trunc_law (a : Option Addr) (n cap : Nat) (zs : List Int) (i : Int) (w : World) (h : RowB w a n zs) (hcap : a = none → cap = 0) (hm : n ≤ maxLen) (hi : -9223372036854775808 ≤ i ∧ i ≤ 9223372036854775807) :
    Calls Try.prog 4 #[.slice a n cap, .int .i64 i] w fun e w' => e = .returned (.bool true) ∧ Below w.heap.size w w' := by
  have HM : Hid (n ≤ maxLen) := hm
  unfold maxLen at hm
  go_enter Try.func4, Try.ntmps4
  go_wp2_with fail
  refine (bytes13 a n cap i w HM.out).mono ?_
  rintro e w' ⟨⟨b, rfl⟩, hw⟩
  obtain rfl : w = w' := hw.symm
  cases b
  · go_wp2
    go_ret
    exact ⟨rfl, Below.refl _ _⟩
  by_cases g1 : n ≤ 1048576
  rotate_left
  · go_wp2
    go_ret
    exact ⟨rfl, Below.refl _ _⟩
  by_cases g2 : i < 0
  · go_wp2
    go_ret
    exact ⟨rfl, Below.refl _ _⟩
  by_cases g3 : (n : Int) < i
  · go_wp2
    go_ret
    exact ⟨rfl, Below.refl _ _⟩
  obtain ⟨k, rfl⟩ := Int.eq_ofNat_of_zero_le (Int.not_lt.1 g2)
  have hk : k ≤ n := by omega
  clear g2 g3 hi
  go_wp2_with fail
  refine (copy_any a n cap zs w hcap h g1).mono ?_
  rintro e W ⟨a', c', rfl, hc', hr, hb⟩
  have hv := vLen_le (zs.drop k)
  have HL : Hid (zs.length = n) := hr.1
  rw [List.length_drop, HL.out] at hv
  go_wp2_with fail
  refine (zzEnd_any a' n c' k zs W hr g1 hk).mono ?_
  rintro e w' ⟨rfl, hw⟩
  obtain rfl : W = w' := hw.symm
  by_cases hlt : k < n
  · obtain ⟨x, rfl, hc⟩ := hr.cell hlt
    have hd := drop_cons zs k (by rw [HL.out]; exact hlt)
    obtain ⟨c, hcc⟩ : ∃ c, c = zs.getD k 0 := ⟨_, rfl⟩
    rw [← hcc] at hc hd
    have hp : (c = 34 ∨ c = 91 ∨ c = 123) → 0 < vLen (zs.drop k) := fun h => by rw [hd]; exact vLen_pos c _ h
    have HT : Hid (vLen ((zs.take (k + vLen (zs.drop k))).drop k) = vLen (zs.drop k)) := by rw [take_drop', vLen_take]; exact rfl
    obtain ⟨v, hvv⟩ : ∃ v, v = vLen (zs.drop k) := ⟨_, rfl⟩
    rw [← hvv] at HT hp hv ⊢
    clear hvv hcc hd
    go_wp2_with fail
    all_goals
      refine (zzEnd_any (some x) (k + v) c' k (zs.take (k + v)) W (hr.take (by omega)) (by omega) (by omega)).mono ?_
      rintro e w' ⟨rfl, hw⟩
      obtain rfl : W = w' := hw.symm
      rw [HT.out]
      go_wp2
      go_ret
      exact ⟨rfl, hb⟩
  · obtain rfl : k = n := by omega
    have e0 : vLen (zs.drop k) = 0 := by omega
    rw [e0]
    have HT : Hid (vLen ((zs.take k).drop k) = 0) := by rw [List.drop_eq_nil_of_le (by simp; omega)]; exact rfl
    go_wp2_with fail
    refine (zzEnd_any a' k c' k (zs.take k) W (hr.take (Nat.le_refl _)) g1 (Nat.le_refl _)).mono ?_
    rintro e w' ⟨rfl, hw⟩
    obtain rfl : W = w' := hw.symm
    rw [HT.out]
    go_wp2
    go_ret
    exact ⟨rfl, hb⟩
end Go.Proofs.Qxb6603898a
