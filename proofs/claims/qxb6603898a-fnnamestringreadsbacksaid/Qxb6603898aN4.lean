import Derived.Test.Qxb6603898aN3
namespace Go.Proofs.Qxb6603898a
open Go.RowKit

/-! ### ZZObjectNameString -/
def fillP (ps : List Pair) (n j : Nat) : List Value := flat (ps.take j) ++ List.replicate ((n - j) * 2) (.string ⟨#[]⟩)
theorem fillP_length (ps : List Pair) (n j : Nat) (h : ps.length = n) (hj : j ≤ n) : (fillP ps n j).length = n * 2 := by
  simp [fillP, flat_length]; omega
theorem fillP_set (ps : List Pair) (n j : Nat) (h : ps.length = n) (hj : j < n) {k v : ByteArray} (e : ps.getD j nopair = (k, v)) :
    ((fillP ps n j).set (j * 2) (.string k)).set (j * 2 + 1) (.string v) = fillP ps n (j + 1) := by
  have hl : (flat (ps.take j)).length = j * 2 := by rw [flat_length]; simp; omega
  have h1 : (n - j) * 2 = (n - (j + 1)) * 2 + 1 + 1 := by omega
  have h2 : ps.take (j + 1) = ps.take j ++ [(k, v)] := by
    rw [List.getD_eq_getElem?_getD, List.getElem?_eq_getElem (by omega), Option.getD_some] at e
    rw [List.take_add_one, List.getElem?_eq_getElem (by omega), e]; rfl
  rw [fillP, fillP, h1, List.replicate_succ, List.replicate_succ, h2, flat_append]
  simp [hl, flat]

theorem set_two (w : World) (F : List Value) (t : TypeId) (q i : Nat) (a b : Value) :
    (((w.alloc (.cells F.toArray t)).drewN q).setCell ⟨w.heap.size, i, none⟩ a).setCell ⟨w.heap.size, i + 1, none⟩ b = (w.alloc (.cells ((F.set i a).set (i + 1) b).toArray t)).drewN q := by
  have e : ∀ (W : World) (p : Addr) (v : Value), (W.drewN q).setCell p v = (W.setCell p v).drewN q := fun _ _ _ => rfl
  rw [e, e, World.setCell_alloc_new, World.setCell_alloc_new]
  simp

set_option maxHeartbeats 1000000 in
theorem zzname_some (s : ByteArray) (x : Addr) (n c : Nat) (ps : List Pair) (w : World) (hb : s.size + 32 * n + szs ps ≤ 1048576) (h : RowP w (some x) n ps) :
    Calls Try.prog 20 #[.string s, .slice (some x) n c] w fun e w' => e = .returned (.string ⟨(name s ps n).toArray⟩) ∧ Below w.heap.size w w' := by
  have HR : Hid (RowP w (some x) n ps) := h
  have HL : Hid (ps.length = n) := h.1
  clear h
  have hmk := fun w => run_make_two (P := Try.prog) w 46 48 _ (.string ⟨#[]⟩) 32 n Try.underlying46 Try.info48 rfl (by omega) (by omega)
  have hq := fun w n c => run_neq_slice_nil_any (P := Try.prog) w 32 _ (some x) n c 0 0 Try.underlying32
  go_enter Try.func20, Try.ntmps20
  go_wp2
  go_loopw [6] (fun i wr => ∃ j q : Nat, j ≤ n ∧ i = .int .i64 j ∧ wr = (w.alloc (.cells (fillP ps n j).toArray 48)).drewN q) (fun i _ => n - (intOf i).toNat)
  case atStart => exact ⟨0, 0, Nat.zero_le _, rfl, by simp [fillP, flat]; rfl⟩
  case round =>
    obtain ⟨j, q, hj, rfl, rfl⟩ := hrel
    by_cases hlt : j < n
    · have hbl : Below w.heap.size w (w.alloc (.cells (fillP ps n j).toArray 48)) := (Below.refl _ _).alloc (Nat.le_refl _) _
      obtain ⟨x', k, v, ex, E, _, _, c1, c2⟩ := (HR.out.below hbl).at hlt
      obtain rfl := Option.some.inj ex
      clear ex hbl
      have HE : Hid (_ = _) := E
      have HS : Hid (_ = _) := fillP_set ps n j HL.out hlt E
      have hlen := fillP_length ps n j HL.out hj
      clear E
      obtain ⟨z0, hz0⟩ : ∃ z0, (fillP ps n j)[j * 2]? = some z0 := ⟨_, List.getElem?_eq_getElem (by omega)⟩
      obtain ⟨z1, hz1⟩ : ∃ z1, (fillP ps n j)[j * 2 + 1]? = some z1 := ⟨_, List.getElem?_eq_getElem (by omega)⟩
      obtain ⟨F, hF⟩ : ∃ F, F = fillP ps n j := ⟨_, rfl⟩
      rw [← hF] at c1 c2 hlen hz0 hz1 HS ⊢
      clear hF
      go_wp2
      go_region
      go_wp2
      go_roundw
      case rel => exact ⟨j + 1, q + 1, by omega, by go_num, by rw [set_two, HS.out]⟩
      case measure => simp [intOf]; omega
    · obtain rfl : j = n := by omega
      have hrow : RowP ((w.alloc (.cells (fillP ps j j).toArray 48)).drewN q) (some ⟨w.heap.size, 0, none⟩) j ps := by
        have e : fillP ps j j = flat ps := by simp [fillP, List.take_of_length_le (Nat.le_of_eq HL.out)]
        have h1 := flat_row w ps 48 HR.out.2.1
        rw [HL.out] at h1
        rw [e]
        exact h1.below (below_drewN (Below.refl _ _) q)
      have HW : Hid (RowP _ _ _ _) := hrow
      clear hrow
      go_wp2_with fail
      refine (string_any s _ j j ps _ hb HW.out).mono ?_
      rintro e w1 ⟨rfl, hb1⟩
      go_wp2
      go_ret
      exact ⟨rfl, (below_drewN ((Below.refl w.heap.size w).alloc (Nat.le_refl _) _) q).trans (hb1.mono (by simp))⟩

set_option maxHeartbeats 1000000 in
theorem zzname_nil (s : ByteArray) (w : World) (hb : s.size ≤ 1048576) :
    Calls Try.prog 20 #[.string s, .slice none 0 0] w fun e w' => e = .returned (.string ⟨(name s [] 0).toArray⟩) ∧ Below w.heap.size w w' := by
  have hq := fun w n c => run_neq_slice_nil_any (P := Try.prog) w 32 _ none n c 0 0 Try.underlying32
  go_enter Try.func20, Try.ntmps20
  go_wp2
  go_loop [6] (fun i => i = .int .i64 0) (fun _ => 0)
  case atStart => rfl
  case round =>
    obtain rfl := hrel
    go_wp2_with fail
    refine (string_any s none 0 0 [] w (by simp [szs]; omega) ⟨rfl, by simp, .inl ⟨rfl, rfl⟩⟩).mono ?_
    rintro e w1 ⟨rfl, hb1⟩
    go_wp2
    go_ret
    exact ⟨rfl, hb1⟩
/-- ZZObjectNameString: the name. -/
theorem zzname_any (s : ByteArray) (a : Option Addr) (n c : Nat) (ps : List Pair) (w : World) (hcap : a = none → c = 0) (hb : s.size + 32 * n + szs ps ≤ 1048576) (h : RowP w a n ps) :
    Calls Try.prog 20 #[.string s, .slice a n c] w fun e w' => e = .returned (.string ⟨(name s ps n).toArray⟩) ∧ Below w.heap.size w w' := by
  cases a with
  | some x => exact zzname_some s x n c ps w hb h
  | none =>
    obtain ⟨h1, h2, ⟨_, rfl⟩ | ⟨x, e, _⟩⟩ := h
    · obtain rfl := List.eq_nil_of_length_eq_zero h1
      rw [hcap rfl]
      exact zzname_nil s w (by omega)
    · cases e
end Go.Proofs.Qxb6603898a
