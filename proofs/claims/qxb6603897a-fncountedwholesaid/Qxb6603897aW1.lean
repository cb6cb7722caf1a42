import Derived.Test.Qxb6603897aRows
import Derived.WalkKit
import Derived.WalkSpells
import Derived.LaidEqlPtr
import Derived.Lib.Builder
import Derived.Deep.Draws
namespace Go.Proofs.Qxb6603897a
open Go.RowKit

/-! ### THE PLAIN LAW: how three floats stand to one another -/
def cmpF (a b : Nat) : Option Ordering := FloatKind.f64.format.order a b
def leF (a b : Nat) : Bool := cmpF a b == some .lt || cmpF a b == some .eq
def geF (a b : Nat) : Bool := cmpF a b == some .gt || cmpF a b == some .eq

theorem signed_zero (up : Nat) : Ieee.signed false 0 up = 0 := by simp [Ieee.signed]
theorem compare_gt_or_eq {a b : Int} (h : b ≤ a) : (some (compare a b) == some .gt || some (compare a b) == some .eq) = true := by
  by_cases e : a = b
  · subst e; simp
  · have : compare a b = .gt := by rw [Int.compare_eq_gt]; omega
    rw [this]; rfl
/-- A number at or below nought has the sign, or is nought. -/
theorem signed_le {s : Bool} {n : Nat} {i pl : Int} (h : ((Ieee.Datum.number s n i).order (.number false 0 pl) == some .lt || (Ieee.Datum.number s n i).order (.number false 0 pl) == some .eq) = true) : s = true ∨ n = 0 := by
  cases s with
  | true => exact .inl rfl
  | false =>
    right
    simp only [Ieee.Datum.order, signed_zero] at h
    have h' : Ieee.signed false n (i - min i pl).toNat ≤ 0 := by
      rcases Int.lt_trichotomy (Ieee.signed false n (i - min i pl).toNat) 0 with h3 | h3 | h3
      · omega
      · omega
      · rw [Int.compare_eq_gt.2 h3] at h; simp at h
    simp only [Ieee.signed, Bool.false_eq_true, if_false, Nat.shiftLeft_eq] at h'
    rcases Nat.eq_zero_or_pos n with e | e
    · exact e
    · have : 0 < n * 2 ^ (i - min i pl).toNat := Nat.mul_pos e (Nat.two_pow_pos _)
      omega
theorem signed_ge {s : Bool} {n : Nat} {i pl : Int} (h : ((Ieee.Datum.number s n i).order (.number false 0 pl) == some .gt || (Ieee.Datum.number s n i).order (.number false 0 pl) == some .eq) = true) : s = false ∨ n = 0 := by
  cases s with
  | false => exact .inl rfl
  | true =>
    right
    simp only [Ieee.Datum.order, signed_zero] at h
    have h' : 0 ≤ Ieee.signed true n (i - min i pl).toNat := by
      rcases Int.lt_trichotomy (Ieee.signed true n (i - min i pl).toNat) 0 with h3 | h3 | h3
      · rw [Int.compare_eq_lt.2 h3] at h; simp at h
      · omega
      · omega
    simp only [Ieee.signed, if_true, Nat.shiftLeft_eq] at h'
    rcases Nat.eq_zero_or_pos n with e | e
    · exact e
    · have : 0 < n * 2 ^ (i - min i pl).toNat := Nat.mul_pos e (Nat.two_pow_pos _)
      omega
theorem number_ge (s : Bool) (n : Nat) (i : Int) (s' : Bool) (n' : Nat) (i' : Int) (h1 : s = true ∨ n = 0) (h2 : s' = false ∨ n' = 0) :
    ((Ieee.Datum.number s' n' i').order (.number s n i) == some .gt || (Ieee.Datum.number s' n' i').order (.number s n i) == some .eq) = true := by
  simp only [Ieee.Datum.order]
  apply compare_gt_or_eq
  have a1 : Ieee.signed s n (i - min i' i).toNat ≤ 0 := by
    rcases h1 with rfl | rfl
    · exact Int.neg_nonpos_of_nonneg (Int.natCast_nonneg _)
    · simp [Ieee.signed]
  have a2 : 0 ≤ Ieee.signed s' n' (i' - min i' i).toNat := by
    rcases h2 with rfl | rfl
    · exact Int.natCast_nonneg _
    · simp [Ieee.signed]
  omega

theorem ge_of_le_zero (m x : Nat) (h1 : leF m 0 = true) (h2 : geF x 0 = true) : geF x m = true := by
  unfold leF cmpF Ieee.Format.order at h1
  unfold geF cmpF Ieee.Format.order at h2 ⊢
  have h0 : FloatKind.f64.format.read 0 = .number false 0 FloatKind.f64.format.leastPlace := by decide
  rw [h0] at h1 h2
  generalize FloatKind.f64.format.leastPlace = pl at h1 h2
  generalize FloatKind.f64.format.read m = dm at h1 ⊢
  generalize FloatKind.f64.format.read x = dx at h2 ⊢
  cases dm with
  | nan => simp [Ieee.Datum.order] at h1
  | infinity s =>
    cases s with
    | false => simp [Ieee.Datum.order] at h1
    | true =>
      cases dx with
      | nan => simp [Ieee.Datum.order] at h2
      | infinity s' =>
        cases s' with
        | false => decide
        | true => simp [Ieee.Datum.order] at h2
      | number s' n j => simp [Ieee.Datum.order]
  | number s n i =>
    cases dx with
    | nan => simp [Ieee.Datum.order] at h2
    | infinity s' =>
      cases s' with
      | false => simp [Ieee.Datum.order]
      | true => simp [Ieee.Datum.order] at h2
    | number s' n' i' =>
      have a1 := signed_le h1
      have a2 := signed_ge h2
      exact number_ge s n i s' n' i' a1 a2

/-! ### two pointers held against each other -/
theorem info23 : (Try.prog.info? 23).map (fun i => i.size) = some 1 := by kernel_rfl
theorem cell_lt {w : World} {a : Addr} {v : Value} (h : w.cell? a = some v) : a.block < w.heap.size := by
  unfold World.cell? at h
  by_cases hb : a.block < w.heap.size
  · exact hb
  · rw [Array.getElem?_eq_none (by omega)] at h
    simp at h
theorem shape_of {w : World} {a : Addr} {v : Value} (h : w.cell? a = some v) : ∃ s, w.shape? a.block = some s := by
  unfold World.cell? at h
  unfold World.shape?
  split at h
  · exact ⟨_, rfl⟩
  · cases h
def OkB (w : World) (x : Result Bool) : Prop := ∃ (r : Bool) (k : Nat), x = .ok r (w.drewN k)
theorem eql_ptr_any (w : World) (a b : Addr) (ca cb : Value) (ha : w.cell? a = some ca) (hb : w.cell? b = some cb) (fa : w.frozen? a = false) :
    ∃ (r : Bool) (k : Nat), (binOp .eql 22 (.pointer (some a)) (.pointer (some b))).run Try.prog w = .ok (.bool r) (w.drewN k) := by
  obtain ⟨j, hj, hjs⟩ := Option.map_eq_some_iff.1 info23
  have h : OkB w ((sameAddr a b).run Try.prog w) := by
    by_cases e : a.block = b.block
    · exact ⟨a == b, 0, by simp [sameAddr, e, World.drewN_zero]⟩
    · obtain ⟨sa, hsa⟩ := shape_of ha
      obtain ⟨sb, hsb⟩ := shape_of hb
      simp [sameAddr, e, fa, noView, viewAt, hsa, hsb, mayBeOne, stringish]
      repeat' split
      all_goals first | exact ⟨_, 0, rfl⟩ | exact ⟨_, 1, rfl⟩
  obtain ⟨r, k, h⟩ := h
  refine ⟨r, k, ?_⟩
  have h' : ∀ d : Nat, (Op.equalIn (d + 1) 22 (.pointer (some a)) (.pointer (some b))).run Try.prog w = .ok r (w.drewN k) := fun d => by
    simp [Op.equalIn, run_underlying Try.underlying22, sizeOf, typeInfo, hj, hjs, h]
  simp only [binOp]
  simp [Op.equal, Op.maxDepth, h' 9999]

/-! ### qb1Bounds, counted -/
theorem bounds_any (p q : Option Addr) (x y : Bool) (w : World) :
    Calls Try.prog 5 #[.pointer p, .pointer q, .bool x, .bool y] w fun e w' => e = .returned (.agg #[.pointer p, .pointer q, .bool x, .bool y]) ∧ w' = w.alloc (.cells #[.pointer p, .pointer q, .bool x, .bool y] 27) := by
  go_enter Try.func5, Try.ntmps5
  go_wp2
  exact bodyPost_ret (v := .agg #[.pointer p, .pointer q, .bool x, .bool y]) (by simp [results, Try.results5, go_sem]) rfl ⟨rfl, rfl⟩

/-! ### floats held against each other: the walk is given these four under names that do not unfold -/
def ltF (a b : Nat) : Bool := cmpF a b == some .lt
def gtF (a b : Nat) : Bool := cmpF a b == some .gt
theorem run_leq (w : World) (a b : Nat) : (binOp .leq 23 (.float .f64 a) (.float .f64 b)).run Try.prog w = .ok (.bool (leF a b)) w := by simp [binOp, Op.floatCmp, leF, cmpF]
theorem run_geq (w : World) (a b : Nat) : (binOp .geq 23 (.float .f64 a) (.float .f64 b)).run Try.prog w = .ok (.bool (geF a b)) w := by simp [binOp, Op.floatCmp, geF, cmpF]
theorem run_lss (w : World) (a b : Nat) : (binOp .lss 23 (.float .f64 a) (.float .f64 b)).run Try.prog w = .ok (.bool (ltF a b)) w := by simp [binOp, Op.floatCmp, ltF, cmpF]
theorem run_gtr (w : World) (a b : Nat) : (binOp .gtr 23 (.float .f64 a) (.float .f64 b)).run Try.prog w = .ok (.bool (gtF a b)) w := by simp [binOp, Op.floatCmp, gtF, cmpF]

/-- An end of the bounds: nil, or a pointer to a float. -/
def End (w : World) (p : Option Addr) (m : Option Nat) : Prop :=
  (p = none ∧ m = none) ∨ ∃ b o f, p = some ⟨b, o, none⟩ ∧ m = some f ∧ w.cell? ⟨b, o, none⟩ = some (.float .f64 f)
theorem End.below {w w' : World} {p : Option Addr} {m : Option Nat} (h : End w p m) (hb : Below w.heap.size w w') : End w' p m := by
  rcases h with h | ⟨b, o, f, h1, h2, h3⟩
  · exact .inl h
  · refine .inr ⟨b, o, f, h1, h2, (hb.cell ?_).trans h3⟩
    rcases Nat.lt_or_ge b w.heap.size with h' | h'
    · exact h'
    · simp [World.cell?, Array.getElem?_eq_none h'] at h3

/-- What 'counted' makes of the lower end. -/
def cut (p : Option Addr) (m : Option Nat) : Option Addr := match m with | some f => if leF f 0 then none else p | none => p
def cutM (m : Option Nat) : Option Nat := match m with | some f => if leF f 0 then none else some f | none => none
theorem End.cut {w : World} {p : Option Addr} {m : Option Nat} (h : End w p m) : End w (cut p m) (cutM m) := by
  rcases h with ⟨rfl, rfl⟩ | ⟨b, o, f, rfl, rfl, h3⟩
  · exact .inl ⟨rfl, rfl⟩
  · cases e : leF f 0
    · exact .inr ⟨b, o, f, by simp [Qxb6603897a.cut, e], by simp [cutM, e], h3⟩
    · exact .inl ⟨by simp [Qxb6603897a.cut, e], by simp [cutM, e]⟩

set_option maxHeartbeats 400000 in
theorem counted_any (p q : Option Addr) (m : Option Nat) (x y : Bool) (w : World) (h : End w p m) :
    Calls Try.prog 8 #[.agg #[.pointer p, .pointer q, .bool x, .bool y]] w fun e w' => e = .returned (.agg #[.pointer (cut p m), .pointer q, .bool x, .bool y]) ∧ ∃ c1 c2 : Array Value, w' = (w.alloc (.cells c1 27)).alloc (.cells c2 27) := by
  have hle := run_leq
  rcases h with ⟨rfl, rfl⟩ | ⟨b, o, f, rfl, rfl, hc⟩
  · go_enter Try.func8, Try.ntmps8
    go_wp2
    exact bodyPost_ret (v := .agg #[.pointer none, .pointer q, .bool x, .bool y]) (by simp [results, Try.results8, go_sem]) rfl ⟨rfl, _, _, rfl⟩
  · have hcx : ∀ o1 o2, ((w.alloc o1).alloc o2).cell? ⟨b, o, none⟩ = some (.float .f64 f) := fun o1 o2 => by
      rw [← hc]; exact ((((Below.refl w.heap.size w).alloc (Nat.le_refl _) o1).alloc (by simp) o2).cell (cell_lt hc))
    cases e : leF f 0
    · go_enter Try.func8, Try.ntmps8
      go_wp2
      exact bodyPost_ret (v := .agg #[.pointer (some ⟨b, o, none⟩), .pointer q, .bool x, .bool y]) (by simp [results, Try.results8, go_sem]) rfl ⟨by simp [cut, e], _, _, rfl⟩
    · go_enter Try.func8, Try.ntmps8
      go_wp2
      exact bodyPost_ret (v := .agg #[.pointer none, .pointer q, .bool x, .bool y]) (by simp [results, Try.results8, go_sem]) rfl ⟨by simp [cut, e], _, _, rfl⟩

set_option maxHeartbeats 400000 in
theorem zz_any (p q : Option Addr) (m : Option Nat) (x y : Bool) (w : World) (h : End w p m) :
    Calls Try.prog 6 #[.agg #[.pointer p, .pointer q, .bool x, .bool y]] w fun e w' => e = .returned (.agg #[.pointer (cut p m), .pointer q, .bool x, .bool y]) ∧
      ∃ c1 c2 c3 c4 : Array Value, w' = (((w.alloc (.cells c1 27)).alloc (.cells c2 27)).alloc (.cells c3 27)).alloc (.cells c4 27) := by
  go_enter Try.func6, Try.ntmps6
  go_wp2_with fail
  refine (counted_any p q m x y _ (h.below (((Below.refl _ _).alloc (Nat.le_refl _) _).alloc (by simp) _))).mono ?_
  rintro e w' ⟨rfl, c1, c2, rfl⟩
  go_wp2
  exact bodyPost_ret (v := .agg #[.pointer (cut p m), .pointer q, .bool x, .bool y]) (by simp [results, Try.results6, go_sem]) rfl ⟨rfl, _, _, _, _, rfl⟩

/-- What 'qb1Admits' answers. -/
def adm (m n : Option Nat) (x y : Bool) (v : Nat) : Bool :=
  (match m with | some f => if x then gtF v f else geF v f | none => true) && (match n with | some f => if y then ltF v f else leF v f | none => true)

set_option maxHeartbeats 1000000 in
theorem admits_any (p q : Option Addr) (m n : Option Nat) (x y : Bool) (v : Nat) (w : World) (h : End w p m) (k : End w q n) :
    Calls Try.prog 7 #[.agg #[.pointer p, .pointer q, .bool x, .bool y], .float .f64 v] w fun e w' => e = .returned (.bool (adm m n x y v)) ∧ w' = w.alloc (.cells #[.pointer p, .pointer q, .bool x, .bool y] 27) := by
  have hle := run_leq
  have hge := run_geq
  have hlt := run_lss
  have hgt := run_gtr
  have kk := k.below ((Below.refl w.heap.size w).alloc (Nat.le_refl _) (.cells #[.pointer p, .pointer q, .bool x, .bool y] 27))
  have hh := h.below ((Below.refl w.heap.size w).alloc (Nat.le_refl _) (.cells #[.pointer p, .pointer q, .bool x, .bool y] 27))
  clear h k
  rcases hh with ⟨rfl, rfl⟩ | ⟨b, o, f, rfl, rfl, hc⟩ <;> rcases kk with ⟨rfl, rfl⟩ | ⟨b', o', f', rfl, rfl, hc'⟩ <;> cases x <;> cases y
  all_goals
    go_enter Try.func7, Try.ntmps7
    go_wp2
    all_goals (go_ret; exact ⟨by simp_all [adm], rfl⟩)
end Go.Proofs.Qxb6603897a
