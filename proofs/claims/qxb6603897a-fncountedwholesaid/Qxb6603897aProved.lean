import Derived.Test.Qxb6603897aW2
import Derived.ProofKit
import Derived.OpenShut
import Derived.ChangeOld
namespace Go.Proofs.Qxb6603897a.fnCountedWhole
open Go.ChangeShapes Go.WideShapes Go.ChangeAt Go.RowKit
set_option linter.unusedVariables false

theorem own : ownKnob Try.prog.godebug = none := by kernel_rfl
theorem laidOut : laidOutB Try.prog = true := by kernel_rfl
theorem cells23 : Try.prog.cellsOf 23 = 1 := by kernel_rfl

theorem trod_float {H : Type} {enc : TypeId × Value → H} {w : World} {base : Nat} {spare : Nat → Bool} {held : Bool} {fuel : Nat} {cs : List Value} {x : DataW H × List MemPlace}
    (h : DataW.trod enc Try.prog w base spare held fuel 23 cs = some x) : ∃ f, cs = [.float .f64 f] := by
  cases fuel with
  | zero => simp [DataW.trod] at h
  | succ m =>
    unfold DataW.trod at h
    rw [Try.underlying23] at h
    split at h <;> simp_all

theorem okWide_float {w : World} {r : Reach} {base : Nat} {v : Value} (h : Value.okWide Try.prog w r base 23 v) : ∃ f, v = .float .f64 f := by
  simp only [Value.okWide, Try.underlying23, Cell.okWide] at h
  cases v <;> simp_all [Cell.ok]

set_option maxRecDepth 100000 in
theorem lifted (os : Os) (started : os.Started) (H : Type) (enc : TypeId × Value → H) :
    ReturnsInHanded {} Try.checked os 3 .any (Rows.fnCountedWholeSpec.pre6 enc Try.prog Try.f3 Rows.fnCountedWholeRow.domain false) (Rows.fnCountedWholeSpec.post enc Try.prog Try.f3 false true false false) := by
  refine returnsInHanded_of_change (C := Try.checked) own started (by kernel_rfl) Try.func3
    (ChangeSpec.witness6 (enc := enc) (C := Try.checked) false ⟨#[], #[.pointer none, .pointer none, .bool false, .bool false, .float .f64 0], []⟩ 8 (by kernel_rfl) (by kernel_rfl) (by kernel_rfl) (by kernel_rfl)) ?_
  intro W base args ds gs before hval0 hW hcnd _
  have hval : ∀ (j : Nat) t v, Try.f3.params[j]? = some t → args[j]? = some v → Value.okWide Try.prog W .any base t v := hval0
  have hW' := hW
  obtain ⟨p, q, hA0, hV, rfl, hfz, hnd⟩ := hW
  have hA : DataW.TrodAll enc Try.prog W 0 (fun _ => true) true Try.f3.params.toList args.toList ds p := hA0
  rw [Try.params3] at hA hval
  obtain ⟨v0, vs0, d0, ds0, p0, q0, hargs, rfl, rfl, h0, r0⟩ := trodAll_cons hA
  obtain ⟨v1, vs1, d1, ds1, p1, q1, rfl, rfl, rfl, h1, r1⟩ := trodAll_cons r0
  obtain ⟨v2, vs2, d2, ds2, p2, q2, rfl, rfl, rfl, h2, r2⟩ := trodAll_cons r1
  obtain ⟨v3, vs3, d3, ds3, p3, q3, rfl, rfl, rfl, h3, r3⟩ := trodAll_cons r2
  obtain ⟨v4, vs4, d4, ds4, p4, q4, rfl, rfl, rfl, h4, r4⟩ := trodAll_cons r3
  obtain ⟨rfl, rfl, rfl⟩ := trodAll_nil r4
  obtain rfl : args = #[v0, v1, v2, v3, v4] := by cases args; simp_all
  obtain ⟨rfl, rfl⟩ := trodVars_none hV
  have k0 := h0
  have k1 := h1
  have k4 := h4
  have lt0 : ∀ x ∈ p0, x.block < W.heap.size := by obtain ⟨m, hm⟩ := k0; exact DataW.trod_lt m _ _ _ hm
  have lt1 : ∀ x ∈ p1, x.block < W.heap.size := by obtain ⟨m, hm⟩ := k1; exact DataW.trod_lt m _ _ _ hm
  have lt4 : ∀ x ∈ p4, x.block < W.heap.size := by obtain ⟨m, hm⟩ := k4; exact DataW.trod_lt m _ _ _ hm
  obtain ⟨a0, rfl⟩ := okWide_pointer Try.underlying22 (hval 0 22 v0 rfl rfl)
  obtain ⟨a1, rfl⟩ := okWide_pointer Try.underlying22 (hval 1 22 v1 rfl rfl)
  obtain ⟨x2, rfl, rfl, rfl⟩ := open_bool Try.underlying4 (hval 2 4 v2 rfl rfl) h2
  obtain ⟨x3, rfl, rfl, rfl⟩ := open_bool Try.underlying4 (hval 3 4 v3 rfl rfl) h3
  obtain ⟨f4, rfl⟩ := okWide_float (hval 4 23 v4 rfl rfl)
  have w0 : ArgP W a0 := by
    rcases open_ptr Try.underlying22 (by rw [cells23]; omega) (hval 0 22 _ rfl rfl) h0 with ⟨e, _, _⟩ | ⟨b, off, cs, y, fuel, e, rfl, rfl, hlen, hcell, hy⟩
    · cases e; exact .inl rfl
    · cases e
      obtain ⟨f, rfl⟩ := trod_float hy
      have hc := hcell 0 (by rw [cells23]; omega)
      exact .inr ⟨b, off, f, rfl, by simpa using hc, hfz b off (by simp [cells23, row_one])⟩
  have w1 : ArgP W a1 := by
    rcases open_ptr Try.underlying22 (by rw [cells23]; omega) (hval 1 22 _ rfl rfl) h1 with ⟨e, _, _⟩ | ⟨b, off, cs, y, fuel, e, rfl, rfl, hlen, hcell, hy⟩
    · cases e; exact .inl rfl
    · cases e
      obtain ⟨f, rfl⟩ := trod_float hy
      have hc := hcell 0 (by rw [cells23]; omega)
      exact .inr ⟨b, off, f, rfl, by simpa using hc, hfz b off (by simp [cells23, row_one])⟩
  clear hA0 hval0
  refine (law a0 a1 x2 x3 f4 W w0 w1).mono fun e W' ⟨he, bel⟩ => ?_
  subst he
  exact ⟨_, rfl, _, _, _, [], _, [], hW', trodAll_mk1 (shut_bool Try.underlying4 _), (trodAll_cons_mk (Below.trod laidOut (by kernel_rfl) (of_decide_eq_true (by kernel_rfl)) k0 bel lt0) (trodAll_cons_mk (Below.trod laidOut (by kernel_rfl) (of_decide_eq_true (by kernel_rfl)) k1 bel lt1) (trodAll_cons_mk (shut_bool Try.underlying4 _) (trodAll_cons_mk (shut_bool Try.underlying4 _) (trodAll_cons_mk (Below.trod laidOut (by kernel_rfl) (of_decide_eq_true (by kernel_rfl)) k4 bel lt4) trodAll_mk0))))), rfl, bel.frame _, fun h => by cases h⟩

theorem over : Rows.fnCountedWholeRow.holds Try.pinned (OpenSpec.ofChange Rows.fnCountedWholeSpec) :=
  OpenClaim.holds_of_wide 3 Try.f3 rfl rfl rfl rfl rfl rfl rfl ⟨rfl, rfl, rfl, rfl, rfl⟩ rfl rfl rfl rfl rfl (by kernel_rfl) Try.func3 (by kernel_rfl)
    (of_decide_eq_true (by kernel_rfl)) (by unfold Func.isWrapper; first | (rw [if_pos (by decide +kernel)]; kernel_rfl) | (rw [if_neg (by decide +kernel)]; exact ⟨rfl, rfl⟩))
    (fun os started H enc _ => lifted os started H enc)

/-- ████ THE STATEMENT ████ -/
theorem proved : Rows.FnCountedWholeSaid := over
#print axioms proved
end Go.Proofs.Qxb6603897a.fnCountedWhole
