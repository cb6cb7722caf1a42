import Derived.Test.Qxb6603898aN3
import Derived.ProofKit
import Derived.OpenShut
import Derived.ShutString
import Derived.ChangeOld
import Derived.SliceStrings
import Derived.Deep.Slices
namespace Go.Proofs.Qxb6603898a
open Go.RowKit

/-- An argument of [][2]string, opened. -/
theorem open_pairs {H : Type} {enc : TypeId × Value → H} {w : World} {base fuel : Nat} {spare : Nat → Bool} {held : Bool} {cs : List Value} {x : DataW H × List MemPlace}
    (h : DataW.trod enc Try.prog w base spare held fuel 32 cs = some x) :
    ∃ (a : Option Addr) (len cap : Nat) (ps : List Pair), cs = [.slice a len cap] ∧ len ≤ maxLen ∧ (a = none → cap = 0) ∧ RowP w a len ps := by
  have hc : Try.prog.cellsOf 36 = 2 := by kernel_rfl
  have hc9 : Try.prog.cellsOf 9 = 1 := by kernel_rfl
  have hc36 : Try.prog.underlying 36 = some (.array 2 9) := Try.underlying36
  rcases DataW.trod_slice Try.underlying32 h with ⟨rfl, _⟩ | ⟨a, len, cap, elems, rest, n, _, rfl, rfl, hb, hl, hm, hlen, hel, _, _⟩
  · exact ⟨none, 0, 0, [], rfl, Nat.zero_le _, fun _ => rfl, rfl, by simp, .inl ⟨rfl, rfl⟩⟩
  have each : ∀ i, i < len → ∃ p : Pair, p.1.size ≤ maxLen ∧ p.2.size ≤ maxLen ∧ w.cell? (a.add (i * 2)) = some (.string p.1) ∧ w.cell? ⟨(a.add (i * 2)).block, (a.add (i * 2)).off + 1, none⟩ = some (.string p.2) := by
    intro i hi
    have h1 := hel i hi
    rw [hc, List.getElem?_eq_getElem (by omega), Option.bind_eq_some_iff] at h1
    obtain ⟨cs', hcs, hy⟩ := h1
    obtain ⟨xs, m, _, _, hcl, hxl, hxs⟩ := DataW.trod_array hc36 hy
    unfold World.cells? at hcs
    split at hcs
    · have r2 : List.range 2 = [0, 1] := rfl
      rw [r2] at hcs
      cases h0 : w.cell? ((a.add (i * 2)).add 0) with
      | none => simp [h0] at hcs
      | some c0 =>
        cases h1 : w.cell? ((a.add (i * 2)).add 1) with
        | none => simp [h0, h1] at hcs
        | some c1 =>
          simp [h0, h1] at hcs
          subst hcs
          have x0 := hxs 0 (by decide)
          have x1 := hxs 1 (by decide)
          rw [hc9] at x0 x1
          rw [List.getElem?_eq_getElem (by omega)] at x0 x1
          simp at x0 x1
          obtain ⟨s0, e0, _, z0⟩ := DataW.trod_string Try.underlying9 x0
          obtain ⟨s1, e1, _, z1⟩ := DataW.trod_string Try.underlying9 x1
          simp at e0 e1
          subst e0 e1
          exact ⟨(s0, s1), z0, z1, h0, h1⟩
    · cases hcs
  obtain ⟨f, hf⟩ := Go.Deep.choose_lt each
  refine ⟨some a, len, cap, (List.range len).map f, rfl, by omega, (fun h => by cases h), by simp, fun p hp => ?_, .inr ⟨a, rfl, fun i hi => ?_⟩⟩
  · obtain ⟨i, hi, rfl⟩ := List.mem_map.1 hp
    have := hf i (by simpa using hi)
    exact ⟨this.1, this.2.1⟩
  · have e : ((List.range len).map f).getD i nopair = f i := by simp [List.getD_eq_getElem?_getD, hi]
    rw [e]
    exact ⟨(hf i hi).2.2.1, (hf i hi).2.2.2⟩
end Go.Proofs.Qxb6603898a
