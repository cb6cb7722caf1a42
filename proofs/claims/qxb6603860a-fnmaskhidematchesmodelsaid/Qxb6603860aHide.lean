import Derived.Test.Qxb6603860aPlain
import Derived.Test.Qxb6603860aBuild
import Derived.Test.Qxb6603860aShelf
import Derived.Deep.QuietTactic
import Derived.BigQuiet
namespace Go.Proofs.Qxb6603860a
open Go.RowKit Go.Maps

theorem Try.info4 : (Try.prog.info? 4).map (fun i => (i.zero, i.size, i.bytes)) = some (some (.bool false), 1, 1) := by kernel_rfl

/-- hide's variable 'covered' (v), and the world: nil yet, or a row of its own that holds the marks B. -/
def Hst (w : World) (mb : Nat) (x : Addr) (ln lc : Nat) (t : ByteArray) (v : Value) (B : List Bool) (wr : World) : Prop :=
  (v = .slice none 0 0 ∧ B = List.replicate t.size false ∧ ∃ q, wr = (w.alloc (.cells #[.map (some mb), .slice (some x) ln lc] 32)).drewN q) ∨
  (v = .slice (some ⟨w.heap.size + 1, 0, none⟩) t.size t.size ∧ ∃ q, wr = ((w.alloc (.cells #[.map (some mb), .slice (some x) ln lc] 32)).drewN q).alloc (.cells (B.map Value.bool).toArray 4))
theorem Hst.below {w : World} {mb : Nat} {x : Addr} {ln lc : Nat} {t : ByteArray} {v : Value} {B : List Bool} {wr : World} (h : Hst w mb x ln lc t v B wr) : Below w.heap.size w wr := by
  rcases h with ⟨_, _, q, rfl⟩ | ⟨_, q, rfl⟩
  · exact below_drewN ((Below.refl _ _).alloc (Nat.le_refl _) _) q
  · exact (below_drewN ((Below.refl _ _).alloc (Nat.le_refl _) _) q).alloc (by simp) _

theorem IsSet.below {w w' : World} {b n : Nat} {ss : List ByteArray} (h : IsSet w b n ss) (hb : Below w.heap.size w w') : IsSet w' b n ss :=
  World.ownsMap.kept h (row := none) ⟨hb.os, hb.tape, hb.output, hb.size, fun k hk _ => hb.block k hk⟩ (by simp)
theorem size_extract_le (t : ByteArray) (a b : Nat) (h : t.size ≤ 1048576) : (t.extract a b).size ≤ maxLen := by
  simp [ByteArray.size_extract, maxLen]; omega

theorem covI_miss {ls : List Int} {ss : List ByteArray} {t : ByteArray} {k m j : Nat} {B : List Bool} (h : Marks (covI ls ss t k m j) t.size B) (hno : ¬ inSet ss (t.extract j (j + m)) = true) : Marks (covI ls ss t k m (j + 1)) t.size B := by
  refine h.iff (fun r _ => ?_)
  constructor
  · rintro (h | ⟨i', h1, h2⟩)
    · exact .inl h
    · exact .inr ⟨i', by omega, h2⟩
  · rintro (h | ⟨i', h1, h2, h3⟩)
    · exact .inl h
    · by_cases e : i' = j
      · subst e; exact absurd h2.2 hno
      · exact .inr ⟨i', by omega, h2, h3⟩
theorem covI_hit {ls : List Int} {ss : List ByteArray} {t : ByteArray} {k m j : Nat} {B : List Bool} (h : Marks (fun r => covI ls ss t k m j r ∨ (j ≤ r ∧ r < j + m)) t.size B) (hle : j + m ≤ t.size) (hyes : inSet ss (t.extract j (j + m)) = true) : Marks (covI ls ss t k m (j + 1)) t.size B := by
  refine h.iff (fun r _ => ?_)
  constructor
  · rintro ((h | ⟨i', h1, h2⟩) | h)
    · exact .inl h
    · exact .inr ⟨i', by omega, h2⟩
    · exact .inr ⟨j, by omega, ⟨hle, hyes⟩, h⟩
  · rintro (h | ⟨i', h1, h2, h3⟩)
    · exact .inl (.inl h)
    · by_cases e : i' = j
      · subst e; exact .inr h3
      · exact .inl (.inr ⟨i', by omega, h2, h3⟩)
theorem covK_succ {ls : List Int} {ss : List ByteArray} {t : ByteArray} {k m j : Nat} {B : List Bool} (hm : ls.getD k 0 = m) (h : Marks (covI ls ss t k m j) t.size B) (hj : t.size < j + m) : Marks (covK ls ss t (k + 1)) t.size B := by
  refine h.iff (fun r _ => ?_)
  constructor
  · rintro (⟨q, h1, h2⟩ | ⟨i', h1, h2, h3⟩)
    · exact ⟨q, by omega, h2⟩
    · exact ⟨k, by omega, i', by rw [hm, Int.toNat_natCast]; exact ⟨h2, h3⟩⟩
  · rintro ⟨q, h1, i', h2, h3⟩
    by_cases e : q = k
    · subst e
      rw [hm, Int.toNat_natCast] at h2 h3
      exact .inr ⟨i', by have := h2.1; omega, h2, h3⟩
    · exact .inl ⟨q, by omega, i', h2, h3⟩
theorem alloc_drewN (w : World) (o : Obj) (n : Nat) : (w.alloc o).drewN n = (w.drewN n).alloc o := rfl

/-- The world as the builder's loop begins. -/
theorem bld_world (w : World) (mb : Nat) (x : Addr) (k lc : Nat) (t : ByteArray) (B : List Bool) (q : Nat) (hB : B.length = t.size) :
    ∃ W : World, W = ((((w.alloc (.cells #[.map (some mb), .slice (some x) k lc] 32)).drewN q).alloc (.cells (B.map Value.bool).toArray 4)).alloc (.cells #[.pointer none, .slice none 0 0] 39)) ∧ W.heap.size = w.heap.size + 3 ∧
      (∀ i, i < t.size → W.cell? ⟨w.heap.size + 1, i, none⟩ = some (.bool (B.getD i false))) ∧ Below w.heap.size w W ∧ Lib.IsBuilderF 39 5 (w.heap.size + 1 + 1) (w.heap.size + 1 + 1) (Lib.byteCells (rend t B 0)) W := by
  refine ⟨_, rfl, by simp, fun i hi => ?_, ((below_drewN ((Below.refl _ _).alloc (Nat.le_refl _) _) q).alloc (by simp) _).alloc (by simp; omega) _, ?_⟩
  · rw [World.cell?_alloc_past _ _ _ (by simp), World.cell?_alloc_at _ _ _ _ (by simp)]
    simp [List.getD_eq_getElem?_getD, List.getElem?_eq_getElem (show i < B.length by rw [hB]; exact hi)]
  · have h := Lib.IsBuilderF.of (Lib.fresh_isBuilder 39 5 (((w.alloc (.cells #[.map (some mb), .slice (some x) k lc] 32)).drewN q).alloc (.cells (B.map Value.bool).toArray 4)))
    have e : ((((w.alloc (.cells #[.map (some mb), .slice (some x) k lc] 32)).drewN q).alloc (.cells (B.map Value.bool).toArray 4))).heap.size = w.heap.size + 1 + 1 := by simp
    rw [e] at h
    exact h

set_option maxHeartbeats 1000000 in
theorem hide_some (x : Addr) (ln lc mb mn : Nat) (ls : List Int) (ss : List ByteArray) (t : ByteArray) (w : World) (hl : ls.length = ln) (hm : ln ≤ 65536) (ht : t.size ≤ 1048576)
    (hnn : ∀ k, k < ln → ∃ m : Nat, ls.getD k 0 = m ∧ m ≤ 9223372036854775807)
    (hc : ∀ i, i < ln → w.cell? (x.add i) = some (.int .i64 (ls.getD i 0))) (hS : IsSet w mb mn ss) :
    Calls Try.prog 10 #[.agg #[.map (some mb), .slice (some x) ln lc], .string t] w fun e w' => ∃ B, Marks (covK ls ss t ln) t.size B ∧ e = .returned (.string ⟨(rend t B t.size).toArray⟩) ∧ Below w.heap.size w w' := by
  have HL : Hid (ls.length = ln) := hl
  have hq := nil34
  have hmk := fun w => run_make_flat (P := Try.prog) w 34 4 (.bool false) 1 t.size Try.underlying34 Try.info4 rfl (by omega) (by omega)
  go_enter Try.func10, Try.ntmps10
  go_wp2
  go_loopw [5, 15] (fun v i wr => ∃ (k : Nat) (B : List Bool), k ≤ ln ∧ i = .int .i64 k ∧ Marks (covK ls ss t k) t.size B ∧ Hst w mb x ln lc t v B wr)
    (fun _ i _ => ln - (intOf i).toNat)
  case atStart => exact ⟨0, _, Nat.zero_le _, rfl, Marks.none (by rintro j _ ⟨q, hq, _⟩; omega), .inl ⟨rfl, rfl, 0, rfl⟩⟩
  case round =>
    obtain ⟨k, B, hk, rfl, hB, hH⟩ := hrel
    by_cases hlt : k < ln
    · obtain ⟨m, hm1, hm2⟩ := hnn k hlt
      have hcell := hc k hlt
      rw [hm1] at hcell
      have hcx : wr.cell? (x.add k) = some (.int .i64 (m : Int)) := (hH.below.cell (cell_lt hcell)).trans hcell
      have HM : Hid (ls.getD k 0 = m) := hm1
      clear hm1 hcell
      go_wp2
      obtain ⟨wo, rfl⟩ : ∃ wo : World, wo = wr := ⟨_, rfl⟩
      go_loopw [5, 8] (fun v i wr => ∃ (j : Nat) (B : List Bool), (j = 0 ∨ j + m ≤ t.size + 1) ∧ i = .int .i64 j ∧ Marks (covI ls ss t k m j) t.size B ∧ Hst w mb x ln lc t v B wr)
        (fun _ i _ => t.size + 1 - (intOf i).toNat)
      case atStart => exact ⟨0, B, .inl rfl, rfl, hB.iff (fun j _ => ⟨.inl, fun h => h.elim id (fun ⟨_, h, _⟩ => absurd h (Nat.not_lt_zero _))⟩), hH⟩
      case round =>
        clear hB hH hcx
        obtain ⟨j, B, hj, rfl, hB, hH⟩ := hrel
        by_cases hjm : j + m ≤ t.size
        · rcases hH with ⟨rfl, rfl, q, rfl⟩ | ⟨rfl, q, rfl⟩
          · have hlk : ∀ q a b, (Instr.lookup 27 (.map (some mb)) (.string (t.extract a b)) false).run Try.prog ((w.alloc (.cells #[.map (some mb), .slice (some x) ln lc] 32)).drewN q) = .ok (.bool (inSet ss (t.extract a b))) ((w.alloc (.cells #[.map (some mb), .slice (some x) ln lc] 32)).drewN q) :=
              fun q a b => (hS.below (below_drewN ((Below.refl _ _).alloc (Nat.le_refl _) _) q)).look _ (size_extract_le t a b ht)
            go_wp2
            go_quiet (fail)
            go_wp2
            · have hno0 : (!inSet ss (t.extract j (j + m))) = true := by assumption
              have hno : inSet ss (t.extract j (j + m)) = false := by simpa using hno0
              go_roundw
              case rel => exact ⟨j + 1, _, .inr (by omega), by go_num, covI_miss hB (by rw [hno]; decide), .inl ⟨rfl, rfl, _, rfl⟩⟩
              case measure => simp [intOf]; omega
            · have hyes0 : (!inSet ss (t.extract j (j + m))) = false := by assumption
              have hyes : inSet ss (t.extract j (j + m)) = true := by simpa using hyes0
              go_loopw [9] (fun i wr => ∃ (p : Nat) (C : List Bool), j ≤ p ∧ p ≤ j + m ∧ i = .int .i64 p ∧ Marks (fun r => covI ls ss t k m j r ∨ (j ≤ r ∧ r < p)) t.size C ∧ ∃ q, wr = ((w.alloc (.cells #[.map (some mb), .slice (some x) ln lc] 32)).drewN q).alloc (.cells (C.map Value.bool).toArray 4))
                (fun i _ => j + m - (intOf i).toNat)
              case atStart => exact ⟨j, _, Nat.le_refl _, by omega, rfl, hB.iff (fun r _ => ⟨.inl, fun h => h.elim id (fun h => by omega)⟩), q + nq, by simp⟩
              case round =>
                obtain ⟨p, C, hp1, hp2, rfl, hC, q', rfl⟩ := hrel
                by_cases hpl : p < j + m
                · obtain ⟨c0, hc0⟩ : ∃ c0, (C.map Value.bool)[p]? = some c0 := ⟨_, List.getElem?_eq_getElem (by simp [hC.1]; omega)⟩
                  go_wp2
                  go_roundw
                  case rel => exact ⟨p + 1, C.set p true, by omega, by omega, by go_num, mark_step hC (by omega) hp1, q', by simp [List.map_set]⟩
                  case measure => simp [intOf]; omega
                · obtain rfl : p = j + m := by omega
                  go_wp2
                  go_roundw
                  case rel => exact ⟨j + 1, C, .inr (by omega), by go_num, covI_hit hC hjm hyes, .inr ⟨rfl, q', rfl⟩⟩
                  case measure => simp [intOf]; omega
          · have hlk : ∀ n a b, (Instr.lookup 27 (.map (some mb)) (.string (t.extract a b)) false).run Try.prog ((((w.alloc (.cells #[.map (some mb), .slice (some x) ln lc] 32)).drewN q).alloc (.cells (B.map Value.bool).toArray 4)).drewN n) = .ok (.bool (inSet ss (t.extract a b))) ((((w.alloc (.cells #[.map (some mb), .slice (some x) ln lc] 32)).drewN q).alloc (.cells (B.map Value.bool).toArray 4)).drewN n) :=
              fun n a b => (hS.below (below_drewN ((below_drewN ((Below.refl _ _).alloc (Nat.le_refl _) _) q).alloc (by simp) _) n)).look _ (size_extract_le t a b ht)
            have hw1 : ∀ n, (((w.alloc (.cells #[.map (some mb), .slice (some x) ln lc] 32)).drewN q).alloc (.cells (B.map Value.bool).toArray 4)).drewN n = ((w.alloc (.cells #[.map (some mb), .slice (some x) ln lc] 32)).drewN (q + n)).alloc (.cells (B.map Value.bool).toArray 4) := fun n => by rw [alloc_drewN, World.drewN_drewN]
            have HW : Hid (∀ n, _) := hw1
            clear hw1
            go_wp2
            go_quiet (fail)
            go_wp2
            · have hno0 : (!inSet ss (t.extract j (j + m))) = true := by assumption
              have hno : inSet ss (t.extract j (j + m)) = false := by simpa using hno0
              go_roundw
              case rel => exact ⟨j + 1, _, .inr (by omega), by go_num, covI_miss hB (by rw [hno]; decide), .inr ⟨rfl, _, HW.out _⟩⟩
              case measure => simp [intOf]; omega
            · have hyes0 : (!inSet ss (t.extract j (j + m))) = false := by assumption
              have hyes : inSet ss (t.extract j (j + m)) = true := by simpa using hyes0
              go_loopw [9] (fun i wr => ∃ (p : Nat) (C : List Bool), j ≤ p ∧ p ≤ j + m ∧ i = .int .i64 p ∧ Marks (fun r => covI ls ss t k m j r ∨ (j ≤ r ∧ r < p)) t.size C ∧ ∃ q, wr = ((w.alloc (.cells #[.map (some mb), .slice (some x) ln lc] 32)).drewN q).alloc (.cells (C.map Value.bool).toArray 4))
                (fun i _ => j + m - (intOf i).toNat)
              case atStart => exact ⟨j, _, Nat.le_refl _, by omega, rfl, hB.iff (fun r _ => ⟨.inl, fun h => h.elim id (fun h => by omega)⟩), q + nq, HW.out _⟩
              case round =>
                obtain ⟨p, C, hp1, hp2, rfl, hC, q', rfl⟩ := hrel
                by_cases hpl : p < j + m
                · obtain ⟨c0, hc0⟩ : ∃ c0, (C.map Value.bool)[p]? = some c0 := ⟨_, List.getElem?_eq_getElem (by simp [hC.1]; omega)⟩
                  go_wp2
                  go_roundw
                  case rel => exact ⟨p + 1, C.set p true, by omega, by omega, by go_num, mark_step hC (by omega) hp1, q', by simp [List.map_set]⟩
                  case measure => simp [intOf]; omega
                · obtain rfl : p = j + m := by omega
                  go_wp2
                  go_roundw
                  case rel => exact ⟨j + 1, C, .inr (by omega), by go_num, covI_hit hC hjm hyes, .inr ⟨rfl, q', rfl⟩⟩
                  case measure => simp [intOf]; omega
        · have hB' := covK_succ HM.out hB (by omega)
          go_wp2
          go_roundw
          case rel => exact ⟨k + 1, B, by omega, by go_num, hB', hH⟩
          case measure => simp [intOf]; omega
    · obtain rfl : k = ln := by omega
      rcases hH with ⟨rfl, rfl, q, rfl⟩ | ⟨rfl, q, rfl⟩
      · go_wp2
        go_ret
        refine ⟨_, hB, ?_, below_drewN ((Below.refl _ _).alloc (Nat.le_refl _) _) q⟩
        rw [rend_none t _ _ (Nat.le_refl _), List.take_of_length_le (by simp)]
        rfl
      · go_wp2
        obtain ⟨W, hW, hWs, hWc, hWb, hWB⟩ := bld_world w mb x k lc t B q hB.1
        rw [← hW]
        clear hW
        go_loopw [59] (fun i wr => ∃ n : Nat, n ≤ t.size ∧ i = .int .i64 n ∧ Lib.IsBuilderF 39 5 (w.heap.size + 1 + 1) (w.heap.size + 1 + 1) (Lib.byteCells (rend t B n)) wr ∧ Below (w.heap.size + 1 + 1) W wr) (fun i _ => t.size - (intOf i).toNat)
        case atStart => exact ⟨0, Nat.zero_le _, rfl, hWB, Below.refl _ _⟩
        case round =>
          obtain ⟨n, hn, rfl, hI, hb⟩ := hrel
          have hws := hb.size
          have hrl := rend_le t B n
          by_cases hlt' : n < t.size
          · have hcn : wr.cell? ⟨w.heap.size + 1, n, none⟩ = some (.bool (B.getD n false)) := (hb.cell (by simp)).trans (hWc n hlt')
            cases e1 : B.getD n false with
            | false =>
              rw [e1] at hcn
              have E1 : Hid (B.getD n false = false) := e1
              clear e1
              go_wp2_with fail
              refine (Bld.writeByte _ _ _ _ _ hI (by rw [Lib.byteCells_length]; omega) (by omega)).mono ?_
              rintro e w1 ⟨rfl, h1, hb1, _⟩
              rw [rend_byte t B n hlt' E1.out] at h1
              go_wp2
              go_roundw
              case rel => exact ⟨n + 1, by omega, by go_num, .inr h1, hb.trans hb1⟩
              case measure => simp [intOf]; omega
            | true =>
              rw [e1] at hcn
              have E1 : Hid (B.getD n false = true) := e1
              clear e1
              by_cases hn0 : n = 0
              · subst hn0
                go_wp2_with fail
                refine (Bld.writeString _ _ _ _ _ hI (by rw [Lib.byteCells_length]; simp [rend, ByteArray.size]) (by omega)).mono ?_
                rintro e w1 ⟨rfl, h1, hb1, _⟩
                rw [rend_xs t B 0 E1.out (.inl rfl)] at h1
                go_wp2
                go_roundw
                case rel => exact ⟨1, by omega, by go_num, .inr h1, hb.trans hb1⟩
                case measure => simp [intOf]; omega
              · have hcp : wr.cell? ⟨w.heap.size + 1, n - 1, none⟩ = some (.bool (B.getD (n - 1) false)) := (hb.cell (by simp)).trans (hWc (n - 1) (by omega))
                cases e2 : B.getD (n - 1) false with
                | false =>
                  rw [e2] at hcp
                  have E2 : Hid (B.getD (n - 1) false = false) := e2
                  clear e2
                  go_wp2_with fail
                  refine (Bld.writeString _ _ _ _ _ hI (by rw [Lib.byteCells_length]; simp [ByteArray.size]; omega) (by omega)).mono ?_
                  rintro e w1 ⟨rfl, h1, hb1, _⟩
                  rw [rend_xs t B n E1.out (.inr E2.out)] at h1
                  go_wp2
                  go_roundw
                  case rel => exact ⟨n + 1, by omega, by go_num, .inr h1, hb.trans hb1⟩
                  case measure => simp [intOf]; omega
                | true =>
                  rw [e2] at hcp
                  have E2 : Hid (B.getD (n - 1) false = true) := e2
                  clear e2
                  rw [rend_in t B n E1.out hn0 E2.out] at hI
                  go_wp2_with fail
                  go_roundw
                  case rel => exact ⟨n + 1, by omega, by go_num, hI, hb⟩
                  case measure => simp [intOf]; omega
          · obtain rfl : n = t.size := by omega
            go_wp2_with fail
            refine (Try.Builder_String_any_k _ _ _ _ hI (by omega)).mono ?_
            rintro e w1 ⟨rfl, _, hb1, _⟩
            go_wp2
            go_ret
            exact ⟨B, hB, rfl, hWb.trans ((hb.trans hb1).mono (by omega))⟩

set_option maxHeartbeats 1000000 in
/-- No lengths: the text as it is. -/
theorem hide_nil (mb : Nat) (ss : List ByteArray) (t : ByteArray) (w : World) :
    Calls Try.prog 10 #[.agg #[.map (some mb), .slice none 0 0], .string t] w fun e w' => ∃ B, Marks (covK [] ss t 0) t.size B ∧ e = .returned (.string ⟨(rend t B t.size).toArray⟩) ∧ Below w.heap.size w w' := by
  have hq := nil34
  go_enter Try.func10, Try.ntmps10
  go_wp2
  go_loop [5, 15] (fun v i => v = .slice none 0 0 ∧ i = .int .i64 0) (fun _ _ => 0)
  case atStart => exact ⟨rfl, rfl⟩
  case round =>
    obtain ⟨rfl, rfl⟩ := hrel
    go_wp2
    go_ret
    refine ⟨_, Marks.none (by rintro j _ ⟨q, hq, _⟩; omega), ?_, (Below.refl _ _).alloc (Nat.le_refl _) _⟩
    rw [rend_none t _ _ (Nat.le_refl _), List.take_of_length_le (by simp)]
    rfl

/-- ZZMaskHide hands on. -/
theorem zz_some (x : Addr) (ln lc mb mn : Nat) (ls : List Int) (ss : List ByteArray) (t : ByteArray) (w : World) (hl : ls.length = ln) (hm : ln ≤ 65536) (ht : t.size ≤ 1048576)
    (hnn : ∀ k, k < ln → ∃ m : Nat, ls.getD k 0 = m ∧ m ≤ 9223372036854775807)
    (hc : ∀ i, i < ln → w.cell? (x.add i) = some (.int .i64 (ls.getD i 0))) (hS : IsSet w mb mn ss) :
    Calls Try.prog 8 #[.map (some mb), .slice (some x) ln lc, .string t] w fun e w' => ∃ B, Marks (covK ls ss t ln) t.size B ∧ e = .returned (.string ⟨(rend t B t.size).toArray⟩) ∧ Below w.heap.size w w' := by
  go_enter Try.func8, Try.ntmps8
  go_wp2_with fail
  refine (hide_some x ln lc mb mn ls ss t w hl hm ht hnn hc hS).mono ?_
  rintro e w1 ⟨B, h1, rfl, h2⟩
  go_wp2
  go_ret
  exact ⟨B, h1, rfl, h2⟩
theorem zz_nil (mb : Nat) (ss : List ByteArray) (t : ByteArray) (w : World) :
    Calls Try.prog 8 #[.map (some mb), .slice none 0 0, .string t] w fun e w' => ∃ B, Marks (covK [] ss t 0) t.size B ∧ e = .returned (.string ⟨(rend t B t.size).toArray⟩) ∧ Below w.heap.size w w' := by
  go_enter Try.func8, Try.ntmps8
  go_wp2_with fail
  refine (hide_nil mb ss t w).mono ?_
  rintro e w1 ⟨B, h1, rfl, h2⟩
  go_wp2
  go_ret
  exact ⟨B, h1, rfl, h2⟩
end Go.Proofs.Qxb6603860a
